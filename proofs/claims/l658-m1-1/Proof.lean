import JvmDerived
import JvmDerived.Pilot.@@N@@Statement
import JvmDerived.Pilot.@@N@@Code
set_option linter.unusedVariables false
set_option linter.unusedSimpArgs false
namespace Jvm.Pilot.@@N@@
open Jvm Jvm.ClassFile Sem Op Lib Jvm.Free Jvm.Stand Jvm.LawKit Jvm.RoadKit Bundle Jvm.Pilot.@@N@@.Jvm.D
section OwnKit
variable {p : Program} {l : Launch} {e : Env} {R : Room} {s : State} {m : MethodId} {args : Array Value} {below : List Frame} {meth : Method} {c : Code} {T : State} {locs : List Loc} {cells slots : Nat}
theorem own_retI (X : Stand p l e R s m args below meth c T locs cells slots) (hx : p.tables.exec = Jvm.exec) {pc : Nat} {Ls : Array Slot} {z : Int32} {rest : List Value} (hret : meth.sig.returnType = some .int) (hd : decode c.code pc = .ok (.ireturn, 1)) {fs : List Frame}
    (hl : ∀ (f : JFrame) (acts : List Action), f.method = m → f.locked = none → f.entered = [] → (doReturn e (T.setTop f) acts (some (.int z))).1 = T.setFrames fs) : Steps p.tables e below (T.setTop (mkF m pc Ls (.int z :: rest))) (T.setFrames fs) := by
  have hm' : T.vm.method? m = some meth := X.method'
  have hn : narrow .int (.int z) = .int z := rfl
  show Steps p.tables e below (T.setTop { method := m, pc := pc, locals := Ls, stack := _ :: rest, locked := none }) _
  jvm_step X.here [X.here.top, hx, hd, hm', hret, hn]
  first | (intro acts; rw [hl _ acts rfl rfl rfl]) | rw [hl _ _ rfl rfl rfl]
  exact Steps.refl _
theorem own_retJ (X : Stand p l e R s m args below meth c T locs cells slots) (hx : p.tables.exec = Jvm.exec) {pc : Nat} {Ls : Array Slot} {z : Int64} {rest : List Value} (hret : meth.sig.returnType = some .long) (hd : decode c.code pc = .ok (.lreturn, 1)) {fs : List Frame}
    (hl : ∀ (f : JFrame) (acts : List Action), f.method = m → f.locked = none → f.entered = [] → (doReturn e (T.setTop f) acts (some (.long z))).1 = T.setFrames fs) : Steps p.tables e below (T.setTop (mkF m pc Ls (.long z :: rest))) (T.setFrames fs) := by
  have hm' : T.vm.method? m = some meth := X.method'
  have hn : narrow .long (.long z) = .long z := rfl
  show Steps p.tables e below (T.setTop { method := m, pc := pc, locals := Ls, stack := _ :: rest, locked := none }) _
  jvm_step X.here [X.here.top, hx, hd, hm', hret, hn]
  first | (intro acts; rw [hl _ acts rfl rfl rfl]) | rw [hl _ _ rfl rfl rfl]
  exact Steps.refl _
theorem own_retA (X : Stand p l e R s m args below meth c T locs cells slots) (hx : p.tables.exec = Jvm.exec) {pc : Nat} {Ls : Array Slot} {w : Value} {t : FieldType} {rest : List Value} (hret : meth.sig.returnType = some t) (ht : t.isReference = true) (hw : w.isRef = true) (hd : decode c.code pc = .ok (.areturn, 1)) {fs : List Frame}
    (hl : ∀ (f : JFrame) (acts : List Action), f.method = m → f.locked = none → f.entered = [] → (doReturn e (T.setTop f) acts (some w)).1 = T.setFrames fs) : Steps p.tables e below (T.setTop (mkF m pc Ls (w :: rest))) (T.setFrames fs) :=
  retOut X hx hret (by cases t <;> first | (cases ht; done) | (cases w <;> first | rfl | (cases hw; done))) (Or.inr (Or.inr (Or.inr (Or.inr ⟨rfl, ht, hw⟩)))) hd hl
/-- the run from S ends, returned, as Q says -/
def OwnR (p : Program) (e : Env) (below : List Frame) (s : State) (Q : Option Value → Heap → List Loc → Prop) (kc ks : Nat) (S : State) : Prop :=
  ∃ s₂ o, Steps p.tables e below S s₂ ∧ s₂.status = .running ∧ Ended s₂ below o ∧ ∃ v L, o = .returned v ∧ Q v s₂.heap L ∧ FrameEnd s o s₂ L kc ks
theorem OwnR.of {Q : Option Value → Heap → List Loc → Prop} {kc ks : Nat} {S S' : State} (k : ∀ t, Steps p.tables e below S' t → Steps p.tables e below S t) (h : OwnR p e below s Q kc ks S') : OwnR p e below s Q kc ks S := by
  obtain ⟨a, o, h1, h2⟩ := h
  exact ⟨a, o, k a h1, h2⟩
theorem own_leafI (X : Stand p l e R s m args below meth c T locs cells slots) (hx : p.tables.exec = Jvm.exec) (hlk : meth.locks = false) (hret : meth.sig.returnType = some .int) {Q : Option Value → Heap → List Loc → Prop} {kc ks pc : Nat} {Ls : Array Slot} {z : Int32} {rest : List Value} (hd : decode c.code pc = .ok (.ireturn, 1)) (hk : cells ≤ kc) (hs : slots ≤ ks) (hQ : Q (some (.int z)) T.heap locs) :
    OwnR p e below s Q kc ks (T.setTop (mkF m pc Ls (.int z :: rest))) := by
  obtain ⟨fs, hr, hrun, hended, hW, hsame⟩ := X.leave (v := some (.int z)) (fun h => by rw [hret] at h; cases h) hlk
  exact ⟨_, _, own_retI X hx hret hd hr, hrun, hended, _, _, rfl, hQ, ⟨_, rfl⟩, hW, hsame.mono hk hs⟩
theorem own_leafN (X : Stand p l e R s m args below meth c T locs cells slots) (hx : p.tables.exec = Jvm.exec) (hlk : meth.locks = false) {t : FieldType} (hret : meth.sig.returnType = some t) (ht : t = .boolean ∨ t = .byte ∨ t = .char ∨ t = .short) {Q : Option Value → Heap → List Loc → Prop} {kc ks pc : Nat} {Ls : Array Slot} {z z' : Int32} {rest : List Value} (hd : decode c.code pc = .ok (.ireturn, 1)) (hz : nar t z = z') (hk : cells ≤ kc) (hs : slots ≤ ks) (hQ : Q (some (.int z')) T.heap locs) :
    OwnR p e below s Q kc ks (T.setTop (mkF m pc Ls (.int z :: rest))) := by
  subst hz
  obtain ⟨fs, hr, hrun, hended, hW, hsame⟩ := X.leave (v := some (.int (nar t z))) (fun h => by rw [hret] at h; cases h) hlk
  exact ⟨_, _, retN X hx hret ht hd hr, hrun, hended, _, _, rfl, hQ, ⟨_, rfl⟩, hW, hsame.mono hk hs⟩
theorem own_leafJ (X : Stand p l e R s m args below meth c T locs cells slots) (hx : p.tables.exec = Jvm.exec) (hlk : meth.locks = false) (hret : meth.sig.returnType = some .long) {Q : Option Value → Heap → List Loc → Prop} {kc ks pc : Nat} {Ls : Array Slot} {z : Int64} {rest : List Value} (hd : decode c.code pc = .ok (.lreturn, 1)) (hk : cells ≤ kc) (hs : slots ≤ ks) (hQ : Q (some (.long z)) T.heap locs) :
    OwnR p e below s Q kc ks (T.setTop (mkF m pc Ls (.long z :: rest))) := by
  obtain ⟨fs, hr, hrun, hended, hW, hsame⟩ := X.leave (v := some (.long z)) (fun h => by rw [hret] at h; cases h) hlk
  exact ⟨_, _, own_retJ X hx hret hd hr, hrun, hended, _, _, rfl, hQ, ⟨_, rfl⟩, hW, hsame.mono hk hs⟩
theorem own_leafA (X : Stand p l e R s m args below meth c T locs cells slots) (hx : p.tables.exec = Jvm.exec) (hlk : meth.locks = false) {t : FieldType} (hret : meth.sig.returnType = some t) (ht : t.isReference = true) {Q : Option Value → Heap → List Loc → Prop} {kc ks pc : Nat} {Ls : Array Slot} {w : Value} (hw : w.isRef = true) {rest : List Value} (hd : decode c.code pc = .ok (.areturn, 1)) (hk : cells ≤ kc) (hs : slots ≤ ks) (hQ : Q (some w) T.heap locs) :
    OwnR p e below s Q kc ks (T.setTop (mkF m pc Ls (w :: rest))) := by
  obtain ⟨fs, hr, hrun, hended, hW, hsame⟩ := X.leave (v := some w) (fun h => by rw [hret] at h; cases h) hlk
  exact ⟨_, _, own_retA X hx hret ht hw hd hr, hrun, hended, _, _, rfl, hQ, ⟨_, rfl⟩, hW, hsame.mono hk hs⟩
theorem own_leafV (X : Stand p l e R s m args below meth c T locs cells slots) (hx : p.tables.exec = Jvm.exec) (hlk : meth.locks = false) (hret : meth.sig.returnType = none) {Q : Option Value → Heap → List Loc → Prop} {kc ks pc : Nat} {Ls : Array Slot} (hd : decode c.code pc = .ok (.return_, 1)) (hk : cells ≤ kc) (hs : slots ≤ ks) (hQ : Q none T.heap locs) :
    OwnR p e below s Q kc ks (T.setTop (mkF m pc Ls [])) := by
  obtain ⟨fs, hr, hrun, hended, hW, hsame⟩ := X.leave (v := none) (fun _ => rfl) hlk
  exact ⟨_, _, X.returnOut hx hret hd hr, hrun, hended, _, _, rfl, hQ, ⟨_, rfl⟩, hW, hsame.mono hk hs⟩
theorem own_sta {Z : State} {h h' : Heap} {C n d : String} {v : Value} (F : Sta Z h C n d v) (K : Keep h h' []) : Sta Z h' C n d v := by
  obtain ⟨cf, i, k, f, st, cell, h1, h2, h3, h4, h5, r⟩ := F
  exact ⟨cf, i, k, f, st, cell, h1, h2, h3, h4, K.2.1 _ _ h5 nin0, r⟩
theorem own_arr {Z : State} {h h' : Heap} {a : Addr} {c : Cell} {ty : FieldType} {ws : List Addr} (A : Arr Z h a c ty) (K : Keep h h' ws) (q : a ∉ ws) : Arr Z h' a c ty := ⟨K.2.1 _ _ A.1 q, A.2⟩
theorem own_lclt (a b : Int64) : lcmpW a b < 0 ↔ a < b := by
  obtain ⟨h1, h2, h3⟩ := c_lcmp a b
  have e1 := @Int64.lt_iff_toInt_lt a b
  have e2 := @Int32.lt_iff_toInt_lt (lcmpW a b) 0
  have e0 : (0 : Int32).toInt = 0 := by decide
  rw [e1, e2, e0]; omega
theorem own_lcgt (a b : Int64) : 0 < lcmpW a b ↔ b < a := by
  obtain ⟨h1, h2, h3⟩ := c_lcmp a b
  have e1 := @Int64.lt_iff_toInt_lt b a
  have e2 := @Int32.lt_iff_toInt_lt 0 (lcmpW a b)
  have e0 : (0 : Int32).toInt = 0 := by decide
  rw [e1, e2, e0]; omega
theorem own_lceq (a b : Int64) : lcmpW a b = 0 ↔ a = b := by
  obtain ⟨h1, h2, h3⟩ := c_lcmp a b
  have e0 : (0 : Int32).toInt = 0 := by decide
  rw [← Int64.toInt_inj, ← Int32.toInt_inj, e0]; omega
end OwnKit
theorem own_mod (x y : Int32) (hy : 0 < y.toInt) : 0 ≤ ((x &&& 2147483647) % y).toInt ∧ ((x &&& 2147483647) % y).toInt < y.toInt := by
  have h := (c_and x 2147483647 (by decide)).1
  have q := (c_iremV (x &&& 2147483647) y).1 h hy
  exact ⟨q.1, q.2.1⟩
def own_imax (x y : Int32) : Int32 := if x < y then y else x
def own_cnt (x : Int32) : Int32 := own_imax 1 (x &&& 2147483647)
theorem own_cnt1 (x : Int32) : ¬ own_cnt x < 1 := by
  unfold own_cnt own_imax
  split
  · rename_i h; rw [Int32.lt_iff_toInt_lt] at *; omega
  · decide
theorem own_five (x : Int32) : (x &&& 2147483647) % 5 = 0 ∨ (x &&& 2147483647) % 5 = 1 ∨ (x &&& 2147483647) % 5 = 2 ∨ (x &&& 2147483647) % 5 = 3 ∨ (x &&& 2147483647) % 5 = 4 := by
  obtain ⟨h1, h2⟩ := own_mod x 5 (by decide)
  have e : (5 : Int32).toInt = 5 := by decide
  rw [e] at h2
  have e0 : (0 : Int32).toInt = 0 := by decide
  have e1 : (1 : Int32).toInt = 1 := by decide
  have e2 : (2 : Int32).toInt = 2 := by decide
  have e3 : (3 : Int32).toInt = 3 := by decide
  have e4 : (4 : Int32).toInt = 4 := by decide
  simp only [← Int32.toInt_inj, e0, e1, e2, e3, e4]
  omega
theorem ef_rm2 (m : MethodId) (x0 : Int32) (x1 : Int32) : entryFrame m #[(.int x0), (.int x1)] 2 = mkF m 0 #[.val (.int x0), .val (.int x1)] [] := by first | (simp [entryFrame, mkF, argsToLocals, Value.category]; done) | rfl
theorem d2_0 : decode jdk_29_method_65_code 0 = .ok (.iload_n 0, 1) := by decide +kernel
theorem d2_1 : decode jdk_29_method_65_code 1 = .ok (.iload_n 1, 1) := by decide +kernel
theorem d2_2 : decode jdk_29_method_65_code 2 = .ok (.if_icmp .lt 7, 3) := by decide +kernel
theorem d2_9 : decode jdk_29_method_65_code 9 = .ok (.iload_n 1, 1) := by decide +kernel
theorem d2_10 : decode jdk_29_method_65_code 10 = .ok (.ireturn, 1) := by decide +kernel
theorem d2_5 : decode jdk_29_method_65_code 5 = .ok (.iload_n 0, 1) := by decide +kernel
theorem d2_6 : decode jdk_29_method_65_code 6 = .ok (.goto 4, 3) := by decide +kernel
def Q2 (Z : State) (p1 : Int32) (p2 : Int32) (h0 : Heap) (n0 : Nat) (v : Option Value) (h : Heap) (L : List Loc) : Prop := v = some (.int (own_imax p1 p2)) ∧ Fr n0 L ∧ h = h0
set_option maxRecDepth 65536 in
set_option maxHeartbeats 40000000 in
theorem rm2 (l : Launch) (Z : State) (a0 : Array Value) (hw : ∀ d ∈ tables_1, d.before a0 Z = true) (ws : List Jvm.Cond) (p1 : Int32) (p2 : Int32) (h0 : Heap) (n0 : Nat) (Z0 : n0 ≤ h0.size) :
    MetFree l (⟨"java/lang/Math", "max", "(II)I"⟩ : MethodName) (head1 (Jvm.Cond.code (⟨"java/lang/Math", "max", "(II)I"⟩ : MethodName) jdk_29_method_65_code 2 (some .int) :: ws) ({ frames := 0, cells := 0, slots := 0, locals := 0 } : Room)) (fun a U => a = #[(.int p1), (.int p2)] ∧ Z.Warmed39 U.vm ∧ U.heap = h0) (fun _ _ _ _ _ => True) (fun _ U o U' => ∃ v L, o = .returned v ∧ Q2 Z p1 p2 h0 n0 v U'.heap L ∧ FrameEnd U o U' L ({ frames := 0, cells := 0, slots := 0, locals := 0 } : Room).cells ({ frames := 0, cells := 0, slots := 0, locals := 0 } : Room).slots) := by
  refine MetFree.of_bodySF (Jvm.Free.JP.mathPlain rfl (by decide +kernel)) hisR ?_
  intro p e s m args below meth c s₁ Bd hml0 hP hK
  obtain ⟨rfl, hZ, hh⟩ := hP
  have hx := Bd.exec
  have hby := Bd.bytes
  have hlk := BodyLoose.notSynchronized Bd
  have hml : c.maxLocals = 2 := hml0
  have hown : s.vm.findClass "java/lang/Math" = some m.cls := findClass_of_methodNamed Bd.named
  have hnm := (name_of_methodNamed Bd.named Bd.method).1
  have X0 : Stand p l e ({ frames := 0, cells := 0, slots := 0, locals := 0 } : Room) s m #[(.int p1), (.int p2)] below meth c s₁ [] 0 0 := Stand.of_body Bd
  have e0 : s₁.heap = h0 := by rw [← hh, Bd.state]; rfl
  have N0 := Fr.nil n0
  refine OwnR.of (s := s) (Q := Q2 Z p1 p2 h0 n0) (fun t k => castTop (ef_rm2 m p1 p2) k) ?_
  show OwnR _ _ _ _ _ _ _ (s₁.setTop (mkF m 0 #[.val (.int p1), .val (.int p2)] []))
  refine OwnR.of (fun _ hr => XS.iloadN X0.here hx rfl (hb hby d2_0) rfl hr) ?_
  show OwnR _ _ _ _ _ _ _ (s₁.setTop (mkF m 1 #[.val (.int p1), .val (.int p2)] [(.int p1)]))
  refine OwnR.of (fun _ hr => XS.iloadN X0.here hx rfl (hb hby d2_1) rfl hr) ?_
  show OwnR _ _ _ _ _ _ _ (s₁.setTop (mkF m 2 #[.val (.int p1), .val (.int p2)] [(.int p2), (.int p1)]))
  by_cases hc2_3 : p1 < p2
  · skip
    refine OwnR.of (fun _ hr => XS.icmpYes X0.here hx rfl (pc0 := 2) (pc' := 9) rfl (hb hby d2_2) rfl (tlt hc2_3).1 (by decide) (by decide) hr) ?_
    show OwnR _ _ _ _ _ _ _ (s₁.setTop (mkF m 9 #[.val (.int p1), .val (.int p2)] []))
    refine OwnR.of (fun _ hr => XS.iloadN X0.here hx rfl (hb hby d2_9) rfl hr) ?_
    show OwnR _ _ _ _ _ _ _ (s₁.setTop (mkF m 10 #[.val (.int p1), .val (.int p2)] [(.int p2)]))
    refine own_leafI X0 hx hlk Bd.returns (hb hby d2_10) (by decide) (by decide) ?_
    show Q2 Z p1 p2 h0 n0 _ s₁.heap _
    rw [show s₁.heap = h0 from e0]
    refine ⟨?_, N0, rfl⟩
    show (some (.int p2) : Option Value) = some (.int (own_imax p1 p2))
    simp only [own_imax, if_pos hc2_3]
  · skip
    refine OwnR.of (fun _ hr => XS.icmpNo X0.here hx rfl (hb hby d2_2) rfl (flt hc2_3).1 hr) ?_
    show OwnR _ _ _ _ _ _ _ (s₁.setTop (mkF m 5 #[.val (.int p1), .val (.int p2)] []))
    refine OwnR.of (fun _ hr => XS.iloadN X0.here hx rfl (hb hby d2_5) rfl hr) ?_
    show OwnR _ _ _ _ _ _ _ (s₁.setTop (mkF m 6 #[.val (.int p1), .val (.int p2)] [(.int p1)]))
    refine OwnR.of (fun _ hr => XS.goto X0.here hx rfl (pc0 := 6) (pc' := 10) rfl (hb hby d2_6) (by decide) (by decide) hr) ?_
    show OwnR _ _ _ _ _ _ _ (s₁.setTop (mkF m 10 #[.val (.int p1), .val (.int p2)] [(.int p1)]))
    refine own_leafI X0 hx hlk Bd.returns (hb hby d2_10) (by decide) (by decide) ?_
    show Q2 Z p1 p2 h0 n0 _ s₁.heap _
    rw [show s₁.heap = h0 from e0]
    refine ⟨?_, N0, rfl⟩
    show (some (.int p1) : Option Value) = some (.int (own_imax p1 p2))
    simp only [own_imax, if_neg hc2_3]
theorem pn_com_example_ramification_ramification_model_StrahlerOrdersGetTotalBranchesPinLaw : plainName "com/example/ramification/ramification/model/StrahlerOrdersGetTotalBranchesPinLaw" = true := by first | (simp [plainName, overriddenIn]; done) | decide +kernel
theorem ef_rm1 (m : MethodId) (x0 : Int32) : entryFrame m #[(.int x0)] 1 = mkF m 0 #[.val (.int x0)] [] := by first | (simp [entryFrame, mkF, argsToLocals, Value.category]; done) | rfl
theorem d1_0 : decode method_2_code 0 = .ok (.iconst 1, 1) := by decide +kernel
theorem d1_1 : decode method_2_code 1 = .ok (.iload_n 0, 1) := by decide +kernel
theorem d1_2 : decode method_2_code 2 = .ok (.ldc 7, 2) := by decide +kernel
theorem d1_4 : decode method_2_code 4 = .ok (.iand, 1) := by decide +kernel
theorem d1_5 : decode method_2_code 5 = .ok (.invokestatic 8, 3) := by decide +kernel
theorem pd__II_I : parseMethodDescriptor "(II)I" = some ⟨[.int, .int], some .int⟩ := by decide +kernel
theorem d1_8 : decode method_2_code 8 = .ok (.ireturn, 1) := by decide +kernel
def Q1 (Z : State) (p1 : Int32) (h0 : Heap) (n0 : Nat) (v : Option Value) (h : Heap) (L : List Loc) : Prop := v = some (.int (own_cnt p1)) ∧ Fr n0 L ∧ h = h0
set_option maxRecDepth 65536 in
set_option maxHeartbeats 40000000 in
theorem rm1 (l : Launch) (Z : State) (a0 : Array Value) (hw : ∀ d ∈ tables_1, d.before a0 Z = true) (ws : List Jvm.Cond) (p1 : Int32) (h0 : Heap) (n0 : Nat) (Z0 : n0 ≤ h0.size) :
    MetFree l (⟨"com/example/ramification/ramification/model/StrahlerOrdersGetTotalBranchesPinLaw", "count", "(I)I"⟩ : MethodName) (head1 (Jvm.Cond.code (⟨"com/example/ramification/ramification/model/StrahlerOrdersGetTotalBranchesPinLaw", "count", "(I)I"⟩ : MethodName) method_2_code 1 (some .int) :: ws) ({ frames := 1, cells := 0, slots := 0, locals := 16 } : Room)) (fun a U => a = #[(.int p1)] ∧ Z.Warmed39 U.vm ∧ U.heap = h0) (fun _ _ _ _ _ => True) (fun _ U o U' => ∃ v L, o = .returned v ∧ Q1 Z p1 h0 n0 v U'.heap L ∧ FrameEnd U o U' L ({ frames := 1, cells := 0, slots := 0, locals := 16 } : Room).cells ({ frames := 1, cells := 0, slots := 0, locals := 16 } : Room).slots) := by
  refine MetFree.of_bodySF (plainFor_of_name pn_com_example_ramification_ramification_model_StrahlerOrdersGetTotalBranchesPinLaw) hisR ?_
  intro p e s m args below meth c s₁ Bd hml0 hP hK
  obtain ⟨rfl, hZ, hh⟩ := hP
  have hx := Bd.exec
  have hby := Bd.bytes
  have hlk := BodyLoose.notSynchronized Bd
  have hml : c.maxLocals = 1 := hml0
  have hown : s.vm.findClass "com/example/ramification/ramification/model/StrahlerOrdersGetTotalBranchesPinLaw" = some m.cls := findClass_of_methodNamed Bd.named
  have hnm := (name_of_methodNamed Bd.named Bd.method).1
  have X0 : Stand p l e ({ frames := 1, cells := 0, slots := 0, locals := 16 } : Room) s m #[(.int p1)] below meth c s₁ [] 0 0 := Stand.of_body Bd
  have e0 : s₁.heap = h0 := by rw [← hh, Bd.state]; rfl
  have N0 := Fr.nil n0
  refine OwnR.of (s := s) (Q := Q1 Z p1 h0 n0) (fun t k => castTop (ef_rm1 m p1) k) ?_
  show OwnR _ _ _ _ _ _ _ (s₁.setTop (mkF m 0 #[.val (.int p1)] []))
  refine OwnR.of (fun _ hr => XS.iconst X0.here hx rfl (hb hby d1_0) hr) ?_
  show OwnR _ _ _ _ _ _ _ (s₁.setTop (mkF m 1 #[.val (.int p1)] [(.int (1 : Int32))]))
  refine OwnR.of (fun _ hr => XS.iloadN X0.here hx rfl (hb hby d1_1) rfl hr) ?_
  show OwnR _ _ _ _ _ _ _ (s₁.setTop (mkF m 2 #[.val (.int p1)] [(.int p1), (.int (1 : Int32))]))
  refine OwnR.of (X0.ldcInt hx hown (mvT hZ (hw _ (List.mem_of_getElem? (i := 0) rfl))) (g := (mkF m 2 #[.val (.int p1)] [(.int p1), (.int (1 : Int32))])) rfl (hb hby d1_2)) ?_
  show OwnR _ _ _ _ _ _ _ (s₁.setTop (mkF m 4 #[.val (.int p1)] [(.int (2147483647 : Int32)), (.int p1), (.int (1 : Int32))]))
  refine OwnR.of (fun _ hr => XS.iand X0.here hx rfl (hb hby d1_4) rfl hr) ?_
  show OwnR _ _ _ _ _ _ _ (s₁.setTop (mkF m 5 #[.val (.int p1)] [(.int (p1 &&& (2147483647 : Int32))), (.int (1 : Int32))]))
  obtain ⟨_, _, ⟨T2, L2, kc2, ns2⟩, -, X2, ⟨Lc2, hQ2, l2, y2, z2⟩, st2⟩ := Jvm.LawKit.callS X0 hx (y := (⟨"java/lang/Math", "max", "(II)I"⟩ : MethodName)) hown (mvT hZ (hw _ (List.mem_of_getElem? (i := 5) rfl))) (mvT hZ (hw _ (List.mem_of_getElem? (i := 6) rfl))) (mvT hZ (hw _ (List.mem_of_getElem? (i := 7) rfl))) (mvT hZ (hw _ (List.mem_of_getElem? (i := 8) rfl))) (by decide) (backOf (W := 0) (rm2 l Z a0 hw [] (1 : Int32) (p1 &&& (2147483647 : Int32)) h0 n0 (Nat.le_trans Z0 (Keep.refl h0 []).1) ) hZ (hw _ (List.mem_of_getElem? (i := 8) rfl)) (hw _ (List.mem_of_getElem? (i := 7) rfl)) (by decide) (by decide)) (g := (mkF m 5 #[.val (.int p1)] [(.int (p1 &&& (2147483647 : Int32))), (.int (1 : Int32))])) rfl (by rw [hml]; rfl) (argsL := [(.int (1 : Int32)), (.int (p1 &&& (2147483647 : Int32)))]) (rest := []) (lenOf pd__II_I rfl) rfl (by show 2 * 0 + _ ≤ _; exact Nat.le_of_eq rfl) (hb hby d1_5) (fun _ _ => ⟨rfl, e0, (by decide : 0 + 0 ≤ _), (by decide : 0 + 0 ≤ _)⟩)
  dsimp only [Pt.U, Pt.locs, Pt.cells, Pt.slots] at X2 l2 y2 z2 st2 hQ2
  subst l2 y2 z2
  obtain ⟨rfl, N2q, e2⟩ := hQ2
  have N2 := Fr.app N0 N2q
  refine OwnR.of (st2) ?_
  show OwnR _ _ _ _ _ _ _ (T2.setTop (mkF m 8 #[.val (.int p1)] [(.int (own_imax (1 : Int32) (p1 &&& (2147483647 : Int32))))]))
  refine own_leafI X2 hx hlk Bd.returns (hb hby d1_8) (by decide) (by decide) ?_
  show Q1 Z p1 h0 n0 _ T2.heap _
  rw [show T2.heap = h0 from e2]
  refine ⟨?_, N2, rfl⟩
  show (some (.int (own_imax (1 : Int32) (p1 &&& (2147483647 : Int32)))) : Option Value) = some (.int (own_cnt p1))
  rfl
theorem pn_com_example_ramification_ramification_model_StrahlerOrders : plainName "com/example/ramification/ramification/model/StrahlerOrders" = true := by first | (simp [plainName, overriddenIn]; done) | decide +kernel
theorem ef_rm3_0 (m : MethodId) (x0 : Addr) (x1 : Addr) (x2 : Addr) : entryFrame m #[(.ref x0), (.ref x1), (.ref x2), .null] 5 = mkF m 0 #[.val (.ref x0), .val (.ref x1), .val (.ref x2), .val .null, .unset] [] := by first | (simp [entryFrame, mkF, argsToLocals, Value.category]; done) | rfl
theorem d3_0 : decode prog_88_method_1_code 0 = .ok (.aload_n 0, 1) := by decide +kernel
theorem d3_1 : decode prog_88_method_1_code 1 = .ok (.invokespecial 1, 3) := by decide +kernel
theorem d3_4 : decode prog_88_method_1_code 4 = .ok (.aload_n 1, 1) := by decide +kernel
theorem d3_5 : decode prog_88_method_1_code 5 = .ok (.arraylength, 1) := by decide +kernel
theorem d3_6 : decode prog_88_method_1_code 6 = .ok (.aload_n 2, 1) := by decide +kernel
theorem d3_7 : decode prog_88_method_1_code 7 = .ok (.arraylength, 1) := by decide +kernel
theorem d3_8 : decode prog_88_method_1_code 8 = .ok (.if_icmp .eq 20, 3) := by decide +kernel
theorem d3_28 : decode prog_88_method_1_code 28 = .ok (.iconst 0, 1) := by decide +kernel
theorem d3_29 : decode prog_88_method_1_code 29 = .ok (.istore 4, 2) := by decide +kernel
theorem d3_31 : decode prog_88_method_1_code 31 = .ok (.iload 4, 2) := by decide +kernel
theorem d3_33 : decode prog_88_method_1_code 33 = .ok (.aload_n 1, 1) := by decide +kernel
theorem d3_34 : decode prog_88_method_1_code 34 = .ok (.arraylength, 1) := by decide +kernel
theorem d3_35 : decode prog_88_method_1_code 35 = .ok (.if_icmp .ge 38, 3) := by decide +kernel
theorem d3_73 : decode prog_88_method_1_code 73 = .ok (.aload_n 0, 1) := by decide +kernel
theorem d3_74 : decode prog_88_method_1_code 74 = .ok (.aload_n 1, 1) := by decide +kernel
theorem d3_75 : decode prog_88_method_1_code 75 = .ok (.invokevirtual 17, 3) := by decide +kernel
theorem d3_78 : decode prog_88_method_1_code 78 = .ok (.checkcast 18, 3) := by decide +kernel
theorem d3_81 : decode prog_88_method_1_code 81 = .ok (.putfield 23, 3) := by decide +kernel
theorem d3_84 : decode prog_88_method_1_code 84 = .ok (.aload_n 0, 1) := by decide +kernel
theorem d3_85 : decode prog_88_method_1_code 85 = .ok (.aload_n 2, 1) := by decide +kernel
theorem d3_86 : decode prog_88_method_1_code 86 = .ok (.invokevirtual 28, 3) := by decide +kernel
theorem d3_89 : decode prog_88_method_1_code 89 = .ok (.checkcast 29, 3) := by decide +kernel
theorem d3_92 : decode prog_88_method_1_code 92 = .ok (.putfield 31, 3) := by decide +kernel
theorem d3_95 : decode prog_88_method_1_code 95 = .ok (.aload_n 0, 1) := by decide +kernel
theorem d3_96 : decode prog_88_method_1_code 96 = .ok (.aload_n 3, 1) := by decide +kernel
theorem d3_97 : decode prog_88_method_1_code 97 = .ok (.putfield 34, 3) := by decide +kernel
theorem d3_100 : decode prog_88_method_1_code 100 = .ok (.return_, 1) := by decide +kernel
def Q3_0 (Z : State) (a1 : Addr) (k2 : ClassId) (h0 : Heap) (n0 : Nat) (v : Option Value) (h : Heap) (L : List Loc) : Prop := ∃ (bI : Addr), v = none ∧ Fr n0 L ∧ Keep h0 h [a1] ∧ Exa Z h a1 "com/example/ramification/ramification/model/StrahlerOrders" ∧ Fld Z h a1 "com/example/ramification/ramification/model/StrahlerOrders" "branches" "[I" (.ref bI) ∧ Arv Z h bI k2 .int (0 : Int32) [] (.int (0 : Int32))
set_option maxRecDepth 65536 in
set_option maxHeartbeats 40000000 in
theorem rm3_0 (l : Launch) (Z : State) (a0 : Array Value) (hw : ∀ d ∈ tables_1, d.before a0 Z = true) (ws : List Jvm.Cond) (a1 : Addr) (a2 : Addr) (a3 : Addr) (k2 k3 : ClassId) (h0 : Heap) (n0 : Nat) (Z0 : n0 ≤ h0.size) (E_a1 : Exa Z h0 a1 "com/example/ramification/ramification/model/StrahlerOrders") (F_branches_a1 : Fld Z h0 a1 "com/example/ramification/ramification/model/StrahlerOrders" "branches" "[I" .null) (F_lengths_a1 : Fld Z h0 a1 "com/example/ramification/ramification/model/StrahlerOrders" "lengths" "[D" .null) (F_unit_a1 : Fld Z h0 a1 "com/example/ramification/ramification/model/StrahlerOrders" "unit" "Ljava/util/Optional;" .null) (V_a2 : Arv Z h0 a2 k2 .int (0 : Int32) [] (.int (0 : Int32))) (V_a3 : Arv Z h0 a3 k3 .double (0 : Int32) [] (defaultValue .double)) (E_a2 : Exa Z h0 a2 "[I") (E_a3 : Exa Z h0 a3 "[D") (g_a1 : n0 ≤ a1) (ne_12 : a1 ≠ a2) (ne_13 : a1 ≠ a3) :
    MetFree l (⟨"com/example/ramification/ramification/model/StrahlerOrders", "<init>", "([I[DLjava/util/Optional;)V"⟩ : MethodName) (head1 (Jvm.Cond.code (⟨"com/example/ramification/ramification/model/StrahlerOrders", "<init>", "([I[DLjava/util/Optional;)V"⟩ : MethodName) prog_88_method_1_code 5 none :: ws) ({ frames := 1, cells := 2, slots := 0, locals := 18 } : Room)) (fun a U => a = #[(.ref a1), (.ref a2), (.ref a3), .null] ∧ Z.Warmed39 U.vm ∧ U.heap = h0) (fun _ _ _ _ _ => True) (fun _ U o U' => ∃ v L, o = .returned v ∧ Q3_0 Z a1 k2 h0 n0 v U'.heap L ∧ FrameEnd U o U' L ({ frames := 1, cells := 2, slots := 0, locals := 18 } : Room).cells ({ frames := 1, cells := 2, slots := 0, locals := 18 } : Room).slots) := by
  refine MetFree.of_bodySF (plainFor_of_name pn_com_example_ramification_ramification_model_StrahlerOrders) hisR ?_
  intro p e s m args below meth c s₁ Bd hml0 hP hK
  obtain ⟨rfl, hZ, hh⟩ := hP
  have hx := Bd.exec
  have hby := Bd.bytes
  have hlk := BodyLoose.notSynchronized Bd
  have hml : c.maxLocals = 5 := hml0
  have hown : s.vm.findClass "com/example/ramification/ramification/model/StrahlerOrders" = some m.cls := findClass_of_methodNamed Bd.named
  have hnm := (name_of_methodNamed Bd.named Bd.method).1
  have X0 : Stand p l e ({ frames := 1, cells := 2, slots := 0, locals := 18 } : Room) s m #[(.ref a1), (.ref a2), (.ref a3), .null] below meth c s₁ [] 0 0 := Stand.of_body Bd
  have e0 : s₁.heap = h0 := by rw [← hh, Bd.state]; rfl
  have N0 := Fr.nil n0
  refine OwnR.of (s := s) (Q := Q3_0 Z a1 k2 h0 n0) (fun t k => castTop (ef_rm3_0 m a1 a2 a3) k) ?_
  show OwnR _ _ _ _ _ _ _ (s₁.setTop (mkF m 0 #[.val (.ref a1), .val (.ref a2), .val (.ref a3), .val .null, .unset] []))
  refine OwnR.of (fun _ hr => XS.aloadN X0.here hx rfl (hb hby d3_0) rfl rfl hr) ?_
  show OwnR _ _ _ _ _ _ _ (s₁.setTop (mkF m 1 #[.val (.ref a1), .val (.ref a2), .val (.ref a3), .val .null, .unset] [(.ref a1)]))
  obtain ⟨T1, X1, e1, st1⟩ := initO X0 hx hZ hown (hw _ (List.mem_of_getElem? (i := 17) rfl)) (hw _ (List.mem_of_getElem? (i := 18) rfl)) (hw _ (List.mem_of_getElem? (i := 19) rfl)) e0 (g := (mkF m 1 #[.val (.ref a1), .val (.ref a2), .val (.ref a3), .val .null, .unset] [(.ref a1)])) rfl (by rw [hml]; rfl) rfl (hb hby d3_1) (by decide) (W := 0) (by show 2 * 0 + _ ≤ _; exact Nat.le_of_eq rfl) (by decide)
  refine OwnR.of (st1) ?_
  show OwnR _ _ _ _ _ _ _ (T1.setTop (mkF m 4 #[.val (.ref a1), .val (.ref a2), .val (.ref a3), .val .null, .unset] []))
  refine OwnR.of (fun _ hr => XS.aloadN X1.here hx rfl (hb hby d3_4) rfl rfl hr) ?_
  show OwnR _ _ _ _ _ _ _ (T1.setTop (mkF m 5 #[.val (.ref a1), .val (.ref a2), .val (.ref a3), .val .null, .unset] [(.ref a2)]))
  obtain ⟨cl2, Ar2, -, S2, N2, -, -⟩ := id V_a2
  refine OwnR.of (X1.arraylength hx (by rw [e1]; exact Ar2.1) (State.isArrayOf_alike hZ.alike Ar2.2.1) (g := (mkF m 5 #[.val (.ref a1), .val (.ref a2), .val (.ref a3), .val .null, .unset] [(.ref a2)])) rfl rfl (hb hby d3_5)) ?_
  show OwnR _ _ _ _ _ _ _ (T1.setTop (mkF m 6 #[.val (.ref a1), .val (.ref a2), .val (.ref a3), .val .null, .unset] [(.int cl2.slots.size.toInt32)]))
  rw [len_of S2 N2]
  show OwnR _ _ _ _ _ _ _ (T1.setTop (mkF m 6 #[.val (.ref a1), .val (.ref a2), .val (.ref a3), .val .null, .unset] [(.int (0 : Int32))]))
  refine OwnR.of (fun _ hr => XS.aloadN X1.here hx rfl (hb hby d3_6) rfl rfl hr) ?_
  show OwnR _ _ _ _ _ _ _ (T1.setTop (mkF m 7 #[.val (.ref a1), .val (.ref a2), .val (.ref a3), .val .null, .unset] [(.ref a3), (.int (0 : Int32))]))
  obtain ⟨cl3, Ar3, -, S3, N3, -, -⟩ := id V_a3
  refine OwnR.of (X1.arraylength hx (by rw [e1]; exact Ar3.1) (State.isArrayOf_alike hZ.alike Ar3.2.1) (g := (mkF m 7 #[.val (.ref a1), .val (.ref a2), .val (.ref a3), .val .null, .unset] [(.ref a3), (.int (0 : Int32))])) rfl rfl (hb hby d3_7)) ?_
  show OwnR _ _ _ _ _ _ _ (T1.setTop (mkF m 8 #[.val (.ref a1), .val (.ref a2), .val (.ref a3), .val .null, .unset] [(.int cl3.slots.size.toInt32), (.int (0 : Int32))]))
  rw [len_of S3 N3]
  show OwnR _ _ _ _ _ _ _ (T1.setTop (mkF m 8 #[.val (.ref a1), .val (.ref a2), .val (.ref a3), .val .null, .unset] [(.int (0 : Int32)), (.int (0 : Int32))]))
  refine OwnR.of (fun _ hr => XS.icmpYes X1.here hx rfl (pc0 := 8) (pc' := 28) rfl (hb hby d3_8) rfl (teq (by decide : (0 : Int32) = (0 : Int32))).1 (by decide) (by decide) hr) ?_
  show OwnR _ _ _ _ _ _ _ (T1.setTop (mkF m 28 #[.val (.ref a1), .val (.ref a2), .val (.ref a3), .val .null, .unset] []))
  refine OwnR.of (fun _ hr => XS.iconst X1.here hx rfl (hb hby d3_28) hr) ?_
  show OwnR _ _ _ _ _ _ _ (T1.setTop (mkF m 29 #[.val (.ref a1), .val (.ref a2), .val (.ref a3), .val .null, .unset] [(.int (0 : Int32))]))
  refine OwnR.of (fun _ hr => XS.istore X1.here hx rfl (hb hby d3_29) rfl (l' := #[.val (.ref a1), .val (.ref a2), .val (.ref a3), .val .null, .val (.int (0 : Int32))]) rfl hr) ?_
  show OwnR _ _ _ _ _ _ _ (T1.setTop (mkF m 31 #[.val (.ref a1), .val (.ref a2), .val (.ref a3), .val .null, .val (.int (0 : Int32))] []))
  refine OwnR.of (fun _ hr => XS.iload X1.here hx rfl (hb hby d3_31) rfl hr) ?_
  show OwnR _ _ _ _ _ _ _ (T1.setTop (mkF m 33 #[.val (.ref a1), .val (.ref a2), .val (.ref a3), .val .null, .val (.int (0 : Int32))] [(.int (0 : Int32))]))
  refine OwnR.of (fun _ hr => XS.aloadN X1.here hx rfl (hb hby d3_33) rfl rfl hr) ?_
  show OwnR _ _ _ _ _ _ _ (T1.setTop (mkF m 34 #[.val (.ref a1), .val (.ref a2), .val (.ref a3), .val .null, .val (.int (0 : Int32))] [(.ref a2), (.int (0 : Int32))]))
  obtain ⟨cl4, Ar4, -, S4, N4, -, -⟩ := id V_a2
  refine OwnR.of (X1.arraylength hx (by rw [e1]; exact Ar4.1) (State.isArrayOf_alike hZ.alike Ar4.2.1) (g := (mkF m 34 #[.val (.ref a1), .val (.ref a2), .val (.ref a3), .val .null, .val (.int (0 : Int32))] [(.ref a2), (.int (0 : Int32))])) rfl rfl (hb hby d3_34)) ?_
  show OwnR _ _ _ _ _ _ _ (T1.setTop (mkF m 35 #[.val (.ref a1), .val (.ref a2), .val (.ref a3), .val .null, .val (.int (0 : Int32))] [(.int cl4.slots.size.toInt32), (.int (0 : Int32))]))
  rw [len_of S4 N4]
  show OwnR _ _ _ _ _ _ _ (T1.setTop (mkF m 35 #[.val (.ref a1), .val (.ref a2), .val (.ref a3), .val .null, .val (.int (0 : Int32))] [(.int (0 : Int32)), (.int (0 : Int32))]))
  refine OwnR.of (fun _ hr => XS.icmpYes X1.here hx rfl (pc0 := 35) (pc' := 73) rfl (hb hby d3_35) rfl (flt (by decide : ¬ ((0 : Int32) < (0 : Int32)))).2.1 (by decide) (by decide) hr) ?_
  show OwnR _ _ _ _ _ _ _ (T1.setTop (mkF m 73 #[.val (.ref a1), .val (.ref a2), .val (.ref a3), .val .null, .val (.int (0 : Int32))] []))
  refine OwnR.of (fun _ hr => XS.aloadN X1.here hx rfl (hb hby d3_73) rfl rfl hr) ?_
  show OwnR _ _ _ _ _ _ _ (T1.setTop (mkF m 74 #[.val (.ref a1), .val (.ref a2), .val (.ref a3), .val .null, .val (.int (0 : Int32))] [(.ref a1)]))
  refine OwnR.of (fun _ hr => XS.aloadN X1.here hx rfl (hb hby d3_74) rfl rfl hr) ?_
  show OwnR _ _ _ _ _ _ _ (T1.setTop (mkF m 75 #[.val (.ref a1), .val (.ref a2), .val (.ref a3), .val .null, .val (.int (0 : Int32))] [(.ref a2), (.ref a1)]))
  obtain ⟨T5, h5, X5, e5, E5, V5, AE5, st5⟩ := cloneH X1 hx hZ hown (hw _ (List.mem_of_getElem? (i := 20) rfl)) (hw _ (List.mem_of_getElem? (i := 21) rfl)) (hw _ (List.mem_of_getElem? (i := 25) rfl)) (hw _ (List.mem_of_getElem? (i := 23) rfl)) (hw _ (List.mem_of_getElem? (i := 24) rfl)) (hw _ (List.mem_of_getElem? (i := 26) rfl)) e1 (Arv.arh V_a2) E_a2 (g := (mkF m 75 #[.val (.ref a1), .val (.ref a2), .val (.ref a3), .val .null, .val (.int (0 : Int32))] [(.ref a2), (.ref a1)])) rfl (by rw [hml]; rfl) rfl (hb hby d3_75) (by decide) (W := 1) (by show 2 * 0 + _ ≤ _; exact Nat.le_of_eq rfl) (by decide) (cap := 0) (by decide) (by decide) (by decide)
  obtain ⟨b5, g5⟩ : ∃ z, z = h0.size := ⟨_, rfl⟩
  rw [← g5] at V5 AE5 st5
  refine OwnR.of (st5) ?_
  have gn_b5 : n0 ≤ b5 := Nat.le_trans (Nat.le_trans Z0 (Keep.refl h0 [a1]).1) (Nat.le_of_eq g5.symm)
  have sz_b5 : h0.size ≤ b5 := Nat.le_trans (Keep.refl h0 [a1]).1 (Nat.le_of_eq g5.symm)
  have K5 : Keep h0 h5 [a1] := Keep.ext (Keep.refl h0 [a1]) E5
  have V5 : Arv Z h5 b5 k2 .int (0 : Int32) [] (.int (0 : Int32)) := V5
  show OwnR _ _ _ _ _ _ _ (T5.setTop (mkF m 78 #[.val (.ref a1), .val (.ref a2), .val (.ref a3), .val .null, .val (.int (0 : Int32))] [(.ref b5), (.ref a1)]))
  obtain ⟨T6, X6, e6, st6⟩ := castY X5 hx hZ hown (hw _ (List.mem_of_getElem? (i := 27) rfl)) e5 (Ins.self AE5) (g := (mkF m 78 #[.val (.ref a1), .val (.ref a2), .val (.ref a3), .val .null, .val (.int (0 : Int32))] [(.ref b5), (.ref a1)])) rfl rfl (hb hby d3_78)
  refine OwnR.of (st6) ?_
  show OwnR _ _ _ _ _ _ _ (T6.setTop (mkF m 81 #[.val (.ref a1), .val (.ref a2), .val (.ref a3), .val .null, .val (.int (0 : Int32))] [(.ref b5), (.ref a1)]))
  obtain ⟨T7, h7, X7, e7, W7, st7⟩ := putF X6 hx hZ hown (host := "") (Or.inl (hw _ (List.mem_of_getElem? (i := 29) rfl))) Via.refl e6 (Fld.ext E5 F_branches_a1) (Exa.keep E_a1 K5) (Or.inr ⟨(hw _ (List.mem_of_getElem? (i := 30) rfl)), rfl, hnm⟩) (hw _ (List.mem_of_getElem? (i := 12) rfl)) (ty := (.array .int)) (by decide) rfl rfl (g := (mkF m 81 #[.val (.ref a1), .val (.ref a2), .val (.ref a3), .val .null, .val (.int (0 : Int32))] [(.ref b5), (.ref a1)])) rfl rfl (hb hby d3_81)
  refine OwnR.of (st7) ?_
  have F7 := Fld.same W7 (Fld.ext E5 F_branches_a1)
  have K7 : Keep h0 h7 [a1] := Keep.wr K5 W7 (Or.inl (List.mem_of_getElem? (i := 0) rfl))
  have N7 := Fr.snoc X7 N0 g_a1
  show OwnR _ _ _ _ _ _ _ (T7.setTop (mkF m 84 #[.val (.ref a1), .val (.ref a2), .val (.ref a3), .val .null, .val (.int (0 : Int32))] []))
  refine OwnR.of (fun _ hr => XS.aloadN X7.here hx rfl (hb hby d3_84) rfl rfl hr) ?_
  show OwnR _ _ _ _ _ _ _ (T7.setTop (mkF m 85 #[.val (.ref a1), .val (.ref a2), .val (.ref a3), .val .null, .val (.int (0 : Int32))] [(.ref a1)]))
  refine OwnR.of (fun _ hr => XS.aloadN X7.here hx rfl (hb hby d3_85) rfl rfl hr) ?_
  show OwnR _ _ _ _ _ _ _ (T7.setTop (mkF m 86 #[.val (.ref a1), .val (.ref a2), .val (.ref a3), .val .null, .val (.int (0 : Int32))] [(.ref a3), (.ref a1)]))
  obtain ⟨T8, h8, X8, e8, E8, V8, AE8, st8⟩ := cloneH X7 hx hZ hown (hw _ (List.mem_of_getElem? (i := 31) rfl)) (hw _ (List.mem_of_getElem? (i := 32) rfl)) (hw _ (List.mem_of_getElem? (i := 25) rfl)) (hw _ (List.mem_of_getElem? (i := 23) rfl)) (hw _ (List.mem_of_getElem? (i := 33) rfl)) (hw _ (List.mem_of_getElem? (i := 34) rfl)) e7 (Arv.arh (Arv.keep V_a3 K7 (ninS (Ne.symm ne_13) nin0))) (Exa.keep E_a3 K7) (g := (mkF m 86 #[.val (.ref a1), .val (.ref a2), .val (.ref a3), .val .null, .val (.int (0 : Int32))] [(.ref a3), (.ref a1)])) rfl (by rw [hml]; rfl) rfl (hb hby d3_86) (by decide) (W := 1) (by show 2 * 0 + _ ≤ _; exact Nat.le_of_eq rfl) (by decide) (cap := 0) (by decide) (by decide) (by decide)
  obtain ⟨b8, g8⟩ : ∃ z, z = h7.size := ⟨_, rfl⟩
  rw [← g8] at V8 AE8 st8
  refine OwnR.of (st8) ?_
  have gn_b8 : n0 ≤ b8 := Nat.le_trans (Nat.le_trans Z0 K7.1) (Nat.le_of_eq g8.symm)
  have sz_b8 : h0.size ≤ b8 := Nat.le_trans K7.1 (Nat.le_of_eq g8.symm)
  have K8 : Keep h0 h8 [a1] := Keep.ext K7 E8
  have V8 : Arv Z h8 b8 k3 .double (0 : Int32) [] (defaultValue .double) := V8
  show OwnR _ _ _ _ _ _ _ (T8.setTop (mkF m 89 #[.val (.ref a1), .val (.ref a2), .val (.ref a3), .val .null, .val (.int (0 : Int32))] [(.ref b8), (.ref a1)]))
  obtain ⟨T9, X9, e9, st9⟩ := castY X8 hx hZ hown (hw _ (List.mem_of_getElem? (i := 35) rfl)) e8 (Ins.self AE8) (g := (mkF m 89 #[.val (.ref a1), .val (.ref a2), .val (.ref a3), .val .null, .val (.int (0 : Int32))] [(.ref b8), (.ref a1)])) rfl rfl (hb hby d3_89)
  refine OwnR.of (st9) ?_
  show OwnR _ _ _ _ _ _ _ (T9.setTop (mkF m 92 #[.val (.ref a1), .val (.ref a2), .val (.ref a3), .val .null, .val (.int (0 : Int32))] [(.ref b8), (.ref a1)]))
  obtain ⟨T10, h10, X10, e10, W10, st10⟩ := putF X9 hx hZ hown (host := "") (Or.inl (hw _ (List.mem_of_getElem? (i := 37) rfl))) Via.refl e9 (Fld.ext E8 (Fld.other W7 (Fld.ext E5 F_lengths_a1) (Or.inr (slot_ne (Or.inr (hw _ (List.mem_of_getElem? (i := 38) rfl))) (Or.inr (hw _ (List.mem_of_getElem? (i := 30) rfl))) (by decide) (t := (.array .double)) (t' := (.array .int)) (by decide) (by decide))))) (Exa.keep E_a1 K8) (Or.inr ⟨(hw _ (List.mem_of_getElem? (i := 38) rfl)), rfl, hnm⟩) (hw _ (List.mem_of_getElem? (i := 12) rfl)) (ty := (.array .double)) (by decide) rfl rfl (g := (mkF m 92 #[.val (.ref a1), .val (.ref a2), .val (.ref a3), .val .null, .val (.int (0 : Int32))] [(.ref b8), (.ref a1)])) rfl rfl (hb hby d3_92)
  refine OwnR.of (st10) ?_
  have F10 := Fld.same W10 (Fld.ext E8 (Fld.other W7 (Fld.ext E5 F_lengths_a1) (Or.inr (slot_ne (Or.inr (hw _ (List.mem_of_getElem? (i := 38) rfl))) (Or.inr (hw _ (List.mem_of_getElem? (i := 30) rfl))) (by decide) (t := (.array .double)) (t' := (.array .int)) (by decide) (by decide)))))
  have K10 : Keep h0 h10 [a1] := Keep.wr K8 W10 (Or.inl (List.mem_of_getElem? (i := 0) rfl))
  have N10 := Fr.snoc X10 N7 g_a1
  show OwnR _ _ _ _ _ _ _ (T10.setTop (mkF m 95 #[.val (.ref a1), .val (.ref a2), .val (.ref a3), .val .null, .val (.int (0 : Int32))] []))
  refine OwnR.of (fun _ hr => XS.aloadN X10.here hx rfl (hb hby d3_95) rfl rfl hr) ?_
  show OwnR _ _ _ _ _ _ _ (T10.setTop (mkF m 96 #[.val (.ref a1), .val (.ref a2), .val (.ref a3), .val .null, .val (.int (0 : Int32))] [(.ref a1)]))
  refine OwnR.of (fun _ hr => XS.aloadN X10.here hx rfl (hb hby d3_96) rfl rfl hr) ?_
  show OwnR _ _ _ _ _ _ _ (T10.setTop (mkF m 97 #[.val (.ref a1), .val (.ref a2), .val (.ref a3), .val .null, .val (.int (0 : Int32))] [.null, (.ref a1)]))
  obtain ⟨T11, h11, X11, e11, W11, st11⟩ := putF X10 hx hZ hown (host := "") (Or.inl (hw _ (List.mem_of_getElem? (i := 39) rfl))) Via.refl e10 (Fld.other W10 (Fld.ext E8 (Fld.other W7 (Fld.ext E5 F_unit_a1) (Or.inr (slot_ne (Or.inr (hw _ (List.mem_of_getElem? (i := 40) rfl))) (Or.inr (hw _ (List.mem_of_getElem? (i := 30) rfl))) (by decide) (t := (.object "java/util/Optional")) (t' := (.array .int)) (by decide) (by decide))))) (Or.inr (slot_ne (Or.inr (hw _ (List.mem_of_getElem? (i := 40) rfl))) (Or.inr (hw _ (List.mem_of_getElem? (i := 38) rfl))) (by decide) (t := (.object "java/util/Optional")) (t' := (.array .double)) (by decide) (by decide)))) (Exa.keep E_a1 K10) (Or.inr ⟨(hw _ (List.mem_of_getElem? (i := 40) rfl)), rfl, hnm⟩) (hw _ (List.mem_of_getElem? (i := 12) rfl)) (ty := (.object "java/util/Optional")) (by decide) rfl rfl (g := (mkF m 97 #[.val (.ref a1), .val (.ref a2), .val (.ref a3), .val .null, .val (.int (0 : Int32))] [.null, (.ref a1)])) rfl rfl (hb hby d3_97)
  refine OwnR.of (st11) ?_
  have F11 := Fld.same W11 (Fld.other W10 (Fld.ext E8 (Fld.other W7 (Fld.ext E5 F_unit_a1) (Or.inr (slot_ne (Or.inr (hw _ (List.mem_of_getElem? (i := 40) rfl))) (Or.inr (hw _ (List.mem_of_getElem? (i := 30) rfl))) (by decide) (t := (.object "java/util/Optional")) (t' := (.array .int)) (by decide) (by decide))))) (Or.inr (slot_ne (Or.inr (hw _ (List.mem_of_getElem? (i := 40) rfl))) (Or.inr (hw _ (List.mem_of_getElem? (i := 38) rfl))) (by decide) (t := (.object "java/util/Optional")) (t' := (.array .double)) (by decide) (by decide))))
  have K11 : Keep h0 h11 [a1] := Keep.wr K10 W11 (Or.inl (List.mem_of_getElem? (i := 0) rfl))
  have N11 := Fr.snoc X11 N10 g_a1
  show OwnR _ _ _ _ _ _ _ (T11.setTop (mkF m 100 #[.val (.ref a1), .val (.ref a2), .val (.ref a3), .val .null, .val (.int (0 : Int32))] []))
  refine own_leafV X11 hx hlk Bd.returns (hb hby d3_100) (by decide) (by decide) ?_
  show Q3_0 Z a1 k2 h0 n0 _ T11.heap _
  rw [show T11.heap = h11 from e11]
  refine ⟨b5, rfl, N11, ⟨K11, (Exa.keep E_a1 K11), (Fld.other W11 (Fld.other W10 (Fld.ext E8 F7) (Or.inr (slot_ne (Or.inr (hw _ (List.mem_of_getElem? (i := 30) rfl))) (Or.inr (hw _ (List.mem_of_getElem? (i := 38) rfl))) (by decide) (t := (.array .int)) (t' := (.array .double)) (by decide) (by decide)))) (Or.inr (slot_ne (Or.inr (hw _ (List.mem_of_getElem? (i := 30) rfl))) (Or.inr (hw _ (List.mem_of_getElem? (i := 40) rfl))) (by decide) (t := (.array .int)) (t' := (.object "java/util/Optional")) (by decide) (by decide)))), (Arv.other (Arv.other (Arv.ext (Arv.other V5 W7 (Ne.symm (Nat.ne_of_lt (Nat.lt_of_lt_of_le E_a1.lt (Nat.le_of_eq g5.symm))))) E8) W10 (Ne.symm (Nat.ne_of_lt (Nat.lt_of_lt_of_le E_a1.lt (Nat.le_of_eq g5.symm))))) W11 (Ne.symm (Nat.ne_of_lt (Nat.lt_of_lt_of_le E_a1.lt (Nat.le_of_eq g5.symm)))))⟩⟩
theorem ef_rm5_0 (m : MethodId) (x0 : Addr) : entryFrame m #[(.ref x0)] 7 = mkF m 0 #[.val (.ref x0), .unset, .unset, .unset, .unset, .unset, .unset] [] := by first | (simp [entryFrame, mkF, argsToLocals, Value.category]; done) | rfl
theorem d5_0 : decode prog_88_method_7_code 0 = .ok (.lconst 0, 1) := by decide +kernel
theorem d5_1 : decode prog_88_method_7_code 1 = .ok (.lstore_n 1, 1) := by decide +kernel
theorem d5_2 : decode prog_88_method_7_code 2 = .ok (.aload_n 0, 1) := by decide +kernel
theorem d5_3 : decode prog_88_method_7_code 3 = .ok (.getfield 23, 3) := by decide +kernel
theorem d5_6 : decode prog_88_method_7_code 6 = .ok (.astore_n 3, 1) := by decide +kernel
theorem d5_7 : decode prog_88_method_7_code 7 = .ok (.aload_n 3, 1) := by decide +kernel
theorem d5_8 : decode prog_88_method_7_code 8 = .ok (.arraylength, 1) := by decide +kernel
theorem d5_9 : decode prog_88_method_7_code 9 = .ok (.istore 4, 2) := by decide +kernel
theorem d5_11 : decode prog_88_method_7_code 11 = .ok (.iconst 0, 1) := by decide +kernel
theorem d5_12 : decode prog_88_method_7_code 12 = .ok (.istore 5, 2) := by decide +kernel
theorem d5_14 : decode prog_88_method_7_code 14 = .ok (.iload 5, 2) := by decide +kernel
theorem d5_16 : decode prog_88_method_7_code 16 = .ok (.iload 4, 2) := by decide +kernel
theorem d5_18 : decode prog_88_method_7_code 18 = .ok (.if_icmp .ge 21, 3) := by decide +kernel
theorem d5_39 : decode prog_88_method_7_code 39 = .ok (.lload_n 1, 1) := by decide +kernel
theorem d5_40 : decode prog_88_method_7_code 40 = .ok (.lreturn, 1) := by decide +kernel
def Q5_0 (Z : State)  (h0 : Heap) (n0 : Nat) (v : Option Value) (h : Heap) (L : List Loc) : Prop := v = some (.long (0 : Int64)) ∧ Fr n0 L ∧ h = h0
set_option maxRecDepth 65536 in
set_option maxHeartbeats 40000000 in
theorem rm5_0 (l : Launch) (Z : State) (a0 : Array Value) (hw : ∀ d ∈ tables_1, d.before a0 Z = true) (ws : List Jvm.Cond) (a1 : Addr) (a2 : Addr) (k2 : ClassId) (h0 : Heap) (n0 : Nat) (Z0 : n0 ≤ h0.size) (E_a1 : Exa Z h0 a1 "com/example/ramification/ramification/model/StrahlerOrders") (F_branches_a1 : Fld Z h0 a1 "com/example/ramification/ramification/model/StrahlerOrders" "branches" "[I" (.ref a2)) (V_a2 : Arv Z h0 a2 k2 .int (0 : Int32) [] (.int (0 : Int32))) :
    MetFree l (⟨"com/example/ramification/ramification/model/StrahlerOrders", "getTotalBranches", "()J"⟩ : MethodName) (head1 (Jvm.Cond.code (⟨"com/example/ramification/ramification/model/StrahlerOrders", "getTotalBranches", "()J"⟩ : MethodName) prog_88_method_7_code 7 (some .long) :: ws) ({ frames := 0, cells := 0, slots := 0, locals := 0 } : Room)) (fun a U => a = #[(.ref a1)] ∧ Z.Warmed39 U.vm ∧ U.heap = h0) (fun _ _ _ _ _ => True) (fun _ U o U' => ∃ v L, o = .returned v ∧ Q5_0 Z  h0 n0 v U'.heap L ∧ FrameEnd U o U' L ({ frames := 0, cells := 0, slots := 0, locals := 0 } : Room).cells ({ frames := 0, cells := 0, slots := 0, locals := 0 } : Room).slots) := by
  refine MetFree.of_bodySF (plainFor_of_name pn_com_example_ramification_ramification_model_StrahlerOrders) hisR ?_
  intro p e s m args below meth c s₁ Bd hml0 hP hK
  obtain ⟨rfl, hZ, hh⟩ := hP
  have hx := Bd.exec
  have hby := Bd.bytes
  have hlk := BodyLoose.notSynchronized Bd
  have hml : c.maxLocals = 7 := hml0
  have hown : s.vm.findClass "com/example/ramification/ramification/model/StrahlerOrders" = some m.cls := findClass_of_methodNamed Bd.named
  have hnm := (name_of_methodNamed Bd.named Bd.method).1
  have X0 : Stand p l e ({ frames := 0, cells := 0, slots := 0, locals := 0 } : Room) s m #[(.ref a1)] below meth c s₁ [] 0 0 := Stand.of_body Bd
  have e0 : s₁.heap = h0 := by rw [← hh, Bd.state]; rfl
  have N0 := Fr.nil n0
  refine OwnR.of (s := s) (Q := Q5_0 Z  h0 n0) (fun t k => castTop (ef_rm5_0 m a1) k) ?_
  show OwnR _ _ _ _ _ _ _ (s₁.setTop (mkF m 0 #[.val (.ref a1), .unset, .unset, .unset, .unset, .unset, .unset] []))
  refine OwnR.of (fun _ hr => XS.lconst X0.here hx rfl (hb hby d5_0) hr) ?_
  show OwnR _ _ _ _ _ _ _ (s₁.setTop (mkF m 1 #[.val (.ref a1), .unset, .unset, .unset, .unset, .unset, .unset] [(.long (0 : Int64))]))
  refine OwnR.of (fun _ hr => XS.lstoreN X0.here hx rfl (hb hby d5_1) rfl (l' := #[.val (.ref a1), .val (.long (0 : Int64)), .second, .unset, .unset, .unset, .unset]) rfl hr) ?_
  show OwnR _ _ _ _ _ _ _ (s₁.setTop (mkF m 2 #[.val (.ref a1), .val (.long (0 : Int64)), .second, .unset, .unset, .unset, .unset] []))
  refine OwnR.of (fun _ hr => XS.aloadN X0.here hx rfl (hb hby d5_2) rfl rfl hr) ?_
  show OwnR _ _ _ _ _ _ _ (s₁.setTop (mkF m 3 #[.val (.ref a1), .val (.long (0 : Int64)), .second, .unset, .unset, .unset, .unset] [(.ref a1)]))
  obtain ⟨T1, X1, e1, st1⟩ := getF X0 hx hZ hown (host := "") (Or.inl (hw _ (List.mem_of_getElem? (i := 29) rfl))) Via.refl e0 F_branches_a1 (g := (mkF m 3 #[.val (.ref a1), .val (.long (0 : Int64)), .second, .unset, .unset, .unset, .unset] [(.ref a1)])) rfl rfl (hb hby d5_3)
  refine OwnR.of (st1) ?_
  show OwnR _ _ _ _ _ _ _ (T1.setTop (mkF m 6 #[.val (.ref a1), .val (.long (0 : Int64)), .second, .unset, .unset, .unset, .unset] [(.ref a2)]))
  refine OwnR.of (fun _ hr => XS.astoreN X1.here hx rfl (hb hby d5_6) rfl rfl (l' := #[.val (.ref a1), .val (.long (0 : Int64)), .second, .val (.ref a2), .unset, .unset, .unset]) rfl hr) ?_
  show OwnR _ _ _ _ _ _ _ (T1.setTop (mkF m 7 #[.val (.ref a1), .val (.long (0 : Int64)), .second, .val (.ref a2), .unset, .unset, .unset] []))
  refine OwnR.of (fun _ hr => XS.aloadN X1.here hx rfl (hb hby d5_7) rfl rfl hr) ?_
  show OwnR _ _ _ _ _ _ _ (T1.setTop (mkF m 8 #[.val (.ref a1), .val (.long (0 : Int64)), .second, .val (.ref a2), .unset, .unset, .unset] [(.ref a2)]))
  obtain ⟨cl2, Ar2, -, S2, N2, -, -⟩ := id V_a2
  refine OwnR.of (X1.arraylength hx (by rw [e1]; exact Ar2.1) (State.isArrayOf_alike hZ.alike Ar2.2.1) (g := (mkF m 8 #[.val (.ref a1), .val (.long (0 : Int64)), .second, .val (.ref a2), .unset, .unset, .unset] [(.ref a2)])) rfl rfl (hb hby d5_8)) ?_
  show OwnR _ _ _ _ _ _ _ (T1.setTop (mkF m 9 #[.val (.ref a1), .val (.long (0 : Int64)), .second, .val (.ref a2), .unset, .unset, .unset] [(.int cl2.slots.size.toInt32)]))
  rw [len_of S2 N2]
  show OwnR _ _ _ _ _ _ _ (T1.setTop (mkF m 9 #[.val (.ref a1), .val (.long (0 : Int64)), .second, .val (.ref a2), .unset, .unset, .unset] [(.int (0 : Int32))]))
  refine OwnR.of (fun _ hr => XS.istore X1.here hx rfl (hb hby d5_9) rfl (l' := #[.val (.ref a1), .val (.long (0 : Int64)), .second, .val (.ref a2), .val (.int (0 : Int32)), .unset, .unset]) rfl hr) ?_
  show OwnR _ _ _ _ _ _ _ (T1.setTop (mkF m 11 #[.val (.ref a1), .val (.long (0 : Int64)), .second, .val (.ref a2), .val (.int (0 : Int32)), .unset, .unset] []))
  refine OwnR.of (fun _ hr => XS.iconst X1.here hx rfl (hb hby d5_11) hr) ?_
  show OwnR _ _ _ _ _ _ _ (T1.setTop (mkF m 12 #[.val (.ref a1), .val (.long (0 : Int64)), .second, .val (.ref a2), .val (.int (0 : Int32)), .unset, .unset] [(.int (0 : Int32))]))
  refine OwnR.of (fun _ hr => XS.istore X1.here hx rfl (hb hby d5_12) rfl (l' := #[.val (.ref a1), .val (.long (0 : Int64)), .second, .val (.ref a2), .val (.int (0 : Int32)), .val (.int (0 : Int32)), .unset]) rfl hr) ?_
  show OwnR _ _ _ _ _ _ _ (T1.setTop (mkF m 14 #[.val (.ref a1), .val (.long (0 : Int64)), .second, .val (.ref a2), .val (.int (0 : Int32)), .val (.int (0 : Int32)), .unset] []))
  refine OwnR.of (fun _ hr => XS.iload X1.here hx rfl (hb hby d5_14) rfl hr) ?_
  show OwnR _ _ _ _ _ _ _ (T1.setTop (mkF m 16 #[.val (.ref a1), .val (.long (0 : Int64)), .second, .val (.ref a2), .val (.int (0 : Int32)), .val (.int (0 : Int32)), .unset] [(.int (0 : Int32))]))
  refine OwnR.of (fun _ hr => XS.iload X1.here hx rfl (hb hby d5_16) rfl hr) ?_
  show OwnR _ _ _ _ _ _ _ (T1.setTop (mkF m 18 #[.val (.ref a1), .val (.long (0 : Int64)), .second, .val (.ref a2), .val (.int (0 : Int32)), .val (.int (0 : Int32)), .unset] [(.int (0 : Int32)), (.int (0 : Int32))]))
  refine OwnR.of (fun _ hr => XS.icmpYes X1.here hx rfl (pc0 := 18) (pc' := 39) rfl (hb hby d5_18) rfl (flt (by decide : ¬ ((0 : Int32) < (0 : Int32)))).2.1 (by decide) (by decide) hr) ?_
  show OwnR _ _ _ _ _ _ _ (T1.setTop (mkF m 39 #[.val (.ref a1), .val (.long (0 : Int64)), .second, .val (.ref a2), .val (.int (0 : Int32)), .val (.int (0 : Int32)), .unset] []))
  refine OwnR.of (fun _ hr => XS.lloadN X1.here hx rfl (hb hby d5_39) rfl hr) ?_
  show OwnR _ _ _ _ _ _ _ (T1.setTop (mkF m 40 #[.val (.ref a1), .val (.long (0 : Int64)), .second, .val (.ref a2), .val (.int (0 : Int32)), .val (.int (0 : Int32)), .unset] [(.long (0 : Int64))]))
  refine own_leafJ X1 hx hlk Bd.returns (hb hby d5_40) (by decide) (by decide) ?_
  show Q5_0 Z  h0 n0 _ T1.heap _
  rw [show T1.heap = h0 from e1]
  refine ⟨?_, N0, rfl⟩
  show (some (.long (0 : Int64)) : Option Value) = some (.long (0 : Int64))
  rfl
theorem ef_rm3_1 (m : MethodId) (x0 : Addr) (x1 : Addr) (x2 : Addr) : entryFrame m #[(.ref x0), (.ref x1), (.ref x2), .null] 5 = mkF m 0 #[.val (.ref x0), .val (.ref x1), .val (.ref x2), .val .null, .unset] [] := by first | (simp [entryFrame, mkF, argsToLocals, Value.category]; done) | rfl
theorem d3_38 : decode prog_88_method_1_code 38 = .ok (.aload_n 1, 1) := by decide +kernel
theorem d3_39 : decode prog_88_method_1_code 39 = .ok (.iload 4, 2) := by decide +kernel
theorem d3_41 : decode prog_88_method_1_code 41 = .ok (.iaload, 1) := by decide +kernel
theorem d3_42 : decode prog_88_method_1_code 42 = .ok (.iconst 1, 1) := by decide +kernel
theorem d3_43 : decode prog_88_method_1_code 43 = .ok (.if_icmp .ge 24, 3) := by decide +kernel
theorem d3_67 : decode prog_88_method_1_code 67 = .ok (.iinc 4 1, 3) := by decide +kernel
theorem d3_70 : decode prog_88_method_1_code 70 = .ok (.goto (-39), 3) := by decide +kernel
def Q3_1 (Z : State) (a1 : Addr) (k2 : ClassId) (x0 : Int32) (h0 : Heap) (n0 : Nat) (v : Option Value) (h : Heap) (L : List Loc) : Prop := ∃ (bI : Addr), v = none ∧ Fr n0 L ∧ Keep h0 h [a1] ∧ Exa Z h a1 "com/example/ramification/ramification/model/StrahlerOrders" ∧ Fld Z h a1 "com/example/ramification/ramification/model/StrahlerOrders" "branches" "[I" (.ref bI) ∧ Arv Z h bI k2 .int (1 : Int32) [(.int x0)] (.int (0 : Int32))
set_option maxRecDepth 65536 in
set_option maxHeartbeats 40000000 in
theorem rm3_1 (l : Launch) (Z : State) (a0 : Array Value) (hw : ∀ d ∈ tables_1, d.before a0 Z = true) (ws : List Jvm.Cond) (a1 : Addr) (a2 : Addr) (a3 : Addr) (k2 k3 : ClassId) (x0 : Int32) (h0 : Heap) (n0 : Nat) (Z0 : n0 ≤ h0.size) (E_a1 : Exa Z h0 a1 "com/example/ramification/ramification/model/StrahlerOrders") (F_branches_a1 : Fld Z h0 a1 "com/example/ramification/ramification/model/StrahlerOrders" "branches" "[I" .null) (F_lengths_a1 : Fld Z h0 a1 "com/example/ramification/ramification/model/StrahlerOrders" "lengths" "[D" .null) (F_unit_a1 : Fld Z h0 a1 "com/example/ramification/ramification/model/StrahlerOrders" "unit" "Ljava/util/Optional;" .null) (V_a2 : Arv Z h0 a2 k2 .int (1 : Int32) [(.int x0)] (.int (0 : Int32))) (V_a3 : Arv Z h0 a3 k3 .double (1 : Int32) [(defaultValue .double)] (defaultValue .double)) (E_a2 : Exa Z h0 a2 "[I") (E_a3 : Exa Z h0 a3 "[D") (g_a1 : n0 ≤ a1) (ne_12 : a1 ≠ a2) (ne_13 : a1 ≠ a3) (hx0 : ¬ (x0 < (1 : Int32))) :
    MetFree l (⟨"com/example/ramification/ramification/model/StrahlerOrders", "<init>", "([I[DLjava/util/Optional;)V"⟩ : MethodName) (head1 (Jvm.Cond.code (⟨"com/example/ramification/ramification/model/StrahlerOrders", "<init>", "([I[DLjava/util/Optional;)V"⟩ : MethodName) prog_88_method_1_code 5 none :: ws) ({ frames := 1, cells := 2, slots := 2, locals := 18 } : Room)) (fun a U => a = #[(.ref a1), (.ref a2), (.ref a3), .null] ∧ Z.Warmed39 U.vm ∧ U.heap = h0) (fun _ _ _ _ _ => True) (fun _ U o U' => ∃ v L, o = .returned v ∧ Q3_1 Z a1 k2 x0 h0 n0 v U'.heap L ∧ FrameEnd U o U' L ({ frames := 1, cells := 2, slots := 2, locals := 18 } : Room).cells ({ frames := 1, cells := 2, slots := 2, locals := 18 } : Room).slots) := by
  refine MetFree.of_bodySF (plainFor_of_name pn_com_example_ramification_ramification_model_StrahlerOrders) hisR ?_
  intro p e s m args below meth c s₁ Bd hml0 hP hK
  obtain ⟨rfl, hZ, hh⟩ := hP
  have hx := Bd.exec
  have hby := Bd.bytes
  have hlk := BodyLoose.notSynchronized Bd
  have hml : c.maxLocals = 5 := hml0
  have hown : s.vm.findClass "com/example/ramification/ramification/model/StrahlerOrders" = some m.cls := findClass_of_methodNamed Bd.named
  have hnm := (name_of_methodNamed Bd.named Bd.method).1
  have X0 : Stand p l e ({ frames := 1, cells := 2, slots := 2, locals := 18 } : Room) s m #[(.ref a1), (.ref a2), (.ref a3), .null] below meth c s₁ [] 0 0 := Stand.of_body Bd
  have e0 : s₁.heap = h0 := by rw [← hh, Bd.state]; rfl
  have N0 := Fr.nil n0
  refine OwnR.of (s := s) (Q := Q3_1 Z a1 k2 x0 h0 n0) (fun t k => castTop (ef_rm3_1 m a1 a2 a3) k) ?_
  show OwnR _ _ _ _ _ _ _ (s₁.setTop (mkF m 0 #[.val (.ref a1), .val (.ref a2), .val (.ref a3), .val .null, .unset] []))
  refine OwnR.of (fun _ hr => XS.aloadN X0.here hx rfl (hb hby d3_0) rfl rfl hr) ?_
  show OwnR _ _ _ _ _ _ _ (s₁.setTop (mkF m 1 #[.val (.ref a1), .val (.ref a2), .val (.ref a3), .val .null, .unset] [(.ref a1)]))
  obtain ⟨T1, X1, e1, st1⟩ := initO X0 hx hZ hown (hw _ (List.mem_of_getElem? (i := 17) rfl)) (hw _ (List.mem_of_getElem? (i := 18) rfl)) (hw _ (List.mem_of_getElem? (i := 19) rfl)) e0 (g := (mkF m 1 #[.val (.ref a1), .val (.ref a2), .val (.ref a3), .val .null, .unset] [(.ref a1)])) rfl (by rw [hml]; rfl) rfl (hb hby d3_1) (by decide) (W := 0) (by show 2 * 0 + _ ≤ _; exact Nat.le_of_eq rfl) (by decide)
  refine OwnR.of (st1) ?_
  show OwnR _ _ _ _ _ _ _ (T1.setTop (mkF m 4 #[.val (.ref a1), .val (.ref a2), .val (.ref a3), .val .null, .unset] []))
  refine OwnR.of (fun _ hr => XS.aloadN X1.here hx rfl (hb hby d3_4) rfl rfl hr) ?_
  show OwnR _ _ _ _ _ _ _ (T1.setTop (mkF m 5 #[.val (.ref a1), .val (.ref a2), .val (.ref a3), .val .null, .unset] [(.ref a2)]))
  obtain ⟨cl2, Ar2, -, S2, N2, -, -⟩ := id V_a2
  refine OwnR.of (X1.arraylength hx (by rw [e1]; exact Ar2.1) (State.isArrayOf_alike hZ.alike Ar2.2.1) (g := (mkF m 5 #[.val (.ref a1), .val (.ref a2), .val (.ref a3), .val .null, .unset] [(.ref a2)])) rfl rfl (hb hby d3_5)) ?_
  show OwnR _ _ _ _ _ _ _ (T1.setTop (mkF m 6 #[.val (.ref a1), .val (.ref a2), .val (.ref a3), .val .null, .unset] [(.int cl2.slots.size.toInt32)]))
  rw [len_of S2 N2]
  show OwnR _ _ _ _ _ _ _ (T1.setTop (mkF m 6 #[.val (.ref a1), .val (.ref a2), .val (.ref a3), .val .null, .unset] [(.int (1 : Int32))]))
  refine OwnR.of (fun _ hr => XS.aloadN X1.here hx rfl (hb hby d3_6) rfl rfl hr) ?_
  show OwnR _ _ _ _ _ _ _ (T1.setTop (mkF m 7 #[.val (.ref a1), .val (.ref a2), .val (.ref a3), .val .null, .unset] [(.ref a3), (.int (1 : Int32))]))
  obtain ⟨cl3, Ar3, -, S3, N3, -, -⟩ := id V_a3
  refine OwnR.of (X1.arraylength hx (by rw [e1]; exact Ar3.1) (State.isArrayOf_alike hZ.alike Ar3.2.1) (g := (mkF m 7 #[.val (.ref a1), .val (.ref a2), .val (.ref a3), .val .null, .unset] [(.ref a3), (.int (1 : Int32))])) rfl rfl (hb hby d3_7)) ?_
  show OwnR _ _ _ _ _ _ _ (T1.setTop (mkF m 8 #[.val (.ref a1), .val (.ref a2), .val (.ref a3), .val .null, .unset] [(.int cl3.slots.size.toInt32), (.int (1 : Int32))]))
  rw [len_of S3 N3]
  show OwnR _ _ _ _ _ _ _ (T1.setTop (mkF m 8 #[.val (.ref a1), .val (.ref a2), .val (.ref a3), .val .null, .unset] [(.int (1 : Int32)), (.int (1 : Int32))]))
  refine OwnR.of (fun _ hr => XS.icmpYes X1.here hx rfl (pc0 := 8) (pc' := 28) rfl (hb hby d3_8) rfl (teq (by decide : (1 : Int32) = (1 : Int32))).1 (by decide) (by decide) hr) ?_
  show OwnR _ _ _ _ _ _ _ (T1.setTop (mkF m 28 #[.val (.ref a1), .val (.ref a2), .val (.ref a3), .val .null, .unset] []))
  refine OwnR.of (fun _ hr => XS.iconst X1.here hx rfl (hb hby d3_28) hr) ?_
  show OwnR _ _ _ _ _ _ _ (T1.setTop (mkF m 29 #[.val (.ref a1), .val (.ref a2), .val (.ref a3), .val .null, .unset] [(.int (0 : Int32))]))
  refine OwnR.of (fun _ hr => XS.istore X1.here hx rfl (hb hby d3_29) rfl (l' := #[.val (.ref a1), .val (.ref a2), .val (.ref a3), .val .null, .val (.int (0 : Int32))]) rfl hr) ?_
  show OwnR _ _ _ _ _ _ _ (T1.setTop (mkF m 31 #[.val (.ref a1), .val (.ref a2), .val (.ref a3), .val .null, .val (.int (0 : Int32))] []))
  refine OwnR.of (fun _ hr => XS.iload X1.here hx rfl (hb hby d3_31) rfl hr) ?_
  show OwnR _ _ _ _ _ _ _ (T1.setTop (mkF m 33 #[.val (.ref a1), .val (.ref a2), .val (.ref a3), .val .null, .val (.int (0 : Int32))] [(.int (0 : Int32))]))
  refine OwnR.of (fun _ hr => XS.aloadN X1.here hx rfl (hb hby d3_33) rfl rfl hr) ?_
  show OwnR _ _ _ _ _ _ _ (T1.setTop (mkF m 34 #[.val (.ref a1), .val (.ref a2), .val (.ref a3), .val .null, .val (.int (0 : Int32))] [(.ref a2), (.int (0 : Int32))]))
  obtain ⟨cl4, Ar4, -, S4, N4, -, -⟩ := id V_a2
  refine OwnR.of (X1.arraylength hx (by rw [e1]; exact Ar4.1) (State.isArrayOf_alike hZ.alike Ar4.2.1) (g := (mkF m 34 #[.val (.ref a1), .val (.ref a2), .val (.ref a3), .val .null, .val (.int (0 : Int32))] [(.ref a2), (.int (0 : Int32))])) rfl rfl (hb hby d3_34)) ?_
  show OwnR _ _ _ _ _ _ _ (T1.setTop (mkF m 35 #[.val (.ref a1), .val (.ref a2), .val (.ref a3), .val .null, .val (.int (0 : Int32))] [(.int cl4.slots.size.toInt32), (.int (0 : Int32))]))
  rw [len_of S4 N4]
  show OwnR _ _ _ _ _ _ _ (T1.setTop (mkF m 35 #[.val (.ref a1), .val (.ref a2), .val (.ref a3), .val .null, .val (.int (0 : Int32))] [(.int (1 : Int32)), (.int (0 : Int32))]))
  refine OwnR.of (fun _ hr => XS.icmpNo X1.here hx rfl (hb hby d3_35) rfl (tlt (by decide : (0 : Int32) < (1 : Int32))).2.1 hr) ?_
  show OwnR _ _ _ _ _ _ _ (T1.setTop (mkF m 38 #[.val (.ref a1), .val (.ref a2), .val (.ref a3), .val .null, .val (.int (0 : Int32))] []))
  refine OwnR.of (fun _ hr => XS.aloadN X1.here hx rfl (hb hby d3_38) rfl rfl hr) ?_
  show OwnR _ _ _ _ _ _ _ (T1.setTop (mkF m 39 #[.val (.ref a1), .val (.ref a2), .val (.ref a3), .val .null, .val (.int (0 : Int32))] [(.ref a2)]))
  refine OwnR.of (fun _ hr => XS.iload X1.here hx rfl (hb hby d3_39) rfl hr) ?_
  show OwnR _ _ _ _ _ _ _ (T1.setTop (mkF m 41 #[.val (.ref a1), .val (.ref a2), .val (.ref a3), .val .null, .val (.int (0 : Int32))] [(.int (0 : Int32)), (.ref a2)]))
  obtain ⟨cl5, Ar5, -, S5, N5, H5, G5⟩ := id V_a2
  have hin5 : ¬ ((0 : Int32) < 0 ∨ cl5.slots.size ≤ ((0 : Int32)).toNatClampNeg) := (inb_of S5 ⟨by decide, by decide⟩)
  refine OwnR.of (X1.iaload hx (j := (0 : Int32)) (v := (.int x0)) (by rw [e1]; exact Ar5.1) (State.isArrayOf_alike hZ.alike Ar5.2.1) Ar5.2.2 hin5 (Has.at H5 hin5 rfl) (g := (mkF m 41 #[.val (.ref a1), .val (.ref a2), .val (.ref a3), .val .null, .val (.int (0 : Int32))] [(.int (0 : Int32)), (.ref a2)])) rfl rfl (hb hby d3_41)) ?_
  show OwnR _ _ _ _ _ _ _ (T1.setTop (mkF m 42 #[.val (.ref a1), .val (.ref a2), .val (.ref a3), .val .null, .val (.int (0 : Int32))] [(.int x0)]))
  refine OwnR.of (fun _ hr => XS.iconst X1.here hx rfl (hb hby d3_42) hr) ?_
  show OwnR _ _ _ _ _ _ _ (T1.setTop (mkF m 43 #[.val (.ref a1), .val (.ref a2), .val (.ref a3), .val .null, .val (.int (0 : Int32))] [(.int (1 : Int32)), (.int x0)]))
  refine OwnR.of (fun _ hr => XS.icmpYes X1.here hx rfl (pc0 := 43) (pc' := 67) rfl (hb hby d3_43) rfl (flt hx0).2.1 (by decide) (by decide) hr) ?_
  show OwnR _ _ _ _ _ _ _ (T1.setTop (mkF m 67 #[.val (.ref a1), .val (.ref a2), .val (.ref a3), .val .null, .val (.int (0 : Int32))] []))
  refine OwnR.of (fun _ hr => XS.iinc X1.here hx rfl (hb hby d3_67) rfl (l' := #[.val (.ref a1), .val (.ref a2), .val (.ref a3), .val .null, .val (.int ((0 : Int32) + (1 : Int32)))]) rfl hr) ?_
  show OwnR _ _ _ _ _ _ _ (T1.setTop (mkF m 70 #[.val (.ref a1), .val (.ref a2), .val (.ref a3), .val .null, .val (.int ((0 : Int32) + (1 : Int32)))] []))
  rw [(by decide : ((0 : Int32) + (1 : Int32)) = (1 : Int32))]
  show OwnR _ _ _ _ _ _ _ (T1.setTop (mkF m 70 #[.val (.ref a1), .val (.ref a2), .val (.ref a3), .val .null, .val (.int (1 : Int32))] []))
  refine OwnR.of (fun _ hr => XS.goto X1.here hx rfl (pc0 := 70) (pc' := 31) rfl (hb hby d3_70) (by decide) (by decide) hr) ?_
  show OwnR _ _ _ _ _ _ _ (T1.setTop (mkF m 31 #[.val (.ref a1), .val (.ref a2), .val (.ref a3), .val .null, .val (.int (1 : Int32))] []))
  refine OwnR.of (fun _ hr => XS.iload X1.here hx rfl (hb hby d3_31) rfl hr) ?_
  show OwnR _ _ _ _ _ _ _ (T1.setTop (mkF m 33 #[.val (.ref a1), .val (.ref a2), .val (.ref a3), .val .null, .val (.int (1 : Int32))] [(.int (1 : Int32))]))
  refine OwnR.of (fun _ hr => XS.aloadN X1.here hx rfl (hb hby d3_33) rfl rfl hr) ?_
  show OwnR _ _ _ _ _ _ _ (T1.setTop (mkF m 34 #[.val (.ref a1), .val (.ref a2), .val (.ref a3), .val .null, .val (.int (1 : Int32))] [(.ref a2), (.int (1 : Int32))]))
  obtain ⟨cl6, Ar6, -, S6, N6, -, -⟩ := id V_a2
  refine OwnR.of (X1.arraylength hx (by rw [e1]; exact Ar6.1) (State.isArrayOf_alike hZ.alike Ar6.2.1) (g := (mkF m 34 #[.val (.ref a1), .val (.ref a2), .val (.ref a3), .val .null, .val (.int (1 : Int32))] [(.ref a2), (.int (1 : Int32))])) rfl rfl (hb hby d3_34)) ?_
  show OwnR _ _ _ _ _ _ _ (T1.setTop (mkF m 35 #[.val (.ref a1), .val (.ref a2), .val (.ref a3), .val .null, .val (.int (1 : Int32))] [(.int cl6.slots.size.toInt32), (.int (1 : Int32))]))
  rw [len_of S6 N6]
  show OwnR _ _ _ _ _ _ _ (T1.setTop (mkF m 35 #[.val (.ref a1), .val (.ref a2), .val (.ref a3), .val .null, .val (.int (1 : Int32))] [(.int (1 : Int32)), (.int (1 : Int32))]))
  refine OwnR.of (fun _ hr => XS.icmpYes X1.here hx rfl (pc0 := 35) (pc' := 73) rfl (hb hby d3_35) rfl (flt (by decide : ¬ ((1 : Int32) < (1 : Int32)))).2.1 (by decide) (by decide) hr) ?_
  show OwnR _ _ _ _ _ _ _ (T1.setTop (mkF m 73 #[.val (.ref a1), .val (.ref a2), .val (.ref a3), .val .null, .val (.int (1 : Int32))] []))
  refine OwnR.of (fun _ hr => XS.aloadN X1.here hx rfl (hb hby d3_73) rfl rfl hr) ?_
  show OwnR _ _ _ _ _ _ _ (T1.setTop (mkF m 74 #[.val (.ref a1), .val (.ref a2), .val (.ref a3), .val .null, .val (.int (1 : Int32))] [(.ref a1)]))
  refine OwnR.of (fun _ hr => XS.aloadN X1.here hx rfl (hb hby d3_74) rfl rfl hr) ?_
  show OwnR _ _ _ _ _ _ _ (T1.setTop (mkF m 75 #[.val (.ref a1), .val (.ref a2), .val (.ref a3), .val .null, .val (.int (1 : Int32))] [(.ref a2), (.ref a1)]))
  obtain ⟨T7, h7, X7, e7, E7, V7, AE7, st7⟩ := cloneH X1 hx hZ hown (hw _ (List.mem_of_getElem? (i := 20) rfl)) (hw _ (List.mem_of_getElem? (i := 21) rfl)) (hw _ (List.mem_of_getElem? (i := 25) rfl)) (hw _ (List.mem_of_getElem? (i := 23) rfl)) (hw _ (List.mem_of_getElem? (i := 24) rfl)) (hw _ (List.mem_of_getElem? (i := 26) rfl)) e1 (Arv.arh V_a2) E_a2 (g := (mkF m 75 #[.val (.ref a1), .val (.ref a2), .val (.ref a3), .val .null, .val (.int (1 : Int32))] [(.ref a2), (.ref a1)])) rfl (by rw [hml]; rfl) rfl (hb hby d3_75) (by decide) (W := 1) (by show 2 * 0 + _ ≤ _; exact Nat.le_of_eq rfl) (by decide) (cap := 1) (by decide) (by decide) (by decide)
  obtain ⟨b7, g7⟩ : ∃ z, z = h0.size := ⟨_, rfl⟩
  rw [← g7] at V7 AE7 st7
  refine OwnR.of (st7) ?_
  have gn_b7 : n0 ≤ b7 := Nat.le_trans (Nat.le_trans Z0 (Keep.refl h0 [a1]).1) (Nat.le_of_eq g7.symm)
  have sz_b7 : h0.size ≤ b7 := Nat.le_trans (Keep.refl h0 [a1]).1 (Nat.le_of_eq g7.symm)
  have K7 : Keep h0 h7 [a1] := Keep.ext (Keep.refl h0 [a1]) E7
  have V7 : Arv Z h7 b7 k2 .int (1 : Int32) [(.int x0)] (.int (0 : Int32)) := V7
  show OwnR _ _ _ _ _ _ _ (T7.setTop (mkF m 78 #[.val (.ref a1), .val (.ref a2), .val (.ref a3), .val .null, .val (.int (1 : Int32))] [(.ref b7), (.ref a1)]))
  obtain ⟨T8, X8, e8, st8⟩ := castY X7 hx hZ hown (hw _ (List.mem_of_getElem? (i := 27) rfl)) e7 (Ins.self AE7) (g := (mkF m 78 #[.val (.ref a1), .val (.ref a2), .val (.ref a3), .val .null, .val (.int (1 : Int32))] [(.ref b7), (.ref a1)])) rfl rfl (hb hby d3_78)
  refine OwnR.of (st8) ?_
  show OwnR _ _ _ _ _ _ _ (T8.setTop (mkF m 81 #[.val (.ref a1), .val (.ref a2), .val (.ref a3), .val .null, .val (.int (1 : Int32))] [(.ref b7), (.ref a1)]))
  obtain ⟨T9, h9, X9, e9, W9, st9⟩ := putF X8 hx hZ hown (host := "") (Or.inl (hw _ (List.mem_of_getElem? (i := 29) rfl))) Via.refl e8 (Fld.ext E7 F_branches_a1) (Exa.keep E_a1 K7) (Or.inr ⟨(hw _ (List.mem_of_getElem? (i := 30) rfl)), rfl, hnm⟩) (hw _ (List.mem_of_getElem? (i := 12) rfl)) (ty := (.array .int)) (by decide) rfl rfl (g := (mkF m 81 #[.val (.ref a1), .val (.ref a2), .val (.ref a3), .val .null, .val (.int (1 : Int32))] [(.ref b7), (.ref a1)])) rfl rfl (hb hby d3_81)
  refine OwnR.of (st9) ?_
  have F9 := Fld.same W9 (Fld.ext E7 F_branches_a1)
  have K9 : Keep h0 h9 [a1] := Keep.wr K7 W9 (Or.inl (List.mem_of_getElem? (i := 0) rfl))
  have N9 := Fr.snoc X9 N0 g_a1
  show OwnR _ _ _ _ _ _ _ (T9.setTop (mkF m 84 #[.val (.ref a1), .val (.ref a2), .val (.ref a3), .val .null, .val (.int (1 : Int32))] []))
  refine OwnR.of (fun _ hr => XS.aloadN X9.here hx rfl (hb hby d3_84) rfl rfl hr) ?_
  show OwnR _ _ _ _ _ _ _ (T9.setTop (mkF m 85 #[.val (.ref a1), .val (.ref a2), .val (.ref a3), .val .null, .val (.int (1 : Int32))] [(.ref a1)]))
  refine OwnR.of (fun _ hr => XS.aloadN X9.here hx rfl (hb hby d3_85) rfl rfl hr) ?_
  show OwnR _ _ _ _ _ _ _ (T9.setTop (mkF m 86 #[.val (.ref a1), .val (.ref a2), .val (.ref a3), .val .null, .val (.int (1 : Int32))] [(.ref a3), (.ref a1)]))
  obtain ⟨T10, h10, X10, e10, E10, V10, AE10, st10⟩ := cloneH X9 hx hZ hown (hw _ (List.mem_of_getElem? (i := 31) rfl)) (hw _ (List.mem_of_getElem? (i := 32) rfl)) (hw _ (List.mem_of_getElem? (i := 25) rfl)) (hw _ (List.mem_of_getElem? (i := 23) rfl)) (hw _ (List.mem_of_getElem? (i := 33) rfl)) (hw _ (List.mem_of_getElem? (i := 34) rfl)) e9 (Arv.arh (Arv.keep V_a3 K9 (ninS (Ne.symm ne_13) nin0))) (Exa.keep E_a3 K9) (g := (mkF m 86 #[.val (.ref a1), .val (.ref a2), .val (.ref a3), .val .null, .val (.int (1 : Int32))] [(.ref a3), (.ref a1)])) rfl (by rw [hml]; rfl) rfl (hb hby d3_86) (by decide) (W := 1) (by show 2 * 0 + _ ≤ _; exact Nat.le_of_eq rfl) (by decide) (cap := 1) (by decide) (by decide) (by decide)
  obtain ⟨b10, g10⟩ : ∃ z, z = h9.size := ⟨_, rfl⟩
  rw [← g10] at V10 AE10 st10
  refine OwnR.of (st10) ?_
  have gn_b10 : n0 ≤ b10 := Nat.le_trans (Nat.le_trans Z0 K9.1) (Nat.le_of_eq g10.symm)
  have sz_b10 : h0.size ≤ b10 := Nat.le_trans K9.1 (Nat.le_of_eq g10.symm)
  have K10 : Keep h0 h10 [a1] := Keep.ext K9 E10
  have V10 : Arv Z h10 b10 k3 .double (1 : Int32) [(defaultValue .double)] (defaultValue .double) := V10
  show OwnR _ _ _ _ _ _ _ (T10.setTop (mkF m 89 #[.val (.ref a1), .val (.ref a2), .val (.ref a3), .val .null, .val (.int (1 : Int32))] [(.ref b10), (.ref a1)]))
  obtain ⟨T11, X11, e11, st11⟩ := castY X10 hx hZ hown (hw _ (List.mem_of_getElem? (i := 35) rfl)) e10 (Ins.self AE10) (g := (mkF m 89 #[.val (.ref a1), .val (.ref a2), .val (.ref a3), .val .null, .val (.int (1 : Int32))] [(.ref b10), (.ref a1)])) rfl rfl (hb hby d3_89)
  refine OwnR.of (st11) ?_
  show OwnR _ _ _ _ _ _ _ (T11.setTop (mkF m 92 #[.val (.ref a1), .val (.ref a2), .val (.ref a3), .val .null, .val (.int (1 : Int32))] [(.ref b10), (.ref a1)]))
  obtain ⟨T12, h12, X12, e12, W12, st12⟩ := putF X11 hx hZ hown (host := "") (Or.inl (hw _ (List.mem_of_getElem? (i := 37) rfl))) Via.refl e11 (Fld.ext E10 (Fld.other W9 (Fld.ext E7 F_lengths_a1) (Or.inr (slot_ne (Or.inr (hw _ (List.mem_of_getElem? (i := 38) rfl))) (Or.inr (hw _ (List.mem_of_getElem? (i := 30) rfl))) (by decide) (t := (.array .double)) (t' := (.array .int)) (by decide) (by decide))))) (Exa.keep E_a1 K10) (Or.inr ⟨(hw _ (List.mem_of_getElem? (i := 38) rfl)), rfl, hnm⟩) (hw _ (List.mem_of_getElem? (i := 12) rfl)) (ty := (.array .double)) (by decide) rfl rfl (g := (mkF m 92 #[.val (.ref a1), .val (.ref a2), .val (.ref a3), .val .null, .val (.int (1 : Int32))] [(.ref b10), (.ref a1)])) rfl rfl (hb hby d3_92)
  refine OwnR.of (st12) ?_
  have F12 := Fld.same W12 (Fld.ext E10 (Fld.other W9 (Fld.ext E7 F_lengths_a1) (Or.inr (slot_ne (Or.inr (hw _ (List.mem_of_getElem? (i := 38) rfl))) (Or.inr (hw _ (List.mem_of_getElem? (i := 30) rfl))) (by decide) (t := (.array .double)) (t' := (.array .int)) (by decide) (by decide)))))
  have K12 : Keep h0 h12 [a1] := Keep.wr K10 W12 (Or.inl (List.mem_of_getElem? (i := 0) rfl))
  have N12 := Fr.snoc X12 N9 g_a1
  show OwnR _ _ _ _ _ _ _ (T12.setTop (mkF m 95 #[.val (.ref a1), .val (.ref a2), .val (.ref a3), .val .null, .val (.int (1 : Int32))] []))
  refine OwnR.of (fun _ hr => XS.aloadN X12.here hx rfl (hb hby d3_95) rfl rfl hr) ?_
  show OwnR _ _ _ _ _ _ _ (T12.setTop (mkF m 96 #[.val (.ref a1), .val (.ref a2), .val (.ref a3), .val .null, .val (.int (1 : Int32))] [(.ref a1)]))
  refine OwnR.of (fun _ hr => XS.aloadN X12.here hx rfl (hb hby d3_96) rfl rfl hr) ?_
  show OwnR _ _ _ _ _ _ _ (T12.setTop (mkF m 97 #[.val (.ref a1), .val (.ref a2), .val (.ref a3), .val .null, .val (.int (1 : Int32))] [.null, (.ref a1)]))
  obtain ⟨T13, h13, X13, e13, W13, st13⟩ := putF X12 hx hZ hown (host := "") (Or.inl (hw _ (List.mem_of_getElem? (i := 39) rfl))) Via.refl e12 (Fld.other W12 (Fld.ext E10 (Fld.other W9 (Fld.ext E7 F_unit_a1) (Or.inr (slot_ne (Or.inr (hw _ (List.mem_of_getElem? (i := 40) rfl))) (Or.inr (hw _ (List.mem_of_getElem? (i := 30) rfl))) (by decide) (t := (.object "java/util/Optional")) (t' := (.array .int)) (by decide) (by decide))))) (Or.inr (slot_ne (Or.inr (hw _ (List.mem_of_getElem? (i := 40) rfl))) (Or.inr (hw _ (List.mem_of_getElem? (i := 38) rfl))) (by decide) (t := (.object "java/util/Optional")) (t' := (.array .double)) (by decide) (by decide)))) (Exa.keep E_a1 K12) (Or.inr ⟨(hw _ (List.mem_of_getElem? (i := 40) rfl)), rfl, hnm⟩) (hw _ (List.mem_of_getElem? (i := 12) rfl)) (ty := (.object "java/util/Optional")) (by decide) rfl rfl (g := (mkF m 97 #[.val (.ref a1), .val (.ref a2), .val (.ref a3), .val .null, .val (.int (1 : Int32))] [.null, (.ref a1)])) rfl rfl (hb hby d3_97)
  refine OwnR.of (st13) ?_
  have F13 := Fld.same W13 (Fld.other W12 (Fld.ext E10 (Fld.other W9 (Fld.ext E7 F_unit_a1) (Or.inr (slot_ne (Or.inr (hw _ (List.mem_of_getElem? (i := 40) rfl))) (Or.inr (hw _ (List.mem_of_getElem? (i := 30) rfl))) (by decide) (t := (.object "java/util/Optional")) (t' := (.array .int)) (by decide) (by decide))))) (Or.inr (slot_ne (Or.inr (hw _ (List.mem_of_getElem? (i := 40) rfl))) (Or.inr (hw _ (List.mem_of_getElem? (i := 38) rfl))) (by decide) (t := (.object "java/util/Optional")) (t' := (.array .double)) (by decide) (by decide))))
  have K13 : Keep h0 h13 [a1] := Keep.wr K12 W13 (Or.inl (List.mem_of_getElem? (i := 0) rfl))
  have N13 := Fr.snoc X13 N12 g_a1
  show OwnR _ _ _ _ _ _ _ (T13.setTop (mkF m 100 #[.val (.ref a1), .val (.ref a2), .val (.ref a3), .val .null, .val (.int (1 : Int32))] []))
  refine own_leafV X13 hx hlk Bd.returns (hb hby d3_100) (by decide) (by decide) ?_
  show Q3_1 Z a1 k2 x0 h0 n0 _ T13.heap _
  rw [show T13.heap = h13 from e13]
  refine ⟨b7, rfl, N13, ⟨K13, (Exa.keep E_a1 K13), (Fld.other W13 (Fld.other W12 (Fld.ext E10 F9) (Or.inr (slot_ne (Or.inr (hw _ (List.mem_of_getElem? (i := 30) rfl))) (Or.inr (hw _ (List.mem_of_getElem? (i := 38) rfl))) (by decide) (t := (.array .int)) (t' := (.array .double)) (by decide) (by decide)))) (Or.inr (slot_ne (Or.inr (hw _ (List.mem_of_getElem? (i := 30) rfl))) (Or.inr (hw _ (List.mem_of_getElem? (i := 40) rfl))) (by decide) (t := (.array .int)) (t' := (.object "java/util/Optional")) (by decide) (by decide)))), (Arv.other (Arv.other (Arv.ext (Arv.other V7 W9 (Ne.symm (Nat.ne_of_lt (Nat.lt_of_lt_of_le E_a1.lt (Nat.le_of_eq g7.symm))))) E10) W12 (Ne.symm (Nat.ne_of_lt (Nat.lt_of_lt_of_le E_a1.lt (Nat.le_of_eq g7.symm))))) W13 (Ne.symm (Nat.ne_of_lt (Nat.lt_of_lt_of_le E_a1.lt (Nat.le_of_eq g7.symm)))))⟩⟩
theorem ef_rm5_1 (m : MethodId) (x0 : Addr) : entryFrame m #[(.ref x0)] 7 = mkF m 0 #[.val (.ref x0), .unset, .unset, .unset, .unset, .unset, .unset] [] := by first | (simp [entryFrame, mkF, argsToLocals, Value.category]; done) | rfl
theorem d5_21 : decode prog_88_method_7_code 21 = .ok (.aload_n 3, 1) := by decide +kernel
theorem d5_22 : decode prog_88_method_7_code 22 = .ok (.iload 5, 2) := by decide +kernel
theorem d5_24 : decode prog_88_method_7_code 24 = .ok (.iaload, 1) := by decide +kernel
theorem d5_25 : decode prog_88_method_7_code 25 = .ok (.istore 6, 2) := by decide +kernel
theorem d5_27 : decode prog_88_method_7_code 27 = .ok (.lload_n 1, 1) := by decide +kernel
theorem d5_28 : decode prog_88_method_7_code 28 = .ok (.iload 6, 2) := by decide +kernel
theorem d5_30 : decode prog_88_method_7_code 30 = .ok (.i2l, 1) := by decide +kernel
theorem d5_31 : decode prog_88_method_7_code 31 = .ok (.ladd, 1) := by decide +kernel
theorem d5_32 : decode prog_88_method_7_code 32 = .ok (.lstore_n 1, 1) := by decide +kernel
theorem d5_33 : decode prog_88_method_7_code 33 = .ok (.iinc 5 1, 3) := by decide +kernel
theorem d5_36 : decode prog_88_method_7_code 36 = .ok (.goto (-22), 3) := by decide +kernel
def Q5_1 (Z : State) (x0 : Int32) (h0 : Heap) (n0 : Nat) (v : Option Value) (h : Heap) (L : List Loc) : Prop := v = some (.long ((0 : Int64) + (x0.toInt64))) ∧ Fr n0 L ∧ h = h0
set_option maxRecDepth 65536 in
set_option maxHeartbeats 40000000 in
theorem rm5_1 (l : Launch) (Z : State) (a0 : Array Value) (hw : ∀ d ∈ tables_1, d.before a0 Z = true) (ws : List Jvm.Cond) (a1 : Addr) (a2 : Addr) (k2 : ClassId) (x0 : Int32) (h0 : Heap) (n0 : Nat) (Z0 : n0 ≤ h0.size) (E_a1 : Exa Z h0 a1 "com/example/ramification/ramification/model/StrahlerOrders") (F_branches_a1 : Fld Z h0 a1 "com/example/ramification/ramification/model/StrahlerOrders" "branches" "[I" (.ref a2)) (V_a2 : Arv Z h0 a2 k2 .int (1 : Int32) [(.int x0)] (.int (0 : Int32))) :
    MetFree l (⟨"com/example/ramification/ramification/model/StrahlerOrders", "getTotalBranches", "()J"⟩ : MethodName) (head1 (Jvm.Cond.code (⟨"com/example/ramification/ramification/model/StrahlerOrders", "getTotalBranches", "()J"⟩ : MethodName) prog_88_method_7_code 7 (some .long) :: ws) ({ frames := 0, cells := 0, slots := 0, locals := 0 } : Room)) (fun a U => a = #[(.ref a1)] ∧ Z.Warmed39 U.vm ∧ U.heap = h0) (fun _ _ _ _ _ => True) (fun _ U o U' => ∃ v L, o = .returned v ∧ Q5_1 Z x0 h0 n0 v U'.heap L ∧ FrameEnd U o U' L ({ frames := 0, cells := 0, slots := 0, locals := 0 } : Room).cells ({ frames := 0, cells := 0, slots := 0, locals := 0 } : Room).slots) := by
  refine MetFree.of_bodySF (plainFor_of_name pn_com_example_ramification_ramification_model_StrahlerOrders) hisR ?_
  intro p e s m args below meth c s₁ Bd hml0 hP hK
  obtain ⟨rfl, hZ, hh⟩ := hP
  have hx := Bd.exec
  have hby := Bd.bytes
  have hlk := BodyLoose.notSynchronized Bd
  have hml : c.maxLocals = 7 := hml0
  have hown : s.vm.findClass "com/example/ramification/ramification/model/StrahlerOrders" = some m.cls := findClass_of_methodNamed Bd.named
  have hnm := (name_of_methodNamed Bd.named Bd.method).1
  have X0 : Stand p l e ({ frames := 0, cells := 0, slots := 0, locals := 0 } : Room) s m #[(.ref a1)] below meth c s₁ [] 0 0 := Stand.of_body Bd
  have e0 : s₁.heap = h0 := by rw [← hh, Bd.state]; rfl
  have N0 := Fr.nil n0
  refine OwnR.of (s := s) (Q := Q5_1 Z x0 h0 n0) (fun t k => castTop (ef_rm5_1 m a1) k) ?_
  show OwnR _ _ _ _ _ _ _ (s₁.setTop (mkF m 0 #[.val (.ref a1), .unset, .unset, .unset, .unset, .unset, .unset] []))
  refine OwnR.of (fun _ hr => XS.lconst X0.here hx rfl (hb hby d5_0) hr) ?_
  show OwnR _ _ _ _ _ _ _ (s₁.setTop (mkF m 1 #[.val (.ref a1), .unset, .unset, .unset, .unset, .unset, .unset] [(.long (0 : Int64))]))
  refine OwnR.of (fun _ hr => XS.lstoreN X0.here hx rfl (hb hby d5_1) rfl (l' := #[.val (.ref a1), .val (.long (0 : Int64)), .second, .unset, .unset, .unset, .unset]) rfl hr) ?_
  show OwnR _ _ _ _ _ _ _ (s₁.setTop (mkF m 2 #[.val (.ref a1), .val (.long (0 : Int64)), .second, .unset, .unset, .unset, .unset] []))
  refine OwnR.of (fun _ hr => XS.aloadN X0.here hx rfl (hb hby d5_2) rfl rfl hr) ?_
  show OwnR _ _ _ _ _ _ _ (s₁.setTop (mkF m 3 #[.val (.ref a1), .val (.long (0 : Int64)), .second, .unset, .unset, .unset, .unset] [(.ref a1)]))
  obtain ⟨T1, X1, e1, st1⟩ := getF X0 hx hZ hown (host := "") (Or.inl (hw _ (List.mem_of_getElem? (i := 29) rfl))) Via.refl e0 F_branches_a1 (g := (mkF m 3 #[.val (.ref a1), .val (.long (0 : Int64)), .second, .unset, .unset, .unset, .unset] [(.ref a1)])) rfl rfl (hb hby d5_3)
  refine OwnR.of (st1) ?_
  show OwnR _ _ _ _ _ _ _ (T1.setTop (mkF m 6 #[.val (.ref a1), .val (.long (0 : Int64)), .second, .unset, .unset, .unset, .unset] [(.ref a2)]))
  refine OwnR.of (fun _ hr => XS.astoreN X1.here hx rfl (hb hby d5_6) rfl rfl (l' := #[.val (.ref a1), .val (.long (0 : Int64)), .second, .val (.ref a2), .unset, .unset, .unset]) rfl hr) ?_
  show OwnR _ _ _ _ _ _ _ (T1.setTop (mkF m 7 #[.val (.ref a1), .val (.long (0 : Int64)), .second, .val (.ref a2), .unset, .unset, .unset] []))
  refine OwnR.of (fun _ hr => XS.aloadN X1.here hx rfl (hb hby d5_7) rfl rfl hr) ?_
  show OwnR _ _ _ _ _ _ _ (T1.setTop (mkF m 8 #[.val (.ref a1), .val (.long (0 : Int64)), .second, .val (.ref a2), .unset, .unset, .unset] [(.ref a2)]))
  obtain ⟨cl2, Ar2, -, S2, N2, -, -⟩ := id V_a2
  refine OwnR.of (X1.arraylength hx (by rw [e1]; exact Ar2.1) (State.isArrayOf_alike hZ.alike Ar2.2.1) (g := (mkF m 8 #[.val (.ref a1), .val (.long (0 : Int64)), .second, .val (.ref a2), .unset, .unset, .unset] [(.ref a2)])) rfl rfl (hb hby d5_8)) ?_
  show OwnR _ _ _ _ _ _ _ (T1.setTop (mkF m 9 #[.val (.ref a1), .val (.long (0 : Int64)), .second, .val (.ref a2), .unset, .unset, .unset] [(.int cl2.slots.size.toInt32)]))
  rw [len_of S2 N2]
  show OwnR _ _ _ _ _ _ _ (T1.setTop (mkF m 9 #[.val (.ref a1), .val (.long (0 : Int64)), .second, .val (.ref a2), .unset, .unset, .unset] [(.int (1 : Int32))]))
  refine OwnR.of (fun _ hr => XS.istore X1.here hx rfl (hb hby d5_9) rfl (l' := #[.val (.ref a1), .val (.long (0 : Int64)), .second, .val (.ref a2), .val (.int (1 : Int32)), .unset, .unset]) rfl hr) ?_
  show OwnR _ _ _ _ _ _ _ (T1.setTop (mkF m 11 #[.val (.ref a1), .val (.long (0 : Int64)), .second, .val (.ref a2), .val (.int (1 : Int32)), .unset, .unset] []))
  refine OwnR.of (fun _ hr => XS.iconst X1.here hx rfl (hb hby d5_11) hr) ?_
  show OwnR _ _ _ _ _ _ _ (T1.setTop (mkF m 12 #[.val (.ref a1), .val (.long (0 : Int64)), .second, .val (.ref a2), .val (.int (1 : Int32)), .unset, .unset] [(.int (0 : Int32))]))
  refine OwnR.of (fun _ hr => XS.istore X1.here hx rfl (hb hby d5_12) rfl (l' := #[.val (.ref a1), .val (.long (0 : Int64)), .second, .val (.ref a2), .val (.int (1 : Int32)), .val (.int (0 : Int32)), .unset]) rfl hr) ?_
  show OwnR _ _ _ _ _ _ _ (T1.setTop (mkF m 14 #[.val (.ref a1), .val (.long (0 : Int64)), .second, .val (.ref a2), .val (.int (1 : Int32)), .val (.int (0 : Int32)), .unset] []))
  refine OwnR.of (fun _ hr => XS.iload X1.here hx rfl (hb hby d5_14) rfl hr) ?_
  show OwnR _ _ _ _ _ _ _ (T1.setTop (mkF m 16 #[.val (.ref a1), .val (.long (0 : Int64)), .second, .val (.ref a2), .val (.int (1 : Int32)), .val (.int (0 : Int32)), .unset] [(.int (0 : Int32))]))
  refine OwnR.of (fun _ hr => XS.iload X1.here hx rfl (hb hby d5_16) rfl hr) ?_
  show OwnR _ _ _ _ _ _ _ (T1.setTop (mkF m 18 #[.val (.ref a1), .val (.long (0 : Int64)), .second, .val (.ref a2), .val (.int (1 : Int32)), .val (.int (0 : Int32)), .unset] [(.int (1 : Int32)), (.int (0 : Int32))]))
  refine OwnR.of (fun _ hr => XS.icmpNo X1.here hx rfl (hb hby d5_18) rfl (tlt (by decide : (0 : Int32) < (1 : Int32))).2.1 hr) ?_
  show OwnR _ _ _ _ _ _ _ (T1.setTop (mkF m 21 #[.val (.ref a1), .val (.long (0 : Int64)), .second, .val (.ref a2), .val (.int (1 : Int32)), .val (.int (0 : Int32)), .unset] []))
  refine OwnR.of (fun _ hr => XS.aloadN X1.here hx rfl (hb hby d5_21) rfl rfl hr) ?_
  show OwnR _ _ _ _ _ _ _ (T1.setTop (mkF m 22 #[.val (.ref a1), .val (.long (0 : Int64)), .second, .val (.ref a2), .val (.int (1 : Int32)), .val (.int (0 : Int32)), .unset] [(.ref a2)]))
  refine OwnR.of (fun _ hr => XS.iload X1.here hx rfl (hb hby d5_22) rfl hr) ?_
  show OwnR _ _ _ _ _ _ _ (T1.setTop (mkF m 24 #[.val (.ref a1), .val (.long (0 : Int64)), .second, .val (.ref a2), .val (.int (1 : Int32)), .val (.int (0 : Int32)), .unset] [(.int (0 : Int32)), (.ref a2)]))
  obtain ⟨cl3, Ar3, -, S3, N3, H3, G3⟩ := id V_a2
  have hin3 : ¬ ((0 : Int32) < 0 ∨ cl3.slots.size ≤ ((0 : Int32)).toNatClampNeg) := (inb_of S3 ⟨by decide, by decide⟩)
  refine OwnR.of (X1.iaload hx (j := (0 : Int32)) (v := (.int x0)) (by rw [e1]; exact Ar3.1) (State.isArrayOf_alike hZ.alike Ar3.2.1) Ar3.2.2 hin3 (Has.at H3 hin3 rfl) (g := (mkF m 24 #[.val (.ref a1), .val (.long (0 : Int64)), .second, .val (.ref a2), .val (.int (1 : Int32)), .val (.int (0 : Int32)), .unset] [(.int (0 : Int32)), (.ref a2)])) rfl rfl (hb hby d5_24)) ?_
  show OwnR _ _ _ _ _ _ _ (T1.setTop (mkF m 25 #[.val (.ref a1), .val (.long (0 : Int64)), .second, .val (.ref a2), .val (.int (1 : Int32)), .val (.int (0 : Int32)), .unset] [(.int x0)]))
  refine OwnR.of (fun _ hr => XS.istore X1.here hx rfl (hb hby d5_25) rfl (l' := #[.val (.ref a1), .val (.long (0 : Int64)), .second, .val (.ref a2), .val (.int (1 : Int32)), .val (.int (0 : Int32)), .val (.int x0)]) rfl hr) ?_
  show OwnR _ _ _ _ _ _ _ (T1.setTop (mkF m 27 #[.val (.ref a1), .val (.long (0 : Int64)), .second, .val (.ref a2), .val (.int (1 : Int32)), .val (.int (0 : Int32)), .val (.int x0)] []))
  refine OwnR.of (fun _ hr => XS.lloadN X1.here hx rfl (hb hby d5_27) rfl hr) ?_
  show OwnR _ _ _ _ _ _ _ (T1.setTop (mkF m 28 #[.val (.ref a1), .val (.long (0 : Int64)), .second, .val (.ref a2), .val (.int (1 : Int32)), .val (.int (0 : Int32)), .val (.int x0)] [(.long (0 : Int64))]))
  refine OwnR.of (fun _ hr => XS.iload X1.here hx rfl (hb hby d5_28) rfl hr) ?_
  show OwnR _ _ _ _ _ _ _ (T1.setTop (mkF m 30 #[.val (.ref a1), .val (.long (0 : Int64)), .second, .val (.ref a2), .val (.int (1 : Int32)), .val (.int (0 : Int32)), .val (.int x0)] [(.int x0), (.long (0 : Int64))]))
  refine OwnR.of (fun _ hr => XS.i2l X1.here hx rfl (hb hby d5_30) rfl hr) ?_
  show OwnR _ _ _ _ _ _ _ (T1.setTop (mkF m 31 #[.val (.ref a1), .val (.long (0 : Int64)), .second, .val (.ref a2), .val (.int (1 : Int32)), .val (.int (0 : Int32)), .val (.int x0)] [(.long (x0.toInt64)), (.long (0 : Int64))]))
  refine OwnR.of (fun _ hr => XS.ladd X1.here hx rfl (hb hby d5_31) rfl hr) ?_
  show OwnR _ _ _ _ _ _ _ (T1.setTop (mkF m 32 #[.val (.ref a1), .val (.long (0 : Int64)), .second, .val (.ref a2), .val (.int (1 : Int32)), .val (.int (0 : Int32)), .val (.int x0)] [(.long ((0 : Int64) + (x0.toInt64)))]))
  refine OwnR.of (fun _ hr => XS.lstoreN X1.here hx rfl (hb hby d5_32) rfl (l' := #[.val (.ref a1), .val (.long ((0 : Int64) + (x0.toInt64))), .second, .val (.ref a2), .val (.int (1 : Int32)), .val (.int (0 : Int32)), .val (.int x0)]) rfl hr) ?_
  show OwnR _ _ _ _ _ _ _ (T1.setTop (mkF m 33 #[.val (.ref a1), .val (.long ((0 : Int64) + (x0.toInt64))), .second, .val (.ref a2), .val (.int (1 : Int32)), .val (.int (0 : Int32)), .val (.int x0)] []))
  refine OwnR.of (fun _ hr => XS.iinc X1.here hx rfl (hb hby d5_33) rfl (l' := #[.val (.ref a1), .val (.long ((0 : Int64) + (x0.toInt64))), .second, .val (.ref a2), .val (.int (1 : Int32)), .val (.int ((0 : Int32) + (1 : Int32))), .val (.int x0)]) rfl hr) ?_
  show OwnR _ _ _ _ _ _ _ (T1.setTop (mkF m 36 #[.val (.ref a1), .val (.long ((0 : Int64) + (x0.toInt64))), .second, .val (.ref a2), .val (.int (1 : Int32)), .val (.int ((0 : Int32) + (1 : Int32))), .val (.int x0)] []))
  rw [(by decide : ((0 : Int32) + (1 : Int32)) = (1 : Int32))]
  show OwnR _ _ _ _ _ _ _ (T1.setTop (mkF m 36 #[.val (.ref a1), .val (.long ((0 : Int64) + (x0.toInt64))), .second, .val (.ref a2), .val (.int (1 : Int32)), .val (.int (1 : Int32)), .val (.int x0)] []))
  refine OwnR.of (fun _ hr => XS.goto X1.here hx rfl (pc0 := 36) (pc' := 14) rfl (hb hby d5_36) (by decide) (by decide) hr) ?_
  show OwnR _ _ _ _ _ _ _ (T1.setTop (mkF m 14 #[.val (.ref a1), .val (.long ((0 : Int64) + (x0.toInt64))), .second, .val (.ref a2), .val (.int (1 : Int32)), .val (.int (1 : Int32)), .val (.int x0)] []))
  refine OwnR.of (fun _ hr => XS.iload X1.here hx rfl (hb hby d5_14) rfl hr) ?_
  show OwnR _ _ _ _ _ _ _ (T1.setTop (mkF m 16 #[.val (.ref a1), .val (.long ((0 : Int64) + (x0.toInt64))), .second, .val (.ref a2), .val (.int (1 : Int32)), .val (.int (1 : Int32)), .val (.int x0)] [(.int (1 : Int32))]))
  refine OwnR.of (fun _ hr => XS.iload X1.here hx rfl (hb hby d5_16) rfl hr) ?_
  show OwnR _ _ _ _ _ _ _ (T1.setTop (mkF m 18 #[.val (.ref a1), .val (.long ((0 : Int64) + (x0.toInt64))), .second, .val (.ref a2), .val (.int (1 : Int32)), .val (.int (1 : Int32)), .val (.int x0)] [(.int (1 : Int32)), (.int (1 : Int32))]))
  refine OwnR.of (fun _ hr => XS.icmpYes X1.here hx rfl (pc0 := 18) (pc' := 39) rfl (hb hby d5_18) rfl (flt (by decide : ¬ ((1 : Int32) < (1 : Int32)))).2.1 (by decide) (by decide) hr) ?_
  show OwnR _ _ _ _ _ _ _ (T1.setTop (mkF m 39 #[.val (.ref a1), .val (.long ((0 : Int64) + (x0.toInt64))), .second, .val (.ref a2), .val (.int (1 : Int32)), .val (.int (1 : Int32)), .val (.int x0)] []))
  refine OwnR.of (fun _ hr => XS.lloadN X1.here hx rfl (hb hby d5_39) rfl hr) ?_
  show OwnR _ _ _ _ _ _ _ (T1.setTop (mkF m 40 #[.val (.ref a1), .val (.long ((0 : Int64) + (x0.toInt64))), .second, .val (.ref a2), .val (.int (1 : Int32)), .val (.int (1 : Int32)), .val (.int x0)] [(.long ((0 : Int64) + (x0.toInt64)))]))
  refine own_leafJ X1 hx hlk Bd.returns (hb hby d5_40) (by decide) (by decide) ?_
  show Q5_1 Z x0 h0 n0 _ T1.heap _
  rw [show T1.heap = h0 from e1]
  refine ⟨?_, N0, rfl⟩
  show (some (.long ((0 : Int64) + (x0.toInt64))) : Option Value) = some (.long ((0 : Int64) + (x0.toInt64)))
  rfl
theorem ef_rm3_2 (m : MethodId) (x0 : Addr) (x1 : Addr) (x2 : Addr) : entryFrame m #[(.ref x0), (.ref x1), (.ref x2), .null] 5 = mkF m 0 #[.val (.ref x0), .val (.ref x1), .val (.ref x2), .val .null, .unset] [] := by first | (simp [entryFrame, mkF, argsToLocals, Value.category]; done) | rfl
def Q3_2 (Z : State) (a1 : Addr) (k2 : ClassId) (x0 : Int32) (x1 : Int32) (h0 : Heap) (n0 : Nat) (v : Option Value) (h : Heap) (L : List Loc) : Prop := ∃ (bI : Addr), v = none ∧ Fr n0 L ∧ Keep h0 h [a1] ∧ Exa Z h a1 "com/example/ramification/ramification/model/StrahlerOrders" ∧ Fld Z h a1 "com/example/ramification/ramification/model/StrahlerOrders" "branches" "[I" (.ref bI) ∧ Arv Z h bI k2 .int (2 : Int32) [(.int x0), (.int x1)] (.int (0 : Int32))
set_option maxRecDepth 65536 in
set_option maxHeartbeats 40000000 in
theorem rm3_2 (l : Launch) (Z : State) (a0 : Array Value) (hw : ∀ d ∈ tables_1, d.before a0 Z = true) (ws : List Jvm.Cond) (a1 : Addr) (a2 : Addr) (a3 : Addr) (k2 k3 : ClassId) (x0 x1 : Int32) (h0 : Heap) (n0 : Nat) (Z0 : n0 ≤ h0.size) (E_a1 : Exa Z h0 a1 "com/example/ramification/ramification/model/StrahlerOrders") (F_branches_a1 : Fld Z h0 a1 "com/example/ramification/ramification/model/StrahlerOrders" "branches" "[I" .null) (F_lengths_a1 : Fld Z h0 a1 "com/example/ramification/ramification/model/StrahlerOrders" "lengths" "[D" .null) (F_unit_a1 : Fld Z h0 a1 "com/example/ramification/ramification/model/StrahlerOrders" "unit" "Ljava/util/Optional;" .null) (V_a2 : Arv Z h0 a2 k2 .int (2 : Int32) [(.int x0), (.int x1)] (.int (0 : Int32))) (V_a3 : Arv Z h0 a3 k3 .double (2 : Int32) [(defaultValue .double), (defaultValue .double)] (defaultValue .double)) (E_a2 : Exa Z h0 a2 "[I") (E_a3 : Exa Z h0 a3 "[D") (g_a1 : n0 ≤ a1) (ne_12 : a1 ≠ a2) (ne_13 : a1 ≠ a3) (hx0 : ¬ (x0 < (1 : Int32))) (hx1 : ¬ (x1 < (1 : Int32))) :
    MetFree l (⟨"com/example/ramification/ramification/model/StrahlerOrders", "<init>", "([I[DLjava/util/Optional;)V"⟩ : MethodName) (head1 (Jvm.Cond.code (⟨"com/example/ramification/ramification/model/StrahlerOrders", "<init>", "([I[DLjava/util/Optional;)V"⟩ : MethodName) prog_88_method_1_code 5 none :: ws) ({ frames := 1, cells := 2, slots := 4, locals := 18 } : Room)) (fun a U => a = #[(.ref a1), (.ref a2), (.ref a3), .null] ∧ Z.Warmed39 U.vm ∧ U.heap = h0) (fun _ _ _ _ _ => True) (fun _ U o U' => ∃ v L, o = .returned v ∧ Q3_2 Z a1 k2 x0 x1 h0 n0 v U'.heap L ∧ FrameEnd U o U' L ({ frames := 1, cells := 2, slots := 4, locals := 18 } : Room).cells ({ frames := 1, cells := 2, slots := 4, locals := 18 } : Room).slots) := by
  refine MetFree.of_bodySF (plainFor_of_name pn_com_example_ramification_ramification_model_StrahlerOrders) hisR ?_
  intro p e s m args below meth c s₁ Bd hml0 hP hK
  obtain ⟨rfl, hZ, hh⟩ := hP
  have hx := Bd.exec
  have hby := Bd.bytes
  have hlk := BodyLoose.notSynchronized Bd
  have hml : c.maxLocals = 5 := hml0
  have hown : s.vm.findClass "com/example/ramification/ramification/model/StrahlerOrders" = some m.cls := findClass_of_methodNamed Bd.named
  have hnm := (name_of_methodNamed Bd.named Bd.method).1
  have X0 : Stand p l e ({ frames := 1, cells := 2, slots := 4, locals := 18 } : Room) s m #[(.ref a1), (.ref a2), (.ref a3), .null] below meth c s₁ [] 0 0 := Stand.of_body Bd
  have e0 : s₁.heap = h0 := by rw [← hh, Bd.state]; rfl
  have N0 := Fr.nil n0
  refine OwnR.of (s := s) (Q := Q3_2 Z a1 k2 x0 x1 h0 n0) (fun t k => castTop (ef_rm3_2 m a1 a2 a3) k) ?_
  show OwnR _ _ _ _ _ _ _ (s₁.setTop (mkF m 0 #[.val (.ref a1), .val (.ref a2), .val (.ref a3), .val .null, .unset] []))
  refine OwnR.of (fun _ hr => XS.aloadN X0.here hx rfl (hb hby d3_0) rfl rfl hr) ?_
  show OwnR _ _ _ _ _ _ _ (s₁.setTop (mkF m 1 #[.val (.ref a1), .val (.ref a2), .val (.ref a3), .val .null, .unset] [(.ref a1)]))
  obtain ⟨T1, X1, e1, st1⟩ := initO X0 hx hZ hown (hw _ (List.mem_of_getElem? (i := 17) rfl)) (hw _ (List.mem_of_getElem? (i := 18) rfl)) (hw _ (List.mem_of_getElem? (i := 19) rfl)) e0 (g := (mkF m 1 #[.val (.ref a1), .val (.ref a2), .val (.ref a3), .val .null, .unset] [(.ref a1)])) rfl (by rw [hml]; rfl) rfl (hb hby d3_1) (by decide) (W := 0) (by show 2 * 0 + _ ≤ _; exact Nat.le_of_eq rfl) (by decide)
  refine OwnR.of (st1) ?_
  show OwnR _ _ _ _ _ _ _ (T1.setTop (mkF m 4 #[.val (.ref a1), .val (.ref a2), .val (.ref a3), .val .null, .unset] []))
  refine OwnR.of (fun _ hr => XS.aloadN X1.here hx rfl (hb hby d3_4) rfl rfl hr) ?_
  show OwnR _ _ _ _ _ _ _ (T1.setTop (mkF m 5 #[.val (.ref a1), .val (.ref a2), .val (.ref a3), .val .null, .unset] [(.ref a2)]))
  obtain ⟨cl2, Ar2, -, S2, N2, -, -⟩ := id V_a2
  refine OwnR.of (X1.arraylength hx (by rw [e1]; exact Ar2.1) (State.isArrayOf_alike hZ.alike Ar2.2.1) (g := (mkF m 5 #[.val (.ref a1), .val (.ref a2), .val (.ref a3), .val .null, .unset] [(.ref a2)])) rfl rfl (hb hby d3_5)) ?_
  show OwnR _ _ _ _ _ _ _ (T1.setTop (mkF m 6 #[.val (.ref a1), .val (.ref a2), .val (.ref a3), .val .null, .unset] [(.int cl2.slots.size.toInt32)]))
  rw [len_of S2 N2]
  show OwnR _ _ _ _ _ _ _ (T1.setTop (mkF m 6 #[.val (.ref a1), .val (.ref a2), .val (.ref a3), .val .null, .unset] [(.int (2 : Int32))]))
  refine OwnR.of (fun _ hr => XS.aloadN X1.here hx rfl (hb hby d3_6) rfl rfl hr) ?_
  show OwnR _ _ _ _ _ _ _ (T1.setTop (mkF m 7 #[.val (.ref a1), .val (.ref a2), .val (.ref a3), .val .null, .unset] [(.ref a3), (.int (2 : Int32))]))
  obtain ⟨cl3, Ar3, -, S3, N3, -, -⟩ := id V_a3
  refine OwnR.of (X1.arraylength hx (by rw [e1]; exact Ar3.1) (State.isArrayOf_alike hZ.alike Ar3.2.1) (g := (mkF m 7 #[.val (.ref a1), .val (.ref a2), .val (.ref a3), .val .null, .unset] [(.ref a3), (.int (2 : Int32))])) rfl rfl (hb hby d3_7)) ?_
  show OwnR _ _ _ _ _ _ _ (T1.setTop (mkF m 8 #[.val (.ref a1), .val (.ref a2), .val (.ref a3), .val .null, .unset] [(.int cl3.slots.size.toInt32), (.int (2 : Int32))]))
  rw [len_of S3 N3]
  show OwnR _ _ _ _ _ _ _ (T1.setTop (mkF m 8 #[.val (.ref a1), .val (.ref a2), .val (.ref a3), .val .null, .unset] [(.int (2 : Int32)), (.int (2 : Int32))]))
  refine OwnR.of (fun _ hr => XS.icmpYes X1.here hx rfl (pc0 := 8) (pc' := 28) rfl (hb hby d3_8) rfl (teq (by decide : (2 : Int32) = (2 : Int32))).1 (by decide) (by decide) hr) ?_
  show OwnR _ _ _ _ _ _ _ (T1.setTop (mkF m 28 #[.val (.ref a1), .val (.ref a2), .val (.ref a3), .val .null, .unset] []))
  refine OwnR.of (fun _ hr => XS.iconst X1.here hx rfl (hb hby d3_28) hr) ?_
  show OwnR _ _ _ _ _ _ _ (T1.setTop (mkF m 29 #[.val (.ref a1), .val (.ref a2), .val (.ref a3), .val .null, .unset] [(.int (0 : Int32))]))
  refine OwnR.of (fun _ hr => XS.istore X1.here hx rfl (hb hby d3_29) rfl (l' := #[.val (.ref a1), .val (.ref a2), .val (.ref a3), .val .null, .val (.int (0 : Int32))]) rfl hr) ?_
  show OwnR _ _ _ _ _ _ _ (T1.setTop (mkF m 31 #[.val (.ref a1), .val (.ref a2), .val (.ref a3), .val .null, .val (.int (0 : Int32))] []))
  refine OwnR.of (fun _ hr => XS.iload X1.here hx rfl (hb hby d3_31) rfl hr) ?_
  show OwnR _ _ _ _ _ _ _ (T1.setTop (mkF m 33 #[.val (.ref a1), .val (.ref a2), .val (.ref a3), .val .null, .val (.int (0 : Int32))] [(.int (0 : Int32))]))
  refine OwnR.of (fun _ hr => XS.aloadN X1.here hx rfl (hb hby d3_33) rfl rfl hr) ?_
  show OwnR _ _ _ _ _ _ _ (T1.setTop (mkF m 34 #[.val (.ref a1), .val (.ref a2), .val (.ref a3), .val .null, .val (.int (0 : Int32))] [(.ref a2), (.int (0 : Int32))]))
  obtain ⟨cl4, Ar4, -, S4, N4, -, -⟩ := id V_a2
  refine OwnR.of (X1.arraylength hx (by rw [e1]; exact Ar4.1) (State.isArrayOf_alike hZ.alike Ar4.2.1) (g := (mkF m 34 #[.val (.ref a1), .val (.ref a2), .val (.ref a3), .val .null, .val (.int (0 : Int32))] [(.ref a2), (.int (0 : Int32))])) rfl rfl (hb hby d3_34)) ?_
  show OwnR _ _ _ _ _ _ _ (T1.setTop (mkF m 35 #[.val (.ref a1), .val (.ref a2), .val (.ref a3), .val .null, .val (.int (0 : Int32))] [(.int cl4.slots.size.toInt32), (.int (0 : Int32))]))
  rw [len_of S4 N4]
  show OwnR _ _ _ _ _ _ _ (T1.setTop (mkF m 35 #[.val (.ref a1), .val (.ref a2), .val (.ref a3), .val .null, .val (.int (0 : Int32))] [(.int (2 : Int32)), (.int (0 : Int32))]))
  refine OwnR.of (fun _ hr => XS.icmpNo X1.here hx rfl (hb hby d3_35) rfl (tlt (by decide : (0 : Int32) < (2 : Int32))).2.1 hr) ?_
  show OwnR _ _ _ _ _ _ _ (T1.setTop (mkF m 38 #[.val (.ref a1), .val (.ref a2), .val (.ref a3), .val .null, .val (.int (0 : Int32))] []))
  refine OwnR.of (fun _ hr => XS.aloadN X1.here hx rfl (hb hby d3_38) rfl rfl hr) ?_
  show OwnR _ _ _ _ _ _ _ (T1.setTop (mkF m 39 #[.val (.ref a1), .val (.ref a2), .val (.ref a3), .val .null, .val (.int (0 : Int32))] [(.ref a2)]))
  refine OwnR.of (fun _ hr => XS.iload X1.here hx rfl (hb hby d3_39) rfl hr) ?_
  show OwnR _ _ _ _ _ _ _ (T1.setTop (mkF m 41 #[.val (.ref a1), .val (.ref a2), .val (.ref a3), .val .null, .val (.int (0 : Int32))] [(.int (0 : Int32)), (.ref a2)]))
  obtain ⟨cl5, Ar5, -, S5, N5, H5, G5⟩ := id V_a2
  have hin5 : ¬ ((0 : Int32) < 0 ∨ cl5.slots.size ≤ ((0 : Int32)).toNatClampNeg) := (inb_of S5 ⟨by decide, by decide⟩)
  refine OwnR.of (X1.iaload hx (j := (0 : Int32)) (v := (.int x0)) (by rw [e1]; exact Ar5.1) (State.isArrayOf_alike hZ.alike Ar5.2.1) Ar5.2.2 hin5 (Has.at H5 hin5 rfl) (g := (mkF m 41 #[.val (.ref a1), .val (.ref a2), .val (.ref a3), .val .null, .val (.int (0 : Int32))] [(.int (0 : Int32)), (.ref a2)])) rfl rfl (hb hby d3_41)) ?_
  show OwnR _ _ _ _ _ _ _ (T1.setTop (mkF m 42 #[.val (.ref a1), .val (.ref a2), .val (.ref a3), .val .null, .val (.int (0 : Int32))] [(.int x0)]))
  refine OwnR.of (fun _ hr => XS.iconst X1.here hx rfl (hb hby d3_42) hr) ?_
  show OwnR _ _ _ _ _ _ _ (T1.setTop (mkF m 43 #[.val (.ref a1), .val (.ref a2), .val (.ref a3), .val .null, .val (.int (0 : Int32))] [(.int (1 : Int32)), (.int x0)]))
  refine OwnR.of (fun _ hr => XS.icmpYes X1.here hx rfl (pc0 := 43) (pc' := 67) rfl (hb hby d3_43) rfl (flt hx0).2.1 (by decide) (by decide) hr) ?_
  show OwnR _ _ _ _ _ _ _ (T1.setTop (mkF m 67 #[.val (.ref a1), .val (.ref a2), .val (.ref a3), .val .null, .val (.int (0 : Int32))] []))
  refine OwnR.of (fun _ hr => XS.iinc X1.here hx rfl (hb hby d3_67) rfl (l' := #[.val (.ref a1), .val (.ref a2), .val (.ref a3), .val .null, .val (.int ((0 : Int32) + (1 : Int32)))]) rfl hr) ?_
  show OwnR _ _ _ _ _ _ _ (T1.setTop (mkF m 70 #[.val (.ref a1), .val (.ref a2), .val (.ref a3), .val .null, .val (.int ((0 : Int32) + (1 : Int32)))] []))
  rw [(by decide : ((0 : Int32) + (1 : Int32)) = (1 : Int32))]
  show OwnR _ _ _ _ _ _ _ (T1.setTop (mkF m 70 #[.val (.ref a1), .val (.ref a2), .val (.ref a3), .val .null, .val (.int (1 : Int32))] []))
  refine OwnR.of (fun _ hr => XS.goto X1.here hx rfl (pc0 := 70) (pc' := 31) rfl (hb hby d3_70) (by decide) (by decide) hr) ?_
  show OwnR _ _ _ _ _ _ _ (T1.setTop (mkF m 31 #[.val (.ref a1), .val (.ref a2), .val (.ref a3), .val .null, .val (.int (1 : Int32))] []))
  refine OwnR.of (fun _ hr => XS.iload X1.here hx rfl (hb hby d3_31) rfl hr) ?_
  show OwnR _ _ _ _ _ _ _ (T1.setTop (mkF m 33 #[.val (.ref a1), .val (.ref a2), .val (.ref a3), .val .null, .val (.int (1 : Int32))] [(.int (1 : Int32))]))
  refine OwnR.of (fun _ hr => XS.aloadN X1.here hx rfl (hb hby d3_33) rfl rfl hr) ?_
  show OwnR _ _ _ _ _ _ _ (T1.setTop (mkF m 34 #[.val (.ref a1), .val (.ref a2), .val (.ref a3), .val .null, .val (.int (1 : Int32))] [(.ref a2), (.int (1 : Int32))]))
  obtain ⟨cl6, Ar6, -, S6, N6, -, -⟩ := id V_a2
  refine OwnR.of (X1.arraylength hx (by rw [e1]; exact Ar6.1) (State.isArrayOf_alike hZ.alike Ar6.2.1) (g := (mkF m 34 #[.val (.ref a1), .val (.ref a2), .val (.ref a3), .val .null, .val (.int (1 : Int32))] [(.ref a2), (.int (1 : Int32))])) rfl rfl (hb hby d3_34)) ?_
  show OwnR _ _ _ _ _ _ _ (T1.setTop (mkF m 35 #[.val (.ref a1), .val (.ref a2), .val (.ref a3), .val .null, .val (.int (1 : Int32))] [(.int cl6.slots.size.toInt32), (.int (1 : Int32))]))
  rw [len_of S6 N6]
  show OwnR _ _ _ _ _ _ _ (T1.setTop (mkF m 35 #[.val (.ref a1), .val (.ref a2), .val (.ref a3), .val .null, .val (.int (1 : Int32))] [(.int (2 : Int32)), (.int (1 : Int32))]))
  refine OwnR.of (fun _ hr => XS.icmpNo X1.here hx rfl (hb hby d3_35) rfl (tlt (by decide : (1 : Int32) < (2 : Int32))).2.1 hr) ?_
  show OwnR _ _ _ _ _ _ _ (T1.setTop (mkF m 38 #[.val (.ref a1), .val (.ref a2), .val (.ref a3), .val .null, .val (.int (1 : Int32))] []))
  refine OwnR.of (fun _ hr => XS.aloadN X1.here hx rfl (hb hby d3_38) rfl rfl hr) ?_
  show OwnR _ _ _ _ _ _ _ (T1.setTop (mkF m 39 #[.val (.ref a1), .val (.ref a2), .val (.ref a3), .val .null, .val (.int (1 : Int32))] [(.ref a2)]))
  refine OwnR.of (fun _ hr => XS.iload X1.here hx rfl (hb hby d3_39) rfl hr) ?_
  show OwnR _ _ _ _ _ _ _ (T1.setTop (mkF m 41 #[.val (.ref a1), .val (.ref a2), .val (.ref a3), .val .null, .val (.int (1 : Int32))] [(.int (1 : Int32)), (.ref a2)]))
  obtain ⟨cl7, Ar7, -, S7, N7, H7, G7⟩ := id V_a2
  have hin7 : ¬ ((1 : Int32) < 0 ∨ cl7.slots.size ≤ ((1 : Int32)).toNatClampNeg) := (inb_of S7 ⟨by decide, by decide⟩)
  refine OwnR.of (X1.iaload hx (j := (1 : Int32)) (v := (.int x1)) (by rw [e1]; exact Ar7.1) (State.isArrayOf_alike hZ.alike Ar7.2.1) Ar7.2.2 hin7 (Has.at H7 hin7 rfl) (g := (mkF m 41 #[.val (.ref a1), .val (.ref a2), .val (.ref a3), .val .null, .val (.int (1 : Int32))] [(.int (1 : Int32)), (.ref a2)])) rfl rfl (hb hby d3_41)) ?_
  show OwnR _ _ _ _ _ _ _ (T1.setTop (mkF m 42 #[.val (.ref a1), .val (.ref a2), .val (.ref a3), .val .null, .val (.int (1 : Int32))] [(.int x1)]))
  refine OwnR.of (fun _ hr => XS.iconst X1.here hx rfl (hb hby d3_42) hr) ?_
  show OwnR _ _ _ _ _ _ _ (T1.setTop (mkF m 43 #[.val (.ref a1), .val (.ref a2), .val (.ref a3), .val .null, .val (.int (1 : Int32))] [(.int (1 : Int32)), (.int x1)]))
  refine OwnR.of (fun _ hr => XS.icmpYes X1.here hx rfl (pc0 := 43) (pc' := 67) rfl (hb hby d3_43) rfl (flt hx1).2.1 (by decide) (by decide) hr) ?_
  show OwnR _ _ _ _ _ _ _ (T1.setTop (mkF m 67 #[.val (.ref a1), .val (.ref a2), .val (.ref a3), .val .null, .val (.int (1 : Int32))] []))
  refine OwnR.of (fun _ hr => XS.iinc X1.here hx rfl (hb hby d3_67) rfl (l' := #[.val (.ref a1), .val (.ref a2), .val (.ref a3), .val .null, .val (.int ((1 : Int32) + (1 : Int32)))]) rfl hr) ?_
  show OwnR _ _ _ _ _ _ _ (T1.setTop (mkF m 70 #[.val (.ref a1), .val (.ref a2), .val (.ref a3), .val .null, .val (.int ((1 : Int32) + (1 : Int32)))] []))
  rw [(by decide : ((1 : Int32) + (1 : Int32)) = (2 : Int32))]
  show OwnR _ _ _ _ _ _ _ (T1.setTop (mkF m 70 #[.val (.ref a1), .val (.ref a2), .val (.ref a3), .val .null, .val (.int (2 : Int32))] []))
  refine OwnR.of (fun _ hr => XS.goto X1.here hx rfl (pc0 := 70) (pc' := 31) rfl (hb hby d3_70) (by decide) (by decide) hr) ?_
  show OwnR _ _ _ _ _ _ _ (T1.setTop (mkF m 31 #[.val (.ref a1), .val (.ref a2), .val (.ref a3), .val .null, .val (.int (2 : Int32))] []))
  refine OwnR.of (fun _ hr => XS.iload X1.here hx rfl (hb hby d3_31) rfl hr) ?_
  show OwnR _ _ _ _ _ _ _ (T1.setTop (mkF m 33 #[.val (.ref a1), .val (.ref a2), .val (.ref a3), .val .null, .val (.int (2 : Int32))] [(.int (2 : Int32))]))
  refine OwnR.of (fun _ hr => XS.aloadN X1.here hx rfl (hb hby d3_33) rfl rfl hr) ?_
  show OwnR _ _ _ _ _ _ _ (T1.setTop (mkF m 34 #[.val (.ref a1), .val (.ref a2), .val (.ref a3), .val .null, .val (.int (2 : Int32))] [(.ref a2), (.int (2 : Int32))]))
  obtain ⟨cl8, Ar8, -, S8, N8, -, -⟩ := id V_a2
  refine OwnR.of (X1.arraylength hx (by rw [e1]; exact Ar8.1) (State.isArrayOf_alike hZ.alike Ar8.2.1) (g := (mkF m 34 #[.val (.ref a1), .val (.ref a2), .val (.ref a3), .val .null, .val (.int (2 : Int32))] [(.ref a2), (.int (2 : Int32))])) rfl rfl (hb hby d3_34)) ?_
  show OwnR _ _ _ _ _ _ _ (T1.setTop (mkF m 35 #[.val (.ref a1), .val (.ref a2), .val (.ref a3), .val .null, .val (.int (2 : Int32))] [(.int cl8.slots.size.toInt32), (.int (2 : Int32))]))
  rw [len_of S8 N8]
  show OwnR _ _ _ _ _ _ _ (T1.setTop (mkF m 35 #[.val (.ref a1), .val (.ref a2), .val (.ref a3), .val .null, .val (.int (2 : Int32))] [(.int (2 : Int32)), (.int (2 : Int32))]))
  refine OwnR.of (fun _ hr => XS.icmpYes X1.here hx rfl (pc0 := 35) (pc' := 73) rfl (hb hby d3_35) rfl (flt (by decide : ¬ ((2 : Int32) < (2 : Int32)))).2.1 (by decide) (by decide) hr) ?_
  show OwnR _ _ _ _ _ _ _ (T1.setTop (mkF m 73 #[.val (.ref a1), .val (.ref a2), .val (.ref a3), .val .null, .val (.int (2 : Int32))] []))
  refine OwnR.of (fun _ hr => XS.aloadN X1.here hx rfl (hb hby d3_73) rfl rfl hr) ?_
  show OwnR _ _ _ _ _ _ _ (T1.setTop (mkF m 74 #[.val (.ref a1), .val (.ref a2), .val (.ref a3), .val .null, .val (.int (2 : Int32))] [(.ref a1)]))
  refine OwnR.of (fun _ hr => XS.aloadN X1.here hx rfl (hb hby d3_74) rfl rfl hr) ?_
  show OwnR _ _ _ _ _ _ _ (T1.setTop (mkF m 75 #[.val (.ref a1), .val (.ref a2), .val (.ref a3), .val .null, .val (.int (2 : Int32))] [(.ref a2), (.ref a1)]))
  obtain ⟨T9, h9, X9, e9, E9, V9, AE9, st9⟩ := cloneH X1 hx hZ hown (hw _ (List.mem_of_getElem? (i := 20) rfl)) (hw _ (List.mem_of_getElem? (i := 21) rfl)) (hw _ (List.mem_of_getElem? (i := 25) rfl)) (hw _ (List.mem_of_getElem? (i := 23) rfl)) (hw _ (List.mem_of_getElem? (i := 24) rfl)) (hw _ (List.mem_of_getElem? (i := 26) rfl)) e1 (Arv.arh V_a2) E_a2 (g := (mkF m 75 #[.val (.ref a1), .val (.ref a2), .val (.ref a3), .val .null, .val (.int (2 : Int32))] [(.ref a2), (.ref a1)])) rfl (by rw [hml]; rfl) rfl (hb hby d3_75) (by decide) (W := 1) (by show 2 * 0 + _ ≤ _; exact Nat.le_of_eq rfl) (by decide) (cap := 2) (by decide) (by decide) (by decide)
  obtain ⟨b9, g9⟩ : ∃ z, z = h0.size := ⟨_, rfl⟩
  rw [← g9] at V9 AE9 st9
  refine OwnR.of (st9) ?_
  have gn_b9 : n0 ≤ b9 := Nat.le_trans (Nat.le_trans Z0 (Keep.refl h0 [a1]).1) (Nat.le_of_eq g9.symm)
  have sz_b9 : h0.size ≤ b9 := Nat.le_trans (Keep.refl h0 [a1]).1 (Nat.le_of_eq g9.symm)
  have K9 : Keep h0 h9 [a1] := Keep.ext (Keep.refl h0 [a1]) E9
  have V9 : Arv Z h9 b9 k2 .int (2 : Int32) [(.int x0), (.int x1)] (.int (0 : Int32)) := V9
  show OwnR _ _ _ _ _ _ _ (T9.setTop (mkF m 78 #[.val (.ref a1), .val (.ref a2), .val (.ref a3), .val .null, .val (.int (2 : Int32))] [(.ref b9), (.ref a1)]))
  obtain ⟨T10, X10, e10, st10⟩ := castY X9 hx hZ hown (hw _ (List.mem_of_getElem? (i := 27) rfl)) e9 (Ins.self AE9) (g := (mkF m 78 #[.val (.ref a1), .val (.ref a2), .val (.ref a3), .val .null, .val (.int (2 : Int32))] [(.ref b9), (.ref a1)])) rfl rfl (hb hby d3_78)
  refine OwnR.of (st10) ?_
  show OwnR _ _ _ _ _ _ _ (T10.setTop (mkF m 81 #[.val (.ref a1), .val (.ref a2), .val (.ref a3), .val .null, .val (.int (2 : Int32))] [(.ref b9), (.ref a1)]))
  obtain ⟨T11, h11, X11, e11, W11, st11⟩ := putF X10 hx hZ hown (host := "") (Or.inl (hw _ (List.mem_of_getElem? (i := 29) rfl))) Via.refl e10 (Fld.ext E9 F_branches_a1) (Exa.keep E_a1 K9) (Or.inr ⟨(hw _ (List.mem_of_getElem? (i := 30) rfl)), rfl, hnm⟩) (hw _ (List.mem_of_getElem? (i := 12) rfl)) (ty := (.array .int)) (by decide) rfl rfl (g := (mkF m 81 #[.val (.ref a1), .val (.ref a2), .val (.ref a3), .val .null, .val (.int (2 : Int32))] [(.ref b9), (.ref a1)])) rfl rfl (hb hby d3_81)
  refine OwnR.of (st11) ?_
  have F11 := Fld.same W11 (Fld.ext E9 F_branches_a1)
  have K11 : Keep h0 h11 [a1] := Keep.wr K9 W11 (Or.inl (List.mem_of_getElem? (i := 0) rfl))
  have N11 := Fr.snoc X11 N0 g_a1
  show OwnR _ _ _ _ _ _ _ (T11.setTop (mkF m 84 #[.val (.ref a1), .val (.ref a2), .val (.ref a3), .val .null, .val (.int (2 : Int32))] []))
  refine OwnR.of (fun _ hr => XS.aloadN X11.here hx rfl (hb hby d3_84) rfl rfl hr) ?_
  show OwnR _ _ _ _ _ _ _ (T11.setTop (mkF m 85 #[.val (.ref a1), .val (.ref a2), .val (.ref a3), .val .null, .val (.int (2 : Int32))] [(.ref a1)]))
  refine OwnR.of (fun _ hr => XS.aloadN X11.here hx rfl (hb hby d3_85) rfl rfl hr) ?_
  show OwnR _ _ _ _ _ _ _ (T11.setTop (mkF m 86 #[.val (.ref a1), .val (.ref a2), .val (.ref a3), .val .null, .val (.int (2 : Int32))] [(.ref a3), (.ref a1)]))
  obtain ⟨T12, h12, X12, e12, E12, V12, AE12, st12⟩ := cloneH X11 hx hZ hown (hw _ (List.mem_of_getElem? (i := 31) rfl)) (hw _ (List.mem_of_getElem? (i := 32) rfl)) (hw _ (List.mem_of_getElem? (i := 25) rfl)) (hw _ (List.mem_of_getElem? (i := 23) rfl)) (hw _ (List.mem_of_getElem? (i := 33) rfl)) (hw _ (List.mem_of_getElem? (i := 34) rfl)) e11 (Arv.arh (Arv.keep V_a3 K11 (ninS (Ne.symm ne_13) nin0))) (Exa.keep E_a3 K11) (g := (mkF m 86 #[.val (.ref a1), .val (.ref a2), .val (.ref a3), .val .null, .val (.int (2 : Int32))] [(.ref a3), (.ref a1)])) rfl (by rw [hml]; rfl) rfl (hb hby d3_86) (by decide) (W := 1) (by show 2 * 0 + _ ≤ _; exact Nat.le_of_eq rfl) (by decide) (cap := 2) (by decide) (by decide) (by decide)
  obtain ⟨b12, g12⟩ : ∃ z, z = h11.size := ⟨_, rfl⟩
  rw [← g12] at V12 AE12 st12
  refine OwnR.of (st12) ?_
  have gn_b12 : n0 ≤ b12 := Nat.le_trans (Nat.le_trans Z0 K11.1) (Nat.le_of_eq g12.symm)
  have sz_b12 : h0.size ≤ b12 := Nat.le_trans K11.1 (Nat.le_of_eq g12.symm)
  have K12 : Keep h0 h12 [a1] := Keep.ext K11 E12
  have V12 : Arv Z h12 b12 k3 .double (2 : Int32) [(defaultValue .double), (defaultValue .double)] (defaultValue .double) := V12
  show OwnR _ _ _ _ _ _ _ (T12.setTop (mkF m 89 #[.val (.ref a1), .val (.ref a2), .val (.ref a3), .val .null, .val (.int (2 : Int32))] [(.ref b12), (.ref a1)]))
  obtain ⟨T13, X13, e13, st13⟩ := castY X12 hx hZ hown (hw _ (List.mem_of_getElem? (i := 35) rfl)) e12 (Ins.self AE12) (g := (mkF m 89 #[.val (.ref a1), .val (.ref a2), .val (.ref a3), .val .null, .val (.int (2 : Int32))] [(.ref b12), (.ref a1)])) rfl rfl (hb hby d3_89)
  refine OwnR.of (st13) ?_
  show OwnR _ _ _ _ _ _ _ (T13.setTop (mkF m 92 #[.val (.ref a1), .val (.ref a2), .val (.ref a3), .val .null, .val (.int (2 : Int32))] [(.ref b12), (.ref a1)]))
  obtain ⟨T14, h14, X14, e14, W14, st14⟩ := putF X13 hx hZ hown (host := "") (Or.inl (hw _ (List.mem_of_getElem? (i := 37) rfl))) Via.refl e13 (Fld.ext E12 (Fld.other W11 (Fld.ext E9 F_lengths_a1) (Or.inr (slot_ne (Or.inr (hw _ (List.mem_of_getElem? (i := 38) rfl))) (Or.inr (hw _ (List.mem_of_getElem? (i := 30) rfl))) (by decide) (t := (.array .double)) (t' := (.array .int)) (by decide) (by decide))))) (Exa.keep E_a1 K12) (Or.inr ⟨(hw _ (List.mem_of_getElem? (i := 38) rfl)), rfl, hnm⟩) (hw _ (List.mem_of_getElem? (i := 12) rfl)) (ty := (.array .double)) (by decide) rfl rfl (g := (mkF m 92 #[.val (.ref a1), .val (.ref a2), .val (.ref a3), .val .null, .val (.int (2 : Int32))] [(.ref b12), (.ref a1)])) rfl rfl (hb hby d3_92)
  refine OwnR.of (st14) ?_
  have F14 := Fld.same W14 (Fld.ext E12 (Fld.other W11 (Fld.ext E9 F_lengths_a1) (Or.inr (slot_ne (Or.inr (hw _ (List.mem_of_getElem? (i := 38) rfl))) (Or.inr (hw _ (List.mem_of_getElem? (i := 30) rfl))) (by decide) (t := (.array .double)) (t' := (.array .int)) (by decide) (by decide)))))
  have K14 : Keep h0 h14 [a1] := Keep.wr K12 W14 (Or.inl (List.mem_of_getElem? (i := 0) rfl))
  have N14 := Fr.snoc X14 N11 g_a1
  show OwnR _ _ _ _ _ _ _ (T14.setTop (mkF m 95 #[.val (.ref a1), .val (.ref a2), .val (.ref a3), .val .null, .val (.int (2 : Int32))] []))
  refine OwnR.of (fun _ hr => XS.aloadN X14.here hx rfl (hb hby d3_95) rfl rfl hr) ?_
  show OwnR _ _ _ _ _ _ _ (T14.setTop (mkF m 96 #[.val (.ref a1), .val (.ref a2), .val (.ref a3), .val .null, .val (.int (2 : Int32))] [(.ref a1)]))
  refine OwnR.of (fun _ hr => XS.aloadN X14.here hx rfl (hb hby d3_96) rfl rfl hr) ?_
  show OwnR _ _ _ _ _ _ _ (T14.setTop (mkF m 97 #[.val (.ref a1), .val (.ref a2), .val (.ref a3), .val .null, .val (.int (2 : Int32))] [.null, (.ref a1)]))
  obtain ⟨T15, h15, X15, e15, W15, st15⟩ := putF X14 hx hZ hown (host := "") (Or.inl (hw _ (List.mem_of_getElem? (i := 39) rfl))) Via.refl e14 (Fld.other W14 (Fld.ext E12 (Fld.other W11 (Fld.ext E9 F_unit_a1) (Or.inr (slot_ne (Or.inr (hw _ (List.mem_of_getElem? (i := 40) rfl))) (Or.inr (hw _ (List.mem_of_getElem? (i := 30) rfl))) (by decide) (t := (.object "java/util/Optional")) (t' := (.array .int)) (by decide) (by decide))))) (Or.inr (slot_ne (Or.inr (hw _ (List.mem_of_getElem? (i := 40) rfl))) (Or.inr (hw _ (List.mem_of_getElem? (i := 38) rfl))) (by decide) (t := (.object "java/util/Optional")) (t' := (.array .double)) (by decide) (by decide)))) (Exa.keep E_a1 K14) (Or.inr ⟨(hw _ (List.mem_of_getElem? (i := 40) rfl)), rfl, hnm⟩) (hw _ (List.mem_of_getElem? (i := 12) rfl)) (ty := (.object "java/util/Optional")) (by decide) rfl rfl (g := (mkF m 97 #[.val (.ref a1), .val (.ref a2), .val (.ref a3), .val .null, .val (.int (2 : Int32))] [.null, (.ref a1)])) rfl rfl (hb hby d3_97)
  refine OwnR.of (st15) ?_
  have F15 := Fld.same W15 (Fld.other W14 (Fld.ext E12 (Fld.other W11 (Fld.ext E9 F_unit_a1) (Or.inr (slot_ne (Or.inr (hw _ (List.mem_of_getElem? (i := 40) rfl))) (Or.inr (hw _ (List.mem_of_getElem? (i := 30) rfl))) (by decide) (t := (.object "java/util/Optional")) (t' := (.array .int)) (by decide) (by decide))))) (Or.inr (slot_ne (Or.inr (hw _ (List.mem_of_getElem? (i := 40) rfl))) (Or.inr (hw _ (List.mem_of_getElem? (i := 38) rfl))) (by decide) (t := (.object "java/util/Optional")) (t' := (.array .double)) (by decide) (by decide))))
  have K15 : Keep h0 h15 [a1] := Keep.wr K14 W15 (Or.inl (List.mem_of_getElem? (i := 0) rfl))
  have N15 := Fr.snoc X15 N14 g_a1
  show OwnR _ _ _ _ _ _ _ (T15.setTop (mkF m 100 #[.val (.ref a1), .val (.ref a2), .val (.ref a3), .val .null, .val (.int (2 : Int32))] []))
  refine own_leafV X15 hx hlk Bd.returns (hb hby d3_100) (by decide) (by decide) ?_
  show Q3_2 Z a1 k2 x0 x1 h0 n0 _ T15.heap _
  rw [show T15.heap = h15 from e15]
  refine ⟨b9, rfl, N15, ⟨K15, (Exa.keep E_a1 K15), (Fld.other W15 (Fld.other W14 (Fld.ext E12 F11) (Or.inr (slot_ne (Or.inr (hw _ (List.mem_of_getElem? (i := 30) rfl))) (Or.inr (hw _ (List.mem_of_getElem? (i := 38) rfl))) (by decide) (t := (.array .int)) (t' := (.array .double)) (by decide) (by decide)))) (Or.inr (slot_ne (Or.inr (hw _ (List.mem_of_getElem? (i := 30) rfl))) (Or.inr (hw _ (List.mem_of_getElem? (i := 40) rfl))) (by decide) (t := (.array .int)) (t' := (.object "java/util/Optional")) (by decide) (by decide)))), (Arv.other (Arv.other (Arv.ext (Arv.other V9 W11 (Ne.symm (Nat.ne_of_lt (Nat.lt_of_lt_of_le E_a1.lt (Nat.le_of_eq g9.symm))))) E12) W14 (Ne.symm (Nat.ne_of_lt (Nat.lt_of_lt_of_le E_a1.lt (Nat.le_of_eq g9.symm))))) W15 (Ne.symm (Nat.ne_of_lt (Nat.lt_of_lt_of_le E_a1.lt (Nat.le_of_eq g9.symm)))))⟩⟩
theorem ef_rm5_2 (m : MethodId) (x0 : Addr) : entryFrame m #[(.ref x0)] 7 = mkF m 0 #[.val (.ref x0), .unset, .unset, .unset, .unset, .unset, .unset] [] := by first | (simp [entryFrame, mkF, argsToLocals, Value.category]; done) | rfl
def Q5_2 (Z : State) (x0 : Int32) (x1 : Int32) (h0 : Heap) (n0 : Nat) (v : Option Value) (h : Heap) (L : List Loc) : Prop := v = some (.long (((0 : Int64) + (x0.toInt64)) + (x1.toInt64))) ∧ Fr n0 L ∧ h = h0
set_option maxRecDepth 65536 in
set_option maxHeartbeats 40000000 in
theorem rm5_2 (l : Launch) (Z : State) (a0 : Array Value) (hw : ∀ d ∈ tables_1, d.before a0 Z = true) (ws : List Jvm.Cond) (a1 : Addr) (a2 : Addr) (k2 : ClassId) (x0 x1 : Int32) (h0 : Heap) (n0 : Nat) (Z0 : n0 ≤ h0.size) (E_a1 : Exa Z h0 a1 "com/example/ramification/ramification/model/StrahlerOrders") (F_branches_a1 : Fld Z h0 a1 "com/example/ramification/ramification/model/StrahlerOrders" "branches" "[I" (.ref a2)) (V_a2 : Arv Z h0 a2 k2 .int (2 : Int32) [(.int x0), (.int x1)] (.int (0 : Int32))) :
    MetFree l (⟨"com/example/ramification/ramification/model/StrahlerOrders", "getTotalBranches", "()J"⟩ : MethodName) (head1 (Jvm.Cond.code (⟨"com/example/ramification/ramification/model/StrahlerOrders", "getTotalBranches", "()J"⟩ : MethodName) prog_88_method_7_code 7 (some .long) :: ws) ({ frames := 0, cells := 0, slots := 0, locals := 0 } : Room)) (fun a U => a = #[(.ref a1)] ∧ Z.Warmed39 U.vm ∧ U.heap = h0) (fun _ _ _ _ _ => True) (fun _ U o U' => ∃ v L, o = .returned v ∧ Q5_2 Z x0 x1 h0 n0 v U'.heap L ∧ FrameEnd U o U' L ({ frames := 0, cells := 0, slots := 0, locals := 0 } : Room).cells ({ frames := 0, cells := 0, slots := 0, locals := 0 } : Room).slots) := by
  refine MetFree.of_bodySF (plainFor_of_name pn_com_example_ramification_ramification_model_StrahlerOrders) hisR ?_
  intro p e s m args below meth c s₁ Bd hml0 hP hK
  obtain ⟨rfl, hZ, hh⟩ := hP
  have hx := Bd.exec
  have hby := Bd.bytes
  have hlk := BodyLoose.notSynchronized Bd
  have hml : c.maxLocals = 7 := hml0
  have hown : s.vm.findClass "com/example/ramification/ramification/model/StrahlerOrders" = some m.cls := findClass_of_methodNamed Bd.named
  have hnm := (name_of_methodNamed Bd.named Bd.method).1
  have X0 : Stand p l e ({ frames := 0, cells := 0, slots := 0, locals := 0 } : Room) s m #[(.ref a1)] below meth c s₁ [] 0 0 := Stand.of_body Bd
  have e0 : s₁.heap = h0 := by rw [← hh, Bd.state]; rfl
  have N0 := Fr.nil n0
  refine OwnR.of (s := s) (Q := Q5_2 Z x0 x1 h0 n0) (fun t k => castTop (ef_rm5_2 m a1) k) ?_
  show OwnR _ _ _ _ _ _ _ (s₁.setTop (mkF m 0 #[.val (.ref a1), .unset, .unset, .unset, .unset, .unset, .unset] []))
  refine OwnR.of (fun _ hr => XS.lconst X0.here hx rfl (hb hby d5_0) hr) ?_
  show OwnR _ _ _ _ _ _ _ (s₁.setTop (mkF m 1 #[.val (.ref a1), .unset, .unset, .unset, .unset, .unset, .unset] [(.long (0 : Int64))]))
  refine OwnR.of (fun _ hr => XS.lstoreN X0.here hx rfl (hb hby d5_1) rfl (l' := #[.val (.ref a1), .val (.long (0 : Int64)), .second, .unset, .unset, .unset, .unset]) rfl hr) ?_
  show OwnR _ _ _ _ _ _ _ (s₁.setTop (mkF m 2 #[.val (.ref a1), .val (.long (0 : Int64)), .second, .unset, .unset, .unset, .unset] []))
  refine OwnR.of (fun _ hr => XS.aloadN X0.here hx rfl (hb hby d5_2) rfl rfl hr) ?_
  show OwnR _ _ _ _ _ _ _ (s₁.setTop (mkF m 3 #[.val (.ref a1), .val (.long (0 : Int64)), .second, .unset, .unset, .unset, .unset] [(.ref a1)]))
  obtain ⟨T1, X1, e1, st1⟩ := getF X0 hx hZ hown (host := "") (Or.inl (hw _ (List.mem_of_getElem? (i := 29) rfl))) Via.refl e0 F_branches_a1 (g := (mkF m 3 #[.val (.ref a1), .val (.long (0 : Int64)), .second, .unset, .unset, .unset, .unset] [(.ref a1)])) rfl rfl (hb hby d5_3)
  refine OwnR.of (st1) ?_
  show OwnR _ _ _ _ _ _ _ (T1.setTop (mkF m 6 #[.val (.ref a1), .val (.long (0 : Int64)), .second, .unset, .unset, .unset, .unset] [(.ref a2)]))
  refine OwnR.of (fun _ hr => XS.astoreN X1.here hx rfl (hb hby d5_6) rfl rfl (l' := #[.val (.ref a1), .val (.long (0 : Int64)), .second, .val (.ref a2), .unset, .unset, .unset]) rfl hr) ?_
  show OwnR _ _ _ _ _ _ _ (T1.setTop (mkF m 7 #[.val (.ref a1), .val (.long (0 : Int64)), .second, .val (.ref a2), .unset, .unset, .unset] []))
  refine OwnR.of (fun _ hr => XS.aloadN X1.here hx rfl (hb hby d5_7) rfl rfl hr) ?_
  show OwnR _ _ _ _ _ _ _ (T1.setTop (mkF m 8 #[.val (.ref a1), .val (.long (0 : Int64)), .second, .val (.ref a2), .unset, .unset, .unset] [(.ref a2)]))
  obtain ⟨cl2, Ar2, -, S2, N2, -, -⟩ := id V_a2
  refine OwnR.of (X1.arraylength hx (by rw [e1]; exact Ar2.1) (State.isArrayOf_alike hZ.alike Ar2.2.1) (g := (mkF m 8 #[.val (.ref a1), .val (.long (0 : Int64)), .second, .val (.ref a2), .unset, .unset, .unset] [(.ref a2)])) rfl rfl (hb hby d5_8)) ?_
  show OwnR _ _ _ _ _ _ _ (T1.setTop (mkF m 9 #[.val (.ref a1), .val (.long (0 : Int64)), .second, .val (.ref a2), .unset, .unset, .unset] [(.int cl2.slots.size.toInt32)]))
  rw [len_of S2 N2]
  show OwnR _ _ _ _ _ _ _ (T1.setTop (mkF m 9 #[.val (.ref a1), .val (.long (0 : Int64)), .second, .val (.ref a2), .unset, .unset, .unset] [(.int (2 : Int32))]))
  refine OwnR.of (fun _ hr => XS.istore X1.here hx rfl (hb hby d5_9) rfl (l' := #[.val (.ref a1), .val (.long (0 : Int64)), .second, .val (.ref a2), .val (.int (2 : Int32)), .unset, .unset]) rfl hr) ?_
  show OwnR _ _ _ _ _ _ _ (T1.setTop (mkF m 11 #[.val (.ref a1), .val (.long (0 : Int64)), .second, .val (.ref a2), .val (.int (2 : Int32)), .unset, .unset] []))
  refine OwnR.of (fun _ hr => XS.iconst X1.here hx rfl (hb hby d5_11) hr) ?_
  show OwnR _ _ _ _ _ _ _ (T1.setTop (mkF m 12 #[.val (.ref a1), .val (.long (0 : Int64)), .second, .val (.ref a2), .val (.int (2 : Int32)), .unset, .unset] [(.int (0 : Int32))]))
  refine OwnR.of (fun _ hr => XS.istore X1.here hx rfl (hb hby d5_12) rfl (l' := #[.val (.ref a1), .val (.long (0 : Int64)), .second, .val (.ref a2), .val (.int (2 : Int32)), .val (.int (0 : Int32)), .unset]) rfl hr) ?_
  show OwnR _ _ _ _ _ _ _ (T1.setTop (mkF m 14 #[.val (.ref a1), .val (.long (0 : Int64)), .second, .val (.ref a2), .val (.int (2 : Int32)), .val (.int (0 : Int32)), .unset] []))
  refine OwnR.of (fun _ hr => XS.iload X1.here hx rfl (hb hby d5_14) rfl hr) ?_
  show OwnR _ _ _ _ _ _ _ (T1.setTop (mkF m 16 #[.val (.ref a1), .val (.long (0 : Int64)), .second, .val (.ref a2), .val (.int (2 : Int32)), .val (.int (0 : Int32)), .unset] [(.int (0 : Int32))]))
  refine OwnR.of (fun _ hr => XS.iload X1.here hx rfl (hb hby d5_16) rfl hr) ?_
  show OwnR _ _ _ _ _ _ _ (T1.setTop (mkF m 18 #[.val (.ref a1), .val (.long (0 : Int64)), .second, .val (.ref a2), .val (.int (2 : Int32)), .val (.int (0 : Int32)), .unset] [(.int (2 : Int32)), (.int (0 : Int32))]))
  refine OwnR.of (fun _ hr => XS.icmpNo X1.here hx rfl (hb hby d5_18) rfl (tlt (by decide : (0 : Int32) < (2 : Int32))).2.1 hr) ?_
  show OwnR _ _ _ _ _ _ _ (T1.setTop (mkF m 21 #[.val (.ref a1), .val (.long (0 : Int64)), .second, .val (.ref a2), .val (.int (2 : Int32)), .val (.int (0 : Int32)), .unset] []))
  refine OwnR.of (fun _ hr => XS.aloadN X1.here hx rfl (hb hby d5_21) rfl rfl hr) ?_
  show OwnR _ _ _ _ _ _ _ (T1.setTop (mkF m 22 #[.val (.ref a1), .val (.long (0 : Int64)), .second, .val (.ref a2), .val (.int (2 : Int32)), .val (.int (0 : Int32)), .unset] [(.ref a2)]))
  refine OwnR.of (fun _ hr => XS.iload X1.here hx rfl (hb hby d5_22) rfl hr) ?_
  show OwnR _ _ _ _ _ _ _ (T1.setTop (mkF m 24 #[.val (.ref a1), .val (.long (0 : Int64)), .second, .val (.ref a2), .val (.int (2 : Int32)), .val (.int (0 : Int32)), .unset] [(.int (0 : Int32)), (.ref a2)]))
  obtain ⟨cl3, Ar3, -, S3, N3, H3, G3⟩ := id V_a2
  have hin3 : ¬ ((0 : Int32) < 0 ∨ cl3.slots.size ≤ ((0 : Int32)).toNatClampNeg) := (inb_of S3 ⟨by decide, by decide⟩)
  refine OwnR.of (X1.iaload hx (j := (0 : Int32)) (v := (.int x0)) (by rw [e1]; exact Ar3.1) (State.isArrayOf_alike hZ.alike Ar3.2.1) Ar3.2.2 hin3 (Has.at H3 hin3 rfl) (g := (mkF m 24 #[.val (.ref a1), .val (.long (0 : Int64)), .second, .val (.ref a2), .val (.int (2 : Int32)), .val (.int (0 : Int32)), .unset] [(.int (0 : Int32)), (.ref a2)])) rfl rfl (hb hby d5_24)) ?_
  show OwnR _ _ _ _ _ _ _ (T1.setTop (mkF m 25 #[.val (.ref a1), .val (.long (0 : Int64)), .second, .val (.ref a2), .val (.int (2 : Int32)), .val (.int (0 : Int32)), .unset] [(.int x0)]))
  refine OwnR.of (fun _ hr => XS.istore X1.here hx rfl (hb hby d5_25) rfl (l' := #[.val (.ref a1), .val (.long (0 : Int64)), .second, .val (.ref a2), .val (.int (2 : Int32)), .val (.int (0 : Int32)), .val (.int x0)]) rfl hr) ?_
  show OwnR _ _ _ _ _ _ _ (T1.setTop (mkF m 27 #[.val (.ref a1), .val (.long (0 : Int64)), .second, .val (.ref a2), .val (.int (2 : Int32)), .val (.int (0 : Int32)), .val (.int x0)] []))
  refine OwnR.of (fun _ hr => XS.lloadN X1.here hx rfl (hb hby d5_27) rfl hr) ?_
  show OwnR _ _ _ _ _ _ _ (T1.setTop (mkF m 28 #[.val (.ref a1), .val (.long (0 : Int64)), .second, .val (.ref a2), .val (.int (2 : Int32)), .val (.int (0 : Int32)), .val (.int x0)] [(.long (0 : Int64))]))
  refine OwnR.of (fun _ hr => XS.iload X1.here hx rfl (hb hby d5_28) rfl hr) ?_
  show OwnR _ _ _ _ _ _ _ (T1.setTop (mkF m 30 #[.val (.ref a1), .val (.long (0 : Int64)), .second, .val (.ref a2), .val (.int (2 : Int32)), .val (.int (0 : Int32)), .val (.int x0)] [(.int x0), (.long (0 : Int64))]))
  refine OwnR.of (fun _ hr => XS.i2l X1.here hx rfl (hb hby d5_30) rfl hr) ?_
  show OwnR _ _ _ _ _ _ _ (T1.setTop (mkF m 31 #[.val (.ref a1), .val (.long (0 : Int64)), .second, .val (.ref a2), .val (.int (2 : Int32)), .val (.int (0 : Int32)), .val (.int x0)] [(.long (x0.toInt64)), (.long (0 : Int64))]))
  refine OwnR.of (fun _ hr => XS.ladd X1.here hx rfl (hb hby d5_31) rfl hr) ?_
  show OwnR _ _ _ _ _ _ _ (T1.setTop (mkF m 32 #[.val (.ref a1), .val (.long (0 : Int64)), .second, .val (.ref a2), .val (.int (2 : Int32)), .val (.int (0 : Int32)), .val (.int x0)] [(.long ((0 : Int64) + (x0.toInt64)))]))
  refine OwnR.of (fun _ hr => XS.lstoreN X1.here hx rfl (hb hby d5_32) rfl (l' := #[.val (.ref a1), .val (.long ((0 : Int64) + (x0.toInt64))), .second, .val (.ref a2), .val (.int (2 : Int32)), .val (.int (0 : Int32)), .val (.int x0)]) rfl hr) ?_
  show OwnR _ _ _ _ _ _ _ (T1.setTop (mkF m 33 #[.val (.ref a1), .val (.long ((0 : Int64) + (x0.toInt64))), .second, .val (.ref a2), .val (.int (2 : Int32)), .val (.int (0 : Int32)), .val (.int x0)] []))
  refine OwnR.of (fun _ hr => XS.iinc X1.here hx rfl (hb hby d5_33) rfl (l' := #[.val (.ref a1), .val (.long ((0 : Int64) + (x0.toInt64))), .second, .val (.ref a2), .val (.int (2 : Int32)), .val (.int ((0 : Int32) + (1 : Int32))), .val (.int x0)]) rfl hr) ?_
  show OwnR _ _ _ _ _ _ _ (T1.setTop (mkF m 36 #[.val (.ref a1), .val (.long ((0 : Int64) + (x0.toInt64))), .second, .val (.ref a2), .val (.int (2 : Int32)), .val (.int ((0 : Int32) + (1 : Int32))), .val (.int x0)] []))
  rw [(by decide : ((0 : Int32) + (1 : Int32)) = (1 : Int32))]
  show OwnR _ _ _ _ _ _ _ (T1.setTop (mkF m 36 #[.val (.ref a1), .val (.long ((0 : Int64) + (x0.toInt64))), .second, .val (.ref a2), .val (.int (2 : Int32)), .val (.int (1 : Int32)), .val (.int x0)] []))
  refine OwnR.of (fun _ hr => XS.goto X1.here hx rfl (pc0 := 36) (pc' := 14) rfl (hb hby d5_36) (by decide) (by decide) hr) ?_
  show OwnR _ _ _ _ _ _ _ (T1.setTop (mkF m 14 #[.val (.ref a1), .val (.long ((0 : Int64) + (x0.toInt64))), .second, .val (.ref a2), .val (.int (2 : Int32)), .val (.int (1 : Int32)), .val (.int x0)] []))
  refine OwnR.of (fun _ hr => XS.iload X1.here hx rfl (hb hby d5_14) rfl hr) ?_
  show OwnR _ _ _ _ _ _ _ (T1.setTop (mkF m 16 #[.val (.ref a1), .val (.long ((0 : Int64) + (x0.toInt64))), .second, .val (.ref a2), .val (.int (2 : Int32)), .val (.int (1 : Int32)), .val (.int x0)] [(.int (1 : Int32))]))
  refine OwnR.of (fun _ hr => XS.iload X1.here hx rfl (hb hby d5_16) rfl hr) ?_
  show OwnR _ _ _ _ _ _ _ (T1.setTop (mkF m 18 #[.val (.ref a1), .val (.long ((0 : Int64) + (x0.toInt64))), .second, .val (.ref a2), .val (.int (2 : Int32)), .val (.int (1 : Int32)), .val (.int x0)] [(.int (2 : Int32)), (.int (1 : Int32))]))
  refine OwnR.of (fun _ hr => XS.icmpNo X1.here hx rfl (hb hby d5_18) rfl (tlt (by decide : (1 : Int32) < (2 : Int32))).2.1 hr) ?_
  show OwnR _ _ _ _ _ _ _ (T1.setTop (mkF m 21 #[.val (.ref a1), .val (.long ((0 : Int64) + (x0.toInt64))), .second, .val (.ref a2), .val (.int (2 : Int32)), .val (.int (1 : Int32)), .val (.int x0)] []))
  refine OwnR.of (fun _ hr => XS.aloadN X1.here hx rfl (hb hby d5_21) rfl rfl hr) ?_
  show OwnR _ _ _ _ _ _ _ (T1.setTop (mkF m 22 #[.val (.ref a1), .val (.long ((0 : Int64) + (x0.toInt64))), .second, .val (.ref a2), .val (.int (2 : Int32)), .val (.int (1 : Int32)), .val (.int x0)] [(.ref a2)]))
  refine OwnR.of (fun _ hr => XS.iload X1.here hx rfl (hb hby d5_22) rfl hr) ?_
  show OwnR _ _ _ _ _ _ _ (T1.setTop (mkF m 24 #[.val (.ref a1), .val (.long ((0 : Int64) + (x0.toInt64))), .second, .val (.ref a2), .val (.int (2 : Int32)), .val (.int (1 : Int32)), .val (.int x0)] [(.int (1 : Int32)), (.ref a2)]))
  obtain ⟨cl4, Ar4, -, S4, N4, H4, G4⟩ := id V_a2
  have hin4 : ¬ ((1 : Int32) < 0 ∨ cl4.slots.size ≤ ((1 : Int32)).toNatClampNeg) := (inb_of S4 ⟨by decide, by decide⟩)
  refine OwnR.of (X1.iaload hx (j := (1 : Int32)) (v := (.int x1)) (by rw [e1]; exact Ar4.1) (State.isArrayOf_alike hZ.alike Ar4.2.1) Ar4.2.2 hin4 (Has.at H4 hin4 rfl) (g := (mkF m 24 #[.val (.ref a1), .val (.long ((0 : Int64) + (x0.toInt64))), .second, .val (.ref a2), .val (.int (2 : Int32)), .val (.int (1 : Int32)), .val (.int x0)] [(.int (1 : Int32)), (.ref a2)])) rfl rfl (hb hby d5_24)) ?_
  show OwnR _ _ _ _ _ _ _ (T1.setTop (mkF m 25 #[.val (.ref a1), .val (.long ((0 : Int64) + (x0.toInt64))), .second, .val (.ref a2), .val (.int (2 : Int32)), .val (.int (1 : Int32)), .val (.int x0)] [(.int x1)]))
  refine OwnR.of (fun _ hr => XS.istore X1.here hx rfl (hb hby d5_25) rfl (l' := #[.val (.ref a1), .val (.long ((0 : Int64) + (x0.toInt64))), .second, .val (.ref a2), .val (.int (2 : Int32)), .val (.int (1 : Int32)), .val (.int x1)]) rfl hr) ?_
  show OwnR _ _ _ _ _ _ _ (T1.setTop (mkF m 27 #[.val (.ref a1), .val (.long ((0 : Int64) + (x0.toInt64))), .second, .val (.ref a2), .val (.int (2 : Int32)), .val (.int (1 : Int32)), .val (.int x1)] []))
  refine OwnR.of (fun _ hr => XS.lloadN X1.here hx rfl (hb hby d5_27) rfl hr) ?_
  show OwnR _ _ _ _ _ _ _ (T1.setTop (mkF m 28 #[.val (.ref a1), .val (.long ((0 : Int64) + (x0.toInt64))), .second, .val (.ref a2), .val (.int (2 : Int32)), .val (.int (1 : Int32)), .val (.int x1)] [(.long ((0 : Int64) + (x0.toInt64)))]))
  refine OwnR.of (fun _ hr => XS.iload X1.here hx rfl (hb hby d5_28) rfl hr) ?_
  show OwnR _ _ _ _ _ _ _ (T1.setTop (mkF m 30 #[.val (.ref a1), .val (.long ((0 : Int64) + (x0.toInt64))), .second, .val (.ref a2), .val (.int (2 : Int32)), .val (.int (1 : Int32)), .val (.int x1)] [(.int x1), (.long ((0 : Int64) + (x0.toInt64)))]))
  refine OwnR.of (fun _ hr => XS.i2l X1.here hx rfl (hb hby d5_30) rfl hr) ?_
  show OwnR _ _ _ _ _ _ _ (T1.setTop (mkF m 31 #[.val (.ref a1), .val (.long ((0 : Int64) + (x0.toInt64))), .second, .val (.ref a2), .val (.int (2 : Int32)), .val (.int (1 : Int32)), .val (.int x1)] [(.long (x1.toInt64)), (.long ((0 : Int64) + (x0.toInt64)))]))
  refine OwnR.of (fun _ hr => XS.ladd X1.here hx rfl (hb hby d5_31) rfl hr) ?_
  show OwnR _ _ _ _ _ _ _ (T1.setTop (mkF m 32 #[.val (.ref a1), .val (.long ((0 : Int64) + (x0.toInt64))), .second, .val (.ref a2), .val (.int (2 : Int32)), .val (.int (1 : Int32)), .val (.int x1)] [(.long (((0 : Int64) + (x0.toInt64)) + (x1.toInt64)))]))
  refine OwnR.of (fun _ hr => XS.lstoreN X1.here hx rfl (hb hby d5_32) rfl (l' := #[.val (.ref a1), .val (.long (((0 : Int64) + (x0.toInt64)) + (x1.toInt64))), .second, .val (.ref a2), .val (.int (2 : Int32)), .val (.int (1 : Int32)), .val (.int x1)]) rfl hr) ?_
  show OwnR _ _ _ _ _ _ _ (T1.setTop (mkF m 33 #[.val (.ref a1), .val (.long (((0 : Int64) + (x0.toInt64)) + (x1.toInt64))), .second, .val (.ref a2), .val (.int (2 : Int32)), .val (.int (1 : Int32)), .val (.int x1)] []))
  refine OwnR.of (fun _ hr => XS.iinc X1.here hx rfl (hb hby d5_33) rfl (l' := #[.val (.ref a1), .val (.long (((0 : Int64) + (x0.toInt64)) + (x1.toInt64))), .second, .val (.ref a2), .val (.int (2 : Int32)), .val (.int ((1 : Int32) + (1 : Int32))), .val (.int x1)]) rfl hr) ?_
  show OwnR _ _ _ _ _ _ _ (T1.setTop (mkF m 36 #[.val (.ref a1), .val (.long (((0 : Int64) + (x0.toInt64)) + (x1.toInt64))), .second, .val (.ref a2), .val (.int (2 : Int32)), .val (.int ((1 : Int32) + (1 : Int32))), .val (.int x1)] []))
  rw [(by decide : ((1 : Int32) + (1 : Int32)) = (2 : Int32))]
  show OwnR _ _ _ _ _ _ _ (T1.setTop (mkF m 36 #[.val (.ref a1), .val (.long (((0 : Int64) + (x0.toInt64)) + (x1.toInt64))), .second, .val (.ref a2), .val (.int (2 : Int32)), .val (.int (2 : Int32)), .val (.int x1)] []))
  refine OwnR.of (fun _ hr => XS.goto X1.here hx rfl (pc0 := 36) (pc' := 14) rfl (hb hby d5_36) (by decide) (by decide) hr) ?_
  show OwnR _ _ _ _ _ _ _ (T1.setTop (mkF m 14 #[.val (.ref a1), .val (.long (((0 : Int64) + (x0.toInt64)) + (x1.toInt64))), .second, .val (.ref a2), .val (.int (2 : Int32)), .val (.int (2 : Int32)), .val (.int x1)] []))
  refine OwnR.of (fun _ hr => XS.iload X1.here hx rfl (hb hby d5_14) rfl hr) ?_
  show OwnR _ _ _ _ _ _ _ (T1.setTop (mkF m 16 #[.val (.ref a1), .val (.long (((0 : Int64) + (x0.toInt64)) + (x1.toInt64))), .second, .val (.ref a2), .val (.int (2 : Int32)), .val (.int (2 : Int32)), .val (.int x1)] [(.int (2 : Int32))]))
  refine OwnR.of (fun _ hr => XS.iload X1.here hx rfl (hb hby d5_16) rfl hr) ?_
  show OwnR _ _ _ _ _ _ _ (T1.setTop (mkF m 18 #[.val (.ref a1), .val (.long (((0 : Int64) + (x0.toInt64)) + (x1.toInt64))), .second, .val (.ref a2), .val (.int (2 : Int32)), .val (.int (2 : Int32)), .val (.int x1)] [(.int (2 : Int32)), (.int (2 : Int32))]))
  refine OwnR.of (fun _ hr => XS.icmpYes X1.here hx rfl (pc0 := 18) (pc' := 39) rfl (hb hby d5_18) rfl (flt (by decide : ¬ ((2 : Int32) < (2 : Int32)))).2.1 (by decide) (by decide) hr) ?_
  show OwnR _ _ _ _ _ _ _ (T1.setTop (mkF m 39 #[.val (.ref a1), .val (.long (((0 : Int64) + (x0.toInt64)) + (x1.toInt64))), .second, .val (.ref a2), .val (.int (2 : Int32)), .val (.int (2 : Int32)), .val (.int x1)] []))
  refine OwnR.of (fun _ hr => XS.lloadN X1.here hx rfl (hb hby d5_39) rfl hr) ?_
  show OwnR _ _ _ _ _ _ _ (T1.setTop (mkF m 40 #[.val (.ref a1), .val (.long (((0 : Int64) + (x0.toInt64)) + (x1.toInt64))), .second, .val (.ref a2), .val (.int (2 : Int32)), .val (.int (2 : Int32)), .val (.int x1)] [(.long (((0 : Int64) + (x0.toInt64)) + (x1.toInt64)))]))
  refine own_leafJ X1 hx hlk Bd.returns (hb hby d5_40) (by decide) (by decide) ?_
  show Q5_2 Z x0 x1 h0 n0 _ T1.heap _
  rw [show T1.heap = h0 from e1]
  refine ⟨?_, N0, rfl⟩
  show (some (.long (((0 : Int64) + (x0.toInt64)) + (x1.toInt64))) : Option Value) = some (.long (((0 : Int64) + (x0.toInt64)) + (x1.toInt64)))
  rfl
theorem ef_rm3_3 (m : MethodId) (x0 : Addr) (x1 : Addr) (x2 : Addr) : entryFrame m #[(.ref x0), (.ref x1), (.ref x2), .null] 5 = mkF m 0 #[.val (.ref x0), .val (.ref x1), .val (.ref x2), .val .null, .unset] [] := by first | (simp [entryFrame, mkF, argsToLocals, Value.category]; done) | rfl
def Q3_3 (Z : State) (a1 : Addr) (k2 : ClassId) (x0 : Int32) (x1 : Int32) (x2 : Int32) (h0 : Heap) (n0 : Nat) (v : Option Value) (h : Heap) (L : List Loc) : Prop := ∃ (bI : Addr), v = none ∧ Fr n0 L ∧ Keep h0 h [a1] ∧ Exa Z h a1 "com/example/ramification/ramification/model/StrahlerOrders" ∧ Fld Z h a1 "com/example/ramification/ramification/model/StrahlerOrders" "branches" "[I" (.ref bI) ∧ Arv Z h bI k2 .int (3 : Int32) [(.int x0), (.int x1), (.int x2)] (.int (0 : Int32))
set_option maxRecDepth 65536 in
set_option maxHeartbeats 40000000 in
theorem rm3_3 (l : Launch) (Z : State) (a0 : Array Value) (hw : ∀ d ∈ tables_1, d.before a0 Z = true) (ws : List Jvm.Cond) (a1 : Addr) (a2 : Addr) (a3 : Addr) (k2 k3 : ClassId) (x0 x1 x2 : Int32) (h0 : Heap) (n0 : Nat) (Z0 : n0 ≤ h0.size) (E_a1 : Exa Z h0 a1 "com/example/ramification/ramification/model/StrahlerOrders") (F_branches_a1 : Fld Z h0 a1 "com/example/ramification/ramification/model/StrahlerOrders" "branches" "[I" .null) (F_lengths_a1 : Fld Z h0 a1 "com/example/ramification/ramification/model/StrahlerOrders" "lengths" "[D" .null) (F_unit_a1 : Fld Z h0 a1 "com/example/ramification/ramification/model/StrahlerOrders" "unit" "Ljava/util/Optional;" .null) (V_a2 : Arv Z h0 a2 k2 .int (3 : Int32) [(.int x0), (.int x1), (.int x2)] (.int (0 : Int32))) (V_a3 : Arv Z h0 a3 k3 .double (3 : Int32) [(defaultValue .double), (defaultValue .double), (defaultValue .double)] (defaultValue .double)) (E_a2 : Exa Z h0 a2 "[I") (E_a3 : Exa Z h0 a3 "[D") (g_a1 : n0 ≤ a1) (ne_12 : a1 ≠ a2) (ne_13 : a1 ≠ a3) (hx0 : ¬ (x0 < (1 : Int32))) (hx1 : ¬ (x1 < (1 : Int32))) (hx2 : ¬ (x2 < (1 : Int32))) :
    MetFree l (⟨"com/example/ramification/ramification/model/StrahlerOrders", "<init>", "([I[DLjava/util/Optional;)V"⟩ : MethodName) (head1 (Jvm.Cond.code (⟨"com/example/ramification/ramification/model/StrahlerOrders", "<init>", "([I[DLjava/util/Optional;)V"⟩ : MethodName) prog_88_method_1_code 5 none :: ws) ({ frames := 1, cells := 2, slots := 6, locals := 18 } : Room)) (fun a U => a = #[(.ref a1), (.ref a2), (.ref a3), .null] ∧ Z.Warmed39 U.vm ∧ U.heap = h0) (fun _ _ _ _ _ => True) (fun _ U o U' => ∃ v L, o = .returned v ∧ Q3_3 Z a1 k2 x0 x1 x2 h0 n0 v U'.heap L ∧ FrameEnd U o U' L ({ frames := 1, cells := 2, slots := 6, locals := 18 } : Room).cells ({ frames := 1, cells := 2, slots := 6, locals := 18 } : Room).slots) := by
  refine MetFree.of_bodySF (plainFor_of_name pn_com_example_ramification_ramification_model_StrahlerOrders) hisR ?_
  intro p e s m args below meth c s₁ Bd hml0 hP hK
  obtain ⟨rfl, hZ, hh⟩ := hP
  have hx := Bd.exec
  have hby := Bd.bytes
  have hlk := BodyLoose.notSynchronized Bd
  have hml : c.maxLocals = 5 := hml0
  have hown : s.vm.findClass "com/example/ramification/ramification/model/StrahlerOrders" = some m.cls := findClass_of_methodNamed Bd.named
  have hnm := (name_of_methodNamed Bd.named Bd.method).1
  have X0 : Stand p l e ({ frames := 1, cells := 2, slots := 6, locals := 18 } : Room) s m #[(.ref a1), (.ref a2), (.ref a3), .null] below meth c s₁ [] 0 0 := Stand.of_body Bd
  have e0 : s₁.heap = h0 := by rw [← hh, Bd.state]; rfl
  have N0 := Fr.nil n0
  refine OwnR.of (s := s) (Q := Q3_3 Z a1 k2 x0 x1 x2 h0 n0) (fun t k => castTop (ef_rm3_3 m a1 a2 a3) k) ?_
  show OwnR _ _ _ _ _ _ _ (s₁.setTop (mkF m 0 #[.val (.ref a1), .val (.ref a2), .val (.ref a3), .val .null, .unset] []))
  refine OwnR.of (fun _ hr => XS.aloadN X0.here hx rfl (hb hby d3_0) rfl rfl hr) ?_
  show OwnR _ _ _ _ _ _ _ (s₁.setTop (mkF m 1 #[.val (.ref a1), .val (.ref a2), .val (.ref a3), .val .null, .unset] [(.ref a1)]))
  obtain ⟨T1, X1, e1, st1⟩ := initO X0 hx hZ hown (hw _ (List.mem_of_getElem? (i := 17) rfl)) (hw _ (List.mem_of_getElem? (i := 18) rfl)) (hw _ (List.mem_of_getElem? (i := 19) rfl)) e0 (g := (mkF m 1 #[.val (.ref a1), .val (.ref a2), .val (.ref a3), .val .null, .unset] [(.ref a1)])) rfl (by rw [hml]; rfl) rfl (hb hby d3_1) (by decide) (W := 0) (by show 2 * 0 + _ ≤ _; exact Nat.le_of_eq rfl) (by decide)
  refine OwnR.of (st1) ?_
  show OwnR _ _ _ _ _ _ _ (T1.setTop (mkF m 4 #[.val (.ref a1), .val (.ref a2), .val (.ref a3), .val .null, .unset] []))
  refine OwnR.of (fun _ hr => XS.aloadN X1.here hx rfl (hb hby d3_4) rfl rfl hr) ?_
  show OwnR _ _ _ _ _ _ _ (T1.setTop (mkF m 5 #[.val (.ref a1), .val (.ref a2), .val (.ref a3), .val .null, .unset] [(.ref a2)]))
  obtain ⟨cl2, Ar2, -, S2, N2, -, -⟩ := id V_a2
  refine OwnR.of (X1.arraylength hx (by rw [e1]; exact Ar2.1) (State.isArrayOf_alike hZ.alike Ar2.2.1) (g := (mkF m 5 #[.val (.ref a1), .val (.ref a2), .val (.ref a3), .val .null, .unset] [(.ref a2)])) rfl rfl (hb hby d3_5)) ?_
  show OwnR _ _ _ _ _ _ _ (T1.setTop (mkF m 6 #[.val (.ref a1), .val (.ref a2), .val (.ref a3), .val .null, .unset] [(.int cl2.slots.size.toInt32)]))
  rw [len_of S2 N2]
  show OwnR _ _ _ _ _ _ _ (T1.setTop (mkF m 6 #[.val (.ref a1), .val (.ref a2), .val (.ref a3), .val .null, .unset] [(.int (3 : Int32))]))
  refine OwnR.of (fun _ hr => XS.aloadN X1.here hx rfl (hb hby d3_6) rfl rfl hr) ?_
  show OwnR _ _ _ _ _ _ _ (T1.setTop (mkF m 7 #[.val (.ref a1), .val (.ref a2), .val (.ref a3), .val .null, .unset] [(.ref a3), (.int (3 : Int32))]))
  obtain ⟨cl3, Ar3, -, S3, N3, -, -⟩ := id V_a3
  refine OwnR.of (X1.arraylength hx (by rw [e1]; exact Ar3.1) (State.isArrayOf_alike hZ.alike Ar3.2.1) (g := (mkF m 7 #[.val (.ref a1), .val (.ref a2), .val (.ref a3), .val .null, .unset] [(.ref a3), (.int (3 : Int32))])) rfl rfl (hb hby d3_7)) ?_
  show OwnR _ _ _ _ _ _ _ (T1.setTop (mkF m 8 #[.val (.ref a1), .val (.ref a2), .val (.ref a3), .val .null, .unset] [(.int cl3.slots.size.toInt32), (.int (3 : Int32))]))
  rw [len_of S3 N3]
  show OwnR _ _ _ _ _ _ _ (T1.setTop (mkF m 8 #[.val (.ref a1), .val (.ref a2), .val (.ref a3), .val .null, .unset] [(.int (3 : Int32)), (.int (3 : Int32))]))
  refine OwnR.of (fun _ hr => XS.icmpYes X1.here hx rfl (pc0 := 8) (pc' := 28) rfl (hb hby d3_8) rfl (teq (by decide : (3 : Int32) = (3 : Int32))).1 (by decide) (by decide) hr) ?_
  show OwnR _ _ _ _ _ _ _ (T1.setTop (mkF m 28 #[.val (.ref a1), .val (.ref a2), .val (.ref a3), .val .null, .unset] []))
  refine OwnR.of (fun _ hr => XS.iconst X1.here hx rfl (hb hby d3_28) hr) ?_
  show OwnR _ _ _ _ _ _ _ (T1.setTop (mkF m 29 #[.val (.ref a1), .val (.ref a2), .val (.ref a3), .val .null, .unset] [(.int (0 : Int32))]))
  refine OwnR.of (fun _ hr => XS.istore X1.here hx rfl (hb hby d3_29) rfl (l' := #[.val (.ref a1), .val (.ref a2), .val (.ref a3), .val .null, .val (.int (0 : Int32))]) rfl hr) ?_
  show OwnR _ _ _ _ _ _ _ (T1.setTop (mkF m 31 #[.val (.ref a1), .val (.ref a2), .val (.ref a3), .val .null, .val (.int (0 : Int32))] []))
  refine OwnR.of (fun _ hr => XS.iload X1.here hx rfl (hb hby d3_31) rfl hr) ?_
  show OwnR _ _ _ _ _ _ _ (T1.setTop (mkF m 33 #[.val (.ref a1), .val (.ref a2), .val (.ref a3), .val .null, .val (.int (0 : Int32))] [(.int (0 : Int32))]))
  refine OwnR.of (fun _ hr => XS.aloadN X1.here hx rfl (hb hby d3_33) rfl rfl hr) ?_
  show OwnR _ _ _ _ _ _ _ (T1.setTop (mkF m 34 #[.val (.ref a1), .val (.ref a2), .val (.ref a3), .val .null, .val (.int (0 : Int32))] [(.ref a2), (.int (0 : Int32))]))
  obtain ⟨cl4, Ar4, -, S4, N4, -, -⟩ := id V_a2
  refine OwnR.of (X1.arraylength hx (by rw [e1]; exact Ar4.1) (State.isArrayOf_alike hZ.alike Ar4.2.1) (g := (mkF m 34 #[.val (.ref a1), .val (.ref a2), .val (.ref a3), .val .null, .val (.int (0 : Int32))] [(.ref a2), (.int (0 : Int32))])) rfl rfl (hb hby d3_34)) ?_
  show OwnR _ _ _ _ _ _ _ (T1.setTop (mkF m 35 #[.val (.ref a1), .val (.ref a2), .val (.ref a3), .val .null, .val (.int (0 : Int32))] [(.int cl4.slots.size.toInt32), (.int (0 : Int32))]))
  rw [len_of S4 N4]
  show OwnR _ _ _ _ _ _ _ (T1.setTop (mkF m 35 #[.val (.ref a1), .val (.ref a2), .val (.ref a3), .val .null, .val (.int (0 : Int32))] [(.int (3 : Int32)), (.int (0 : Int32))]))
  refine OwnR.of (fun _ hr => XS.icmpNo X1.here hx rfl (hb hby d3_35) rfl (tlt (by decide : (0 : Int32) < (3 : Int32))).2.1 hr) ?_
  show OwnR _ _ _ _ _ _ _ (T1.setTop (mkF m 38 #[.val (.ref a1), .val (.ref a2), .val (.ref a3), .val .null, .val (.int (0 : Int32))] []))
  refine OwnR.of (fun _ hr => XS.aloadN X1.here hx rfl (hb hby d3_38) rfl rfl hr) ?_
  show OwnR _ _ _ _ _ _ _ (T1.setTop (mkF m 39 #[.val (.ref a1), .val (.ref a2), .val (.ref a3), .val .null, .val (.int (0 : Int32))] [(.ref a2)]))
  refine OwnR.of (fun _ hr => XS.iload X1.here hx rfl (hb hby d3_39) rfl hr) ?_
  show OwnR _ _ _ _ _ _ _ (T1.setTop (mkF m 41 #[.val (.ref a1), .val (.ref a2), .val (.ref a3), .val .null, .val (.int (0 : Int32))] [(.int (0 : Int32)), (.ref a2)]))
  obtain ⟨cl5, Ar5, -, S5, N5, H5, G5⟩ := id V_a2
  have hin5 : ¬ ((0 : Int32) < 0 ∨ cl5.slots.size ≤ ((0 : Int32)).toNatClampNeg) := (inb_of S5 ⟨by decide, by decide⟩)
  refine OwnR.of (X1.iaload hx (j := (0 : Int32)) (v := (.int x0)) (by rw [e1]; exact Ar5.1) (State.isArrayOf_alike hZ.alike Ar5.2.1) Ar5.2.2 hin5 (Has.at H5 hin5 rfl) (g := (mkF m 41 #[.val (.ref a1), .val (.ref a2), .val (.ref a3), .val .null, .val (.int (0 : Int32))] [(.int (0 : Int32)), (.ref a2)])) rfl rfl (hb hby d3_41)) ?_
  show OwnR _ _ _ _ _ _ _ (T1.setTop (mkF m 42 #[.val (.ref a1), .val (.ref a2), .val (.ref a3), .val .null, .val (.int (0 : Int32))] [(.int x0)]))
  refine OwnR.of (fun _ hr => XS.iconst X1.here hx rfl (hb hby d3_42) hr) ?_
  show OwnR _ _ _ _ _ _ _ (T1.setTop (mkF m 43 #[.val (.ref a1), .val (.ref a2), .val (.ref a3), .val .null, .val (.int (0 : Int32))] [(.int (1 : Int32)), (.int x0)]))
  refine OwnR.of (fun _ hr => XS.icmpYes X1.here hx rfl (pc0 := 43) (pc' := 67) rfl (hb hby d3_43) rfl (flt hx0).2.1 (by decide) (by decide) hr) ?_
  show OwnR _ _ _ _ _ _ _ (T1.setTop (mkF m 67 #[.val (.ref a1), .val (.ref a2), .val (.ref a3), .val .null, .val (.int (0 : Int32))] []))
  refine OwnR.of (fun _ hr => XS.iinc X1.here hx rfl (hb hby d3_67) rfl (l' := #[.val (.ref a1), .val (.ref a2), .val (.ref a3), .val .null, .val (.int ((0 : Int32) + (1 : Int32)))]) rfl hr) ?_
  show OwnR _ _ _ _ _ _ _ (T1.setTop (mkF m 70 #[.val (.ref a1), .val (.ref a2), .val (.ref a3), .val .null, .val (.int ((0 : Int32) + (1 : Int32)))] []))
  rw [(by decide : ((0 : Int32) + (1 : Int32)) = (1 : Int32))]
  show OwnR _ _ _ _ _ _ _ (T1.setTop (mkF m 70 #[.val (.ref a1), .val (.ref a2), .val (.ref a3), .val .null, .val (.int (1 : Int32))] []))
  refine OwnR.of (fun _ hr => XS.goto X1.here hx rfl (pc0 := 70) (pc' := 31) rfl (hb hby d3_70) (by decide) (by decide) hr) ?_
  show OwnR _ _ _ _ _ _ _ (T1.setTop (mkF m 31 #[.val (.ref a1), .val (.ref a2), .val (.ref a3), .val .null, .val (.int (1 : Int32))] []))
  refine OwnR.of (fun _ hr => XS.iload X1.here hx rfl (hb hby d3_31) rfl hr) ?_
  show OwnR _ _ _ _ _ _ _ (T1.setTop (mkF m 33 #[.val (.ref a1), .val (.ref a2), .val (.ref a3), .val .null, .val (.int (1 : Int32))] [(.int (1 : Int32))]))
  refine OwnR.of (fun _ hr => XS.aloadN X1.here hx rfl (hb hby d3_33) rfl rfl hr) ?_
  show OwnR _ _ _ _ _ _ _ (T1.setTop (mkF m 34 #[.val (.ref a1), .val (.ref a2), .val (.ref a3), .val .null, .val (.int (1 : Int32))] [(.ref a2), (.int (1 : Int32))]))
  obtain ⟨cl6, Ar6, -, S6, N6, -, -⟩ := id V_a2
  refine OwnR.of (X1.arraylength hx (by rw [e1]; exact Ar6.1) (State.isArrayOf_alike hZ.alike Ar6.2.1) (g := (mkF m 34 #[.val (.ref a1), .val (.ref a2), .val (.ref a3), .val .null, .val (.int (1 : Int32))] [(.ref a2), (.int (1 : Int32))])) rfl rfl (hb hby d3_34)) ?_
  show OwnR _ _ _ _ _ _ _ (T1.setTop (mkF m 35 #[.val (.ref a1), .val (.ref a2), .val (.ref a3), .val .null, .val (.int (1 : Int32))] [(.int cl6.slots.size.toInt32), (.int (1 : Int32))]))
  rw [len_of S6 N6]
  show OwnR _ _ _ _ _ _ _ (T1.setTop (mkF m 35 #[.val (.ref a1), .val (.ref a2), .val (.ref a3), .val .null, .val (.int (1 : Int32))] [(.int (3 : Int32)), (.int (1 : Int32))]))
  refine OwnR.of (fun _ hr => XS.icmpNo X1.here hx rfl (hb hby d3_35) rfl (tlt (by decide : (1 : Int32) < (3 : Int32))).2.1 hr) ?_
  show OwnR _ _ _ _ _ _ _ (T1.setTop (mkF m 38 #[.val (.ref a1), .val (.ref a2), .val (.ref a3), .val .null, .val (.int (1 : Int32))] []))
  refine OwnR.of (fun _ hr => XS.aloadN X1.here hx rfl (hb hby d3_38) rfl rfl hr) ?_
  show OwnR _ _ _ _ _ _ _ (T1.setTop (mkF m 39 #[.val (.ref a1), .val (.ref a2), .val (.ref a3), .val .null, .val (.int (1 : Int32))] [(.ref a2)]))
  refine OwnR.of (fun _ hr => XS.iload X1.here hx rfl (hb hby d3_39) rfl hr) ?_
  show OwnR _ _ _ _ _ _ _ (T1.setTop (mkF m 41 #[.val (.ref a1), .val (.ref a2), .val (.ref a3), .val .null, .val (.int (1 : Int32))] [(.int (1 : Int32)), (.ref a2)]))
  obtain ⟨cl7, Ar7, -, S7, N7, H7, G7⟩ := id V_a2
  have hin7 : ¬ ((1 : Int32) < 0 ∨ cl7.slots.size ≤ ((1 : Int32)).toNatClampNeg) := (inb_of S7 ⟨by decide, by decide⟩)
  refine OwnR.of (X1.iaload hx (j := (1 : Int32)) (v := (.int x1)) (by rw [e1]; exact Ar7.1) (State.isArrayOf_alike hZ.alike Ar7.2.1) Ar7.2.2 hin7 (Has.at H7 hin7 rfl) (g := (mkF m 41 #[.val (.ref a1), .val (.ref a2), .val (.ref a3), .val .null, .val (.int (1 : Int32))] [(.int (1 : Int32)), (.ref a2)])) rfl rfl (hb hby d3_41)) ?_
  show OwnR _ _ _ _ _ _ _ (T1.setTop (mkF m 42 #[.val (.ref a1), .val (.ref a2), .val (.ref a3), .val .null, .val (.int (1 : Int32))] [(.int x1)]))
  refine OwnR.of (fun _ hr => XS.iconst X1.here hx rfl (hb hby d3_42) hr) ?_
  show OwnR _ _ _ _ _ _ _ (T1.setTop (mkF m 43 #[.val (.ref a1), .val (.ref a2), .val (.ref a3), .val .null, .val (.int (1 : Int32))] [(.int (1 : Int32)), (.int x1)]))
  refine OwnR.of (fun _ hr => XS.icmpYes X1.here hx rfl (pc0 := 43) (pc' := 67) rfl (hb hby d3_43) rfl (flt hx1).2.1 (by decide) (by decide) hr) ?_
  show OwnR _ _ _ _ _ _ _ (T1.setTop (mkF m 67 #[.val (.ref a1), .val (.ref a2), .val (.ref a3), .val .null, .val (.int (1 : Int32))] []))
  refine OwnR.of (fun _ hr => XS.iinc X1.here hx rfl (hb hby d3_67) rfl (l' := #[.val (.ref a1), .val (.ref a2), .val (.ref a3), .val .null, .val (.int ((1 : Int32) + (1 : Int32)))]) rfl hr) ?_
  show OwnR _ _ _ _ _ _ _ (T1.setTop (mkF m 70 #[.val (.ref a1), .val (.ref a2), .val (.ref a3), .val .null, .val (.int ((1 : Int32) + (1 : Int32)))] []))
  rw [(by decide : ((1 : Int32) + (1 : Int32)) = (2 : Int32))]
  show OwnR _ _ _ _ _ _ _ (T1.setTop (mkF m 70 #[.val (.ref a1), .val (.ref a2), .val (.ref a3), .val .null, .val (.int (2 : Int32))] []))
  refine OwnR.of (fun _ hr => XS.goto X1.here hx rfl (pc0 := 70) (pc' := 31) rfl (hb hby d3_70) (by decide) (by decide) hr) ?_
  show OwnR _ _ _ _ _ _ _ (T1.setTop (mkF m 31 #[.val (.ref a1), .val (.ref a2), .val (.ref a3), .val .null, .val (.int (2 : Int32))] []))
  refine OwnR.of (fun _ hr => XS.iload X1.here hx rfl (hb hby d3_31) rfl hr) ?_
  show OwnR _ _ _ _ _ _ _ (T1.setTop (mkF m 33 #[.val (.ref a1), .val (.ref a2), .val (.ref a3), .val .null, .val (.int (2 : Int32))] [(.int (2 : Int32))]))
  refine OwnR.of (fun _ hr => XS.aloadN X1.here hx rfl (hb hby d3_33) rfl rfl hr) ?_
  show OwnR _ _ _ _ _ _ _ (T1.setTop (mkF m 34 #[.val (.ref a1), .val (.ref a2), .val (.ref a3), .val .null, .val (.int (2 : Int32))] [(.ref a2), (.int (2 : Int32))]))
  obtain ⟨cl8, Ar8, -, S8, N8, -, -⟩ := id V_a2
  refine OwnR.of (X1.arraylength hx (by rw [e1]; exact Ar8.1) (State.isArrayOf_alike hZ.alike Ar8.2.1) (g := (mkF m 34 #[.val (.ref a1), .val (.ref a2), .val (.ref a3), .val .null, .val (.int (2 : Int32))] [(.ref a2), (.int (2 : Int32))])) rfl rfl (hb hby d3_34)) ?_
  show OwnR _ _ _ _ _ _ _ (T1.setTop (mkF m 35 #[.val (.ref a1), .val (.ref a2), .val (.ref a3), .val .null, .val (.int (2 : Int32))] [(.int cl8.slots.size.toInt32), (.int (2 : Int32))]))
  rw [len_of S8 N8]
  show OwnR _ _ _ _ _ _ _ (T1.setTop (mkF m 35 #[.val (.ref a1), .val (.ref a2), .val (.ref a3), .val .null, .val (.int (2 : Int32))] [(.int (3 : Int32)), (.int (2 : Int32))]))
  refine OwnR.of (fun _ hr => XS.icmpNo X1.here hx rfl (hb hby d3_35) rfl (tlt (by decide : (2 : Int32) < (3 : Int32))).2.1 hr) ?_
  show OwnR _ _ _ _ _ _ _ (T1.setTop (mkF m 38 #[.val (.ref a1), .val (.ref a2), .val (.ref a3), .val .null, .val (.int (2 : Int32))] []))
  refine OwnR.of (fun _ hr => XS.aloadN X1.here hx rfl (hb hby d3_38) rfl rfl hr) ?_
  show OwnR _ _ _ _ _ _ _ (T1.setTop (mkF m 39 #[.val (.ref a1), .val (.ref a2), .val (.ref a3), .val .null, .val (.int (2 : Int32))] [(.ref a2)]))
  refine OwnR.of (fun _ hr => XS.iload X1.here hx rfl (hb hby d3_39) rfl hr) ?_
  show OwnR _ _ _ _ _ _ _ (T1.setTop (mkF m 41 #[.val (.ref a1), .val (.ref a2), .val (.ref a3), .val .null, .val (.int (2 : Int32))] [(.int (2 : Int32)), (.ref a2)]))
  obtain ⟨cl9, Ar9, -, S9, N9, H9, G9⟩ := id V_a2
  have hin9 : ¬ ((2 : Int32) < 0 ∨ cl9.slots.size ≤ ((2 : Int32)).toNatClampNeg) := (inb_of S9 ⟨by decide, by decide⟩)
  refine OwnR.of (X1.iaload hx (j := (2 : Int32)) (v := (.int x2)) (by rw [e1]; exact Ar9.1) (State.isArrayOf_alike hZ.alike Ar9.2.1) Ar9.2.2 hin9 (Has.at H9 hin9 rfl) (g := (mkF m 41 #[.val (.ref a1), .val (.ref a2), .val (.ref a3), .val .null, .val (.int (2 : Int32))] [(.int (2 : Int32)), (.ref a2)])) rfl rfl (hb hby d3_41)) ?_
  show OwnR _ _ _ _ _ _ _ (T1.setTop (mkF m 42 #[.val (.ref a1), .val (.ref a2), .val (.ref a3), .val .null, .val (.int (2 : Int32))] [(.int x2)]))
  refine OwnR.of (fun _ hr => XS.iconst X1.here hx rfl (hb hby d3_42) hr) ?_
  show OwnR _ _ _ _ _ _ _ (T1.setTop (mkF m 43 #[.val (.ref a1), .val (.ref a2), .val (.ref a3), .val .null, .val (.int (2 : Int32))] [(.int (1 : Int32)), (.int x2)]))
  refine OwnR.of (fun _ hr => XS.icmpYes X1.here hx rfl (pc0 := 43) (pc' := 67) rfl (hb hby d3_43) rfl (flt hx2).2.1 (by decide) (by decide) hr) ?_
  show OwnR _ _ _ _ _ _ _ (T1.setTop (mkF m 67 #[.val (.ref a1), .val (.ref a2), .val (.ref a3), .val .null, .val (.int (2 : Int32))] []))
  refine OwnR.of (fun _ hr => XS.iinc X1.here hx rfl (hb hby d3_67) rfl (l' := #[.val (.ref a1), .val (.ref a2), .val (.ref a3), .val .null, .val (.int ((2 : Int32) + (1 : Int32)))]) rfl hr) ?_
  show OwnR _ _ _ _ _ _ _ (T1.setTop (mkF m 70 #[.val (.ref a1), .val (.ref a2), .val (.ref a3), .val .null, .val (.int ((2 : Int32) + (1 : Int32)))] []))
  rw [(by decide : ((2 : Int32) + (1 : Int32)) = (3 : Int32))]
  show OwnR _ _ _ _ _ _ _ (T1.setTop (mkF m 70 #[.val (.ref a1), .val (.ref a2), .val (.ref a3), .val .null, .val (.int (3 : Int32))] []))
  refine OwnR.of (fun _ hr => XS.goto X1.here hx rfl (pc0 := 70) (pc' := 31) rfl (hb hby d3_70) (by decide) (by decide) hr) ?_
  show OwnR _ _ _ _ _ _ _ (T1.setTop (mkF m 31 #[.val (.ref a1), .val (.ref a2), .val (.ref a3), .val .null, .val (.int (3 : Int32))] []))
  refine OwnR.of (fun _ hr => XS.iload X1.here hx rfl (hb hby d3_31) rfl hr) ?_
  show OwnR _ _ _ _ _ _ _ (T1.setTop (mkF m 33 #[.val (.ref a1), .val (.ref a2), .val (.ref a3), .val .null, .val (.int (3 : Int32))] [(.int (3 : Int32))]))
  refine OwnR.of (fun _ hr => XS.aloadN X1.here hx rfl (hb hby d3_33) rfl rfl hr) ?_
  show OwnR _ _ _ _ _ _ _ (T1.setTop (mkF m 34 #[.val (.ref a1), .val (.ref a2), .val (.ref a3), .val .null, .val (.int (3 : Int32))] [(.ref a2), (.int (3 : Int32))]))
  obtain ⟨cl10, Ar10, -, S10, N10, -, -⟩ := id V_a2
  refine OwnR.of (X1.arraylength hx (by rw [e1]; exact Ar10.1) (State.isArrayOf_alike hZ.alike Ar10.2.1) (g := (mkF m 34 #[.val (.ref a1), .val (.ref a2), .val (.ref a3), .val .null, .val (.int (3 : Int32))] [(.ref a2), (.int (3 : Int32))])) rfl rfl (hb hby d3_34)) ?_
  show OwnR _ _ _ _ _ _ _ (T1.setTop (mkF m 35 #[.val (.ref a1), .val (.ref a2), .val (.ref a3), .val .null, .val (.int (3 : Int32))] [(.int cl10.slots.size.toInt32), (.int (3 : Int32))]))
  rw [len_of S10 N10]
  show OwnR _ _ _ _ _ _ _ (T1.setTop (mkF m 35 #[.val (.ref a1), .val (.ref a2), .val (.ref a3), .val .null, .val (.int (3 : Int32))] [(.int (3 : Int32)), (.int (3 : Int32))]))
  refine OwnR.of (fun _ hr => XS.icmpYes X1.here hx rfl (pc0 := 35) (pc' := 73) rfl (hb hby d3_35) rfl (flt (by decide : ¬ ((3 : Int32) < (3 : Int32)))).2.1 (by decide) (by decide) hr) ?_
  show OwnR _ _ _ _ _ _ _ (T1.setTop (mkF m 73 #[.val (.ref a1), .val (.ref a2), .val (.ref a3), .val .null, .val (.int (3 : Int32))] []))
  refine OwnR.of (fun _ hr => XS.aloadN X1.here hx rfl (hb hby d3_73) rfl rfl hr) ?_
  show OwnR _ _ _ _ _ _ _ (T1.setTop (mkF m 74 #[.val (.ref a1), .val (.ref a2), .val (.ref a3), .val .null, .val (.int (3 : Int32))] [(.ref a1)]))
  refine OwnR.of (fun _ hr => XS.aloadN X1.here hx rfl (hb hby d3_74) rfl rfl hr) ?_
  show OwnR _ _ _ _ _ _ _ (T1.setTop (mkF m 75 #[.val (.ref a1), .val (.ref a2), .val (.ref a3), .val .null, .val (.int (3 : Int32))] [(.ref a2), (.ref a1)]))
  obtain ⟨T11, h11, X11, e11, E11, V11, AE11, st11⟩ := cloneH X1 hx hZ hown (hw _ (List.mem_of_getElem? (i := 20) rfl)) (hw _ (List.mem_of_getElem? (i := 21) rfl)) (hw _ (List.mem_of_getElem? (i := 25) rfl)) (hw _ (List.mem_of_getElem? (i := 23) rfl)) (hw _ (List.mem_of_getElem? (i := 24) rfl)) (hw _ (List.mem_of_getElem? (i := 26) rfl)) e1 (Arv.arh V_a2) E_a2 (g := (mkF m 75 #[.val (.ref a1), .val (.ref a2), .val (.ref a3), .val .null, .val (.int (3 : Int32))] [(.ref a2), (.ref a1)])) rfl (by rw [hml]; rfl) rfl (hb hby d3_75) (by decide) (W := 1) (by show 2 * 0 + _ ≤ _; exact Nat.le_of_eq rfl) (by decide) (cap := 3) (by decide) (by decide) (by decide)
  obtain ⟨b11, g11⟩ : ∃ z, z = h0.size := ⟨_, rfl⟩
  rw [← g11] at V11 AE11 st11
  refine OwnR.of (st11) ?_
  have gn_b11 : n0 ≤ b11 := Nat.le_trans (Nat.le_trans Z0 (Keep.refl h0 [a1]).1) (Nat.le_of_eq g11.symm)
  have sz_b11 : h0.size ≤ b11 := Nat.le_trans (Keep.refl h0 [a1]).1 (Nat.le_of_eq g11.symm)
  have K11 : Keep h0 h11 [a1] := Keep.ext (Keep.refl h0 [a1]) E11
  have V11 : Arv Z h11 b11 k2 .int (3 : Int32) [(.int x0), (.int x1), (.int x2)] (.int (0 : Int32)) := V11
  show OwnR _ _ _ _ _ _ _ (T11.setTop (mkF m 78 #[.val (.ref a1), .val (.ref a2), .val (.ref a3), .val .null, .val (.int (3 : Int32))] [(.ref b11), (.ref a1)]))
  obtain ⟨T12, X12, e12, st12⟩ := castY X11 hx hZ hown (hw _ (List.mem_of_getElem? (i := 27) rfl)) e11 (Ins.self AE11) (g := (mkF m 78 #[.val (.ref a1), .val (.ref a2), .val (.ref a3), .val .null, .val (.int (3 : Int32))] [(.ref b11), (.ref a1)])) rfl rfl (hb hby d3_78)
  refine OwnR.of (st12) ?_
  show OwnR _ _ _ _ _ _ _ (T12.setTop (mkF m 81 #[.val (.ref a1), .val (.ref a2), .val (.ref a3), .val .null, .val (.int (3 : Int32))] [(.ref b11), (.ref a1)]))
  obtain ⟨T13, h13, X13, e13, W13, st13⟩ := putF X12 hx hZ hown (host := "") (Or.inl (hw _ (List.mem_of_getElem? (i := 29) rfl))) Via.refl e12 (Fld.ext E11 F_branches_a1) (Exa.keep E_a1 K11) (Or.inr ⟨(hw _ (List.mem_of_getElem? (i := 30) rfl)), rfl, hnm⟩) (hw _ (List.mem_of_getElem? (i := 12) rfl)) (ty := (.array .int)) (by decide) rfl rfl (g := (mkF m 81 #[.val (.ref a1), .val (.ref a2), .val (.ref a3), .val .null, .val (.int (3 : Int32))] [(.ref b11), (.ref a1)])) rfl rfl (hb hby d3_81)
  refine OwnR.of (st13) ?_
  have F13 := Fld.same W13 (Fld.ext E11 F_branches_a1)
  have K13 : Keep h0 h13 [a1] := Keep.wr K11 W13 (Or.inl (List.mem_of_getElem? (i := 0) rfl))
  have N13 := Fr.snoc X13 N0 g_a1
  show OwnR _ _ _ _ _ _ _ (T13.setTop (mkF m 84 #[.val (.ref a1), .val (.ref a2), .val (.ref a3), .val .null, .val (.int (3 : Int32))] []))
  refine OwnR.of (fun _ hr => XS.aloadN X13.here hx rfl (hb hby d3_84) rfl rfl hr) ?_
  show OwnR _ _ _ _ _ _ _ (T13.setTop (mkF m 85 #[.val (.ref a1), .val (.ref a2), .val (.ref a3), .val .null, .val (.int (3 : Int32))] [(.ref a1)]))
  refine OwnR.of (fun _ hr => XS.aloadN X13.here hx rfl (hb hby d3_85) rfl rfl hr) ?_
  show OwnR _ _ _ _ _ _ _ (T13.setTop (mkF m 86 #[.val (.ref a1), .val (.ref a2), .val (.ref a3), .val .null, .val (.int (3 : Int32))] [(.ref a3), (.ref a1)]))
  obtain ⟨T14, h14, X14, e14, E14, V14, AE14, st14⟩ := cloneH X13 hx hZ hown (hw _ (List.mem_of_getElem? (i := 31) rfl)) (hw _ (List.mem_of_getElem? (i := 32) rfl)) (hw _ (List.mem_of_getElem? (i := 25) rfl)) (hw _ (List.mem_of_getElem? (i := 23) rfl)) (hw _ (List.mem_of_getElem? (i := 33) rfl)) (hw _ (List.mem_of_getElem? (i := 34) rfl)) e13 (Arv.arh (Arv.keep V_a3 K13 (ninS (Ne.symm ne_13) nin0))) (Exa.keep E_a3 K13) (g := (mkF m 86 #[.val (.ref a1), .val (.ref a2), .val (.ref a3), .val .null, .val (.int (3 : Int32))] [(.ref a3), (.ref a1)])) rfl (by rw [hml]; rfl) rfl (hb hby d3_86) (by decide) (W := 1) (by show 2 * 0 + _ ≤ _; exact Nat.le_of_eq rfl) (by decide) (cap := 3) (by decide) (by decide) (by decide)
  obtain ⟨b14, g14⟩ : ∃ z, z = h13.size := ⟨_, rfl⟩
  rw [← g14] at V14 AE14 st14
  refine OwnR.of (st14) ?_
  have gn_b14 : n0 ≤ b14 := Nat.le_trans (Nat.le_trans Z0 K13.1) (Nat.le_of_eq g14.symm)
  have sz_b14 : h0.size ≤ b14 := Nat.le_trans K13.1 (Nat.le_of_eq g14.symm)
  have K14 : Keep h0 h14 [a1] := Keep.ext K13 E14
  have V14 : Arv Z h14 b14 k3 .double (3 : Int32) [(defaultValue .double), (defaultValue .double), (defaultValue .double)] (defaultValue .double) := V14
  show OwnR _ _ _ _ _ _ _ (T14.setTop (mkF m 89 #[.val (.ref a1), .val (.ref a2), .val (.ref a3), .val .null, .val (.int (3 : Int32))] [(.ref b14), (.ref a1)]))
  obtain ⟨T15, X15, e15, st15⟩ := castY X14 hx hZ hown (hw _ (List.mem_of_getElem? (i := 35) rfl)) e14 (Ins.self AE14) (g := (mkF m 89 #[.val (.ref a1), .val (.ref a2), .val (.ref a3), .val .null, .val (.int (3 : Int32))] [(.ref b14), (.ref a1)])) rfl rfl (hb hby d3_89)
  refine OwnR.of (st15) ?_
  show OwnR _ _ _ _ _ _ _ (T15.setTop (mkF m 92 #[.val (.ref a1), .val (.ref a2), .val (.ref a3), .val .null, .val (.int (3 : Int32))] [(.ref b14), (.ref a1)]))
  obtain ⟨T16, h16, X16, e16, W16, st16⟩ := putF X15 hx hZ hown (host := "") (Or.inl (hw _ (List.mem_of_getElem? (i := 37) rfl))) Via.refl e15 (Fld.ext E14 (Fld.other W13 (Fld.ext E11 F_lengths_a1) (Or.inr (slot_ne (Or.inr (hw _ (List.mem_of_getElem? (i := 38) rfl))) (Or.inr (hw _ (List.mem_of_getElem? (i := 30) rfl))) (by decide) (t := (.array .double)) (t' := (.array .int)) (by decide) (by decide))))) (Exa.keep E_a1 K14) (Or.inr ⟨(hw _ (List.mem_of_getElem? (i := 38) rfl)), rfl, hnm⟩) (hw _ (List.mem_of_getElem? (i := 12) rfl)) (ty := (.array .double)) (by decide) rfl rfl (g := (mkF m 92 #[.val (.ref a1), .val (.ref a2), .val (.ref a3), .val .null, .val (.int (3 : Int32))] [(.ref b14), (.ref a1)])) rfl rfl (hb hby d3_92)
  refine OwnR.of (st16) ?_
  have F16 := Fld.same W16 (Fld.ext E14 (Fld.other W13 (Fld.ext E11 F_lengths_a1) (Or.inr (slot_ne (Or.inr (hw _ (List.mem_of_getElem? (i := 38) rfl))) (Or.inr (hw _ (List.mem_of_getElem? (i := 30) rfl))) (by decide) (t := (.array .double)) (t' := (.array .int)) (by decide) (by decide)))))
  have K16 : Keep h0 h16 [a1] := Keep.wr K14 W16 (Or.inl (List.mem_of_getElem? (i := 0) rfl))
  have N16 := Fr.snoc X16 N13 g_a1
  show OwnR _ _ _ _ _ _ _ (T16.setTop (mkF m 95 #[.val (.ref a1), .val (.ref a2), .val (.ref a3), .val .null, .val (.int (3 : Int32))] []))
  refine OwnR.of (fun _ hr => XS.aloadN X16.here hx rfl (hb hby d3_95) rfl rfl hr) ?_
  show OwnR _ _ _ _ _ _ _ (T16.setTop (mkF m 96 #[.val (.ref a1), .val (.ref a2), .val (.ref a3), .val .null, .val (.int (3 : Int32))] [(.ref a1)]))
  refine OwnR.of (fun _ hr => XS.aloadN X16.here hx rfl (hb hby d3_96) rfl rfl hr) ?_
  show OwnR _ _ _ _ _ _ _ (T16.setTop (mkF m 97 #[.val (.ref a1), .val (.ref a2), .val (.ref a3), .val .null, .val (.int (3 : Int32))] [.null, (.ref a1)]))
  obtain ⟨T17, h17, X17, e17, W17, st17⟩ := putF X16 hx hZ hown (host := "") (Or.inl (hw _ (List.mem_of_getElem? (i := 39) rfl))) Via.refl e16 (Fld.other W16 (Fld.ext E14 (Fld.other W13 (Fld.ext E11 F_unit_a1) (Or.inr (slot_ne (Or.inr (hw _ (List.mem_of_getElem? (i := 40) rfl))) (Or.inr (hw _ (List.mem_of_getElem? (i := 30) rfl))) (by decide) (t := (.object "java/util/Optional")) (t' := (.array .int)) (by decide) (by decide))))) (Or.inr (slot_ne (Or.inr (hw _ (List.mem_of_getElem? (i := 40) rfl))) (Or.inr (hw _ (List.mem_of_getElem? (i := 38) rfl))) (by decide) (t := (.object "java/util/Optional")) (t' := (.array .double)) (by decide) (by decide)))) (Exa.keep E_a1 K16) (Or.inr ⟨(hw _ (List.mem_of_getElem? (i := 40) rfl)), rfl, hnm⟩) (hw _ (List.mem_of_getElem? (i := 12) rfl)) (ty := (.object "java/util/Optional")) (by decide) rfl rfl (g := (mkF m 97 #[.val (.ref a1), .val (.ref a2), .val (.ref a3), .val .null, .val (.int (3 : Int32))] [.null, (.ref a1)])) rfl rfl (hb hby d3_97)
  refine OwnR.of (st17) ?_
  have F17 := Fld.same W17 (Fld.other W16 (Fld.ext E14 (Fld.other W13 (Fld.ext E11 F_unit_a1) (Or.inr (slot_ne (Or.inr (hw _ (List.mem_of_getElem? (i := 40) rfl))) (Or.inr (hw _ (List.mem_of_getElem? (i := 30) rfl))) (by decide) (t := (.object "java/util/Optional")) (t' := (.array .int)) (by decide) (by decide))))) (Or.inr (slot_ne (Or.inr (hw _ (List.mem_of_getElem? (i := 40) rfl))) (Or.inr (hw _ (List.mem_of_getElem? (i := 38) rfl))) (by decide) (t := (.object "java/util/Optional")) (t' := (.array .double)) (by decide) (by decide))))
  have K17 : Keep h0 h17 [a1] := Keep.wr K16 W17 (Or.inl (List.mem_of_getElem? (i := 0) rfl))
  have N17 := Fr.snoc X17 N16 g_a1
  show OwnR _ _ _ _ _ _ _ (T17.setTop (mkF m 100 #[.val (.ref a1), .val (.ref a2), .val (.ref a3), .val .null, .val (.int (3 : Int32))] []))
  refine own_leafV X17 hx hlk Bd.returns (hb hby d3_100) (by decide) (by decide) ?_
  show Q3_3 Z a1 k2 x0 x1 x2 h0 n0 _ T17.heap _
  rw [show T17.heap = h17 from e17]
  refine ⟨b11, rfl, N17, ⟨K17, (Exa.keep E_a1 K17), (Fld.other W17 (Fld.other W16 (Fld.ext E14 F13) (Or.inr (slot_ne (Or.inr (hw _ (List.mem_of_getElem? (i := 30) rfl))) (Or.inr (hw _ (List.mem_of_getElem? (i := 38) rfl))) (by decide) (t := (.array .int)) (t' := (.array .double)) (by decide) (by decide)))) (Or.inr (slot_ne (Or.inr (hw _ (List.mem_of_getElem? (i := 30) rfl))) (Or.inr (hw _ (List.mem_of_getElem? (i := 40) rfl))) (by decide) (t := (.array .int)) (t' := (.object "java/util/Optional")) (by decide) (by decide)))), (Arv.other (Arv.other (Arv.ext (Arv.other V11 W13 (Ne.symm (Nat.ne_of_lt (Nat.lt_of_lt_of_le E_a1.lt (Nat.le_of_eq g11.symm))))) E14) W16 (Ne.symm (Nat.ne_of_lt (Nat.lt_of_lt_of_le E_a1.lt (Nat.le_of_eq g11.symm))))) W17 (Ne.symm (Nat.ne_of_lt (Nat.lt_of_lt_of_le E_a1.lt (Nat.le_of_eq g11.symm)))))⟩⟩
theorem ef_rm5_3 (m : MethodId) (x0 : Addr) : entryFrame m #[(.ref x0)] 7 = mkF m 0 #[.val (.ref x0), .unset, .unset, .unset, .unset, .unset, .unset] [] := by first | (simp [entryFrame, mkF, argsToLocals, Value.category]; done) | rfl
def Q5_3 (Z : State) (x0 : Int32) (x1 : Int32) (x2 : Int32) (h0 : Heap) (n0 : Nat) (v : Option Value) (h : Heap) (L : List Loc) : Prop := v = some (.long ((((0 : Int64) + (x0.toInt64)) + (x1.toInt64)) + (x2.toInt64))) ∧ Fr n0 L ∧ h = h0
set_option maxRecDepth 65536 in
set_option maxHeartbeats 40000000 in
theorem rm5_3 (l : Launch) (Z : State) (a0 : Array Value) (hw : ∀ d ∈ tables_1, d.before a0 Z = true) (ws : List Jvm.Cond) (a1 : Addr) (a2 : Addr) (k2 : ClassId) (x0 x1 x2 : Int32) (h0 : Heap) (n0 : Nat) (Z0 : n0 ≤ h0.size) (E_a1 : Exa Z h0 a1 "com/example/ramification/ramification/model/StrahlerOrders") (F_branches_a1 : Fld Z h0 a1 "com/example/ramification/ramification/model/StrahlerOrders" "branches" "[I" (.ref a2)) (V_a2 : Arv Z h0 a2 k2 .int (3 : Int32) [(.int x0), (.int x1), (.int x2)] (.int (0 : Int32))) :
    MetFree l (⟨"com/example/ramification/ramification/model/StrahlerOrders", "getTotalBranches", "()J"⟩ : MethodName) (head1 (Jvm.Cond.code (⟨"com/example/ramification/ramification/model/StrahlerOrders", "getTotalBranches", "()J"⟩ : MethodName) prog_88_method_7_code 7 (some .long) :: ws) ({ frames := 0, cells := 0, slots := 0, locals := 0 } : Room)) (fun a U => a = #[(.ref a1)] ∧ Z.Warmed39 U.vm ∧ U.heap = h0) (fun _ _ _ _ _ => True) (fun _ U o U' => ∃ v L, o = .returned v ∧ Q5_3 Z x0 x1 x2 h0 n0 v U'.heap L ∧ FrameEnd U o U' L ({ frames := 0, cells := 0, slots := 0, locals := 0 } : Room).cells ({ frames := 0, cells := 0, slots := 0, locals := 0 } : Room).slots) := by
  refine MetFree.of_bodySF (plainFor_of_name pn_com_example_ramification_ramification_model_StrahlerOrders) hisR ?_
  intro p e s m args below meth c s₁ Bd hml0 hP hK
  obtain ⟨rfl, hZ, hh⟩ := hP
  have hx := Bd.exec
  have hby := Bd.bytes
  have hlk := BodyLoose.notSynchronized Bd
  have hml : c.maxLocals = 7 := hml0
  have hown : s.vm.findClass "com/example/ramification/ramification/model/StrahlerOrders" = some m.cls := findClass_of_methodNamed Bd.named
  have hnm := (name_of_methodNamed Bd.named Bd.method).1
  have X0 : Stand p l e ({ frames := 0, cells := 0, slots := 0, locals := 0 } : Room) s m #[(.ref a1)] below meth c s₁ [] 0 0 := Stand.of_body Bd
  have e0 : s₁.heap = h0 := by rw [← hh, Bd.state]; rfl
  have N0 := Fr.nil n0
  refine OwnR.of (s := s) (Q := Q5_3 Z x0 x1 x2 h0 n0) (fun t k => castTop (ef_rm5_3 m a1) k) ?_
  show OwnR _ _ _ _ _ _ _ (s₁.setTop (mkF m 0 #[.val (.ref a1), .unset, .unset, .unset, .unset, .unset, .unset] []))
  refine OwnR.of (fun _ hr => XS.lconst X0.here hx rfl (hb hby d5_0) hr) ?_
  show OwnR _ _ _ _ _ _ _ (s₁.setTop (mkF m 1 #[.val (.ref a1), .unset, .unset, .unset, .unset, .unset, .unset] [(.long (0 : Int64))]))
  refine OwnR.of (fun _ hr => XS.lstoreN X0.here hx rfl (hb hby d5_1) rfl (l' := #[.val (.ref a1), .val (.long (0 : Int64)), .second, .unset, .unset, .unset, .unset]) rfl hr) ?_
  show OwnR _ _ _ _ _ _ _ (s₁.setTop (mkF m 2 #[.val (.ref a1), .val (.long (0 : Int64)), .second, .unset, .unset, .unset, .unset] []))
  refine OwnR.of (fun _ hr => XS.aloadN X0.here hx rfl (hb hby d5_2) rfl rfl hr) ?_
  show OwnR _ _ _ _ _ _ _ (s₁.setTop (mkF m 3 #[.val (.ref a1), .val (.long (0 : Int64)), .second, .unset, .unset, .unset, .unset] [(.ref a1)]))
  obtain ⟨T1, X1, e1, st1⟩ := getF X0 hx hZ hown (host := "") (Or.inl (hw _ (List.mem_of_getElem? (i := 29) rfl))) Via.refl e0 F_branches_a1 (g := (mkF m 3 #[.val (.ref a1), .val (.long (0 : Int64)), .second, .unset, .unset, .unset, .unset] [(.ref a1)])) rfl rfl (hb hby d5_3)
  refine OwnR.of (st1) ?_
  show OwnR _ _ _ _ _ _ _ (T1.setTop (mkF m 6 #[.val (.ref a1), .val (.long (0 : Int64)), .second, .unset, .unset, .unset, .unset] [(.ref a2)]))
  refine OwnR.of (fun _ hr => XS.astoreN X1.here hx rfl (hb hby d5_6) rfl rfl (l' := #[.val (.ref a1), .val (.long (0 : Int64)), .second, .val (.ref a2), .unset, .unset, .unset]) rfl hr) ?_
  show OwnR _ _ _ _ _ _ _ (T1.setTop (mkF m 7 #[.val (.ref a1), .val (.long (0 : Int64)), .second, .val (.ref a2), .unset, .unset, .unset] []))
  refine OwnR.of (fun _ hr => XS.aloadN X1.here hx rfl (hb hby d5_7) rfl rfl hr) ?_
  show OwnR _ _ _ _ _ _ _ (T1.setTop (mkF m 8 #[.val (.ref a1), .val (.long (0 : Int64)), .second, .val (.ref a2), .unset, .unset, .unset] [(.ref a2)]))
  obtain ⟨cl2, Ar2, -, S2, N2, -, -⟩ := id V_a2
  refine OwnR.of (X1.arraylength hx (by rw [e1]; exact Ar2.1) (State.isArrayOf_alike hZ.alike Ar2.2.1) (g := (mkF m 8 #[.val (.ref a1), .val (.long (0 : Int64)), .second, .val (.ref a2), .unset, .unset, .unset] [(.ref a2)])) rfl rfl (hb hby d5_8)) ?_
  show OwnR _ _ _ _ _ _ _ (T1.setTop (mkF m 9 #[.val (.ref a1), .val (.long (0 : Int64)), .second, .val (.ref a2), .unset, .unset, .unset] [(.int cl2.slots.size.toInt32)]))
  rw [len_of S2 N2]
  show OwnR _ _ _ _ _ _ _ (T1.setTop (mkF m 9 #[.val (.ref a1), .val (.long (0 : Int64)), .second, .val (.ref a2), .unset, .unset, .unset] [(.int (3 : Int32))]))
  refine OwnR.of (fun _ hr => XS.istore X1.here hx rfl (hb hby d5_9) rfl (l' := #[.val (.ref a1), .val (.long (0 : Int64)), .second, .val (.ref a2), .val (.int (3 : Int32)), .unset, .unset]) rfl hr) ?_
  show OwnR _ _ _ _ _ _ _ (T1.setTop (mkF m 11 #[.val (.ref a1), .val (.long (0 : Int64)), .second, .val (.ref a2), .val (.int (3 : Int32)), .unset, .unset] []))
  refine OwnR.of (fun _ hr => XS.iconst X1.here hx rfl (hb hby d5_11) hr) ?_
  show OwnR _ _ _ _ _ _ _ (T1.setTop (mkF m 12 #[.val (.ref a1), .val (.long (0 : Int64)), .second, .val (.ref a2), .val (.int (3 : Int32)), .unset, .unset] [(.int (0 : Int32))]))
  refine OwnR.of (fun _ hr => XS.istore X1.here hx rfl (hb hby d5_12) rfl (l' := #[.val (.ref a1), .val (.long (0 : Int64)), .second, .val (.ref a2), .val (.int (3 : Int32)), .val (.int (0 : Int32)), .unset]) rfl hr) ?_
  show OwnR _ _ _ _ _ _ _ (T1.setTop (mkF m 14 #[.val (.ref a1), .val (.long (0 : Int64)), .second, .val (.ref a2), .val (.int (3 : Int32)), .val (.int (0 : Int32)), .unset] []))
  refine OwnR.of (fun _ hr => XS.iload X1.here hx rfl (hb hby d5_14) rfl hr) ?_
  show OwnR _ _ _ _ _ _ _ (T1.setTop (mkF m 16 #[.val (.ref a1), .val (.long (0 : Int64)), .second, .val (.ref a2), .val (.int (3 : Int32)), .val (.int (0 : Int32)), .unset] [(.int (0 : Int32))]))
  refine OwnR.of (fun _ hr => XS.iload X1.here hx rfl (hb hby d5_16) rfl hr) ?_
  show OwnR _ _ _ _ _ _ _ (T1.setTop (mkF m 18 #[.val (.ref a1), .val (.long (0 : Int64)), .second, .val (.ref a2), .val (.int (3 : Int32)), .val (.int (0 : Int32)), .unset] [(.int (3 : Int32)), (.int (0 : Int32))]))
  refine OwnR.of (fun _ hr => XS.icmpNo X1.here hx rfl (hb hby d5_18) rfl (tlt (by decide : (0 : Int32) < (3 : Int32))).2.1 hr) ?_
  show OwnR _ _ _ _ _ _ _ (T1.setTop (mkF m 21 #[.val (.ref a1), .val (.long (0 : Int64)), .second, .val (.ref a2), .val (.int (3 : Int32)), .val (.int (0 : Int32)), .unset] []))
  refine OwnR.of (fun _ hr => XS.aloadN X1.here hx rfl (hb hby d5_21) rfl rfl hr) ?_
  show OwnR _ _ _ _ _ _ _ (T1.setTop (mkF m 22 #[.val (.ref a1), .val (.long (0 : Int64)), .second, .val (.ref a2), .val (.int (3 : Int32)), .val (.int (0 : Int32)), .unset] [(.ref a2)]))
  refine OwnR.of (fun _ hr => XS.iload X1.here hx rfl (hb hby d5_22) rfl hr) ?_
  show OwnR _ _ _ _ _ _ _ (T1.setTop (mkF m 24 #[.val (.ref a1), .val (.long (0 : Int64)), .second, .val (.ref a2), .val (.int (3 : Int32)), .val (.int (0 : Int32)), .unset] [(.int (0 : Int32)), (.ref a2)]))
  obtain ⟨cl3, Ar3, -, S3, N3, H3, G3⟩ := id V_a2
  have hin3 : ¬ ((0 : Int32) < 0 ∨ cl3.slots.size ≤ ((0 : Int32)).toNatClampNeg) := (inb_of S3 ⟨by decide, by decide⟩)
  refine OwnR.of (X1.iaload hx (j := (0 : Int32)) (v := (.int x0)) (by rw [e1]; exact Ar3.1) (State.isArrayOf_alike hZ.alike Ar3.2.1) Ar3.2.2 hin3 (Has.at H3 hin3 rfl) (g := (mkF m 24 #[.val (.ref a1), .val (.long (0 : Int64)), .second, .val (.ref a2), .val (.int (3 : Int32)), .val (.int (0 : Int32)), .unset] [(.int (0 : Int32)), (.ref a2)])) rfl rfl (hb hby d5_24)) ?_
  show OwnR _ _ _ _ _ _ _ (T1.setTop (mkF m 25 #[.val (.ref a1), .val (.long (0 : Int64)), .second, .val (.ref a2), .val (.int (3 : Int32)), .val (.int (0 : Int32)), .unset] [(.int x0)]))
  refine OwnR.of (fun _ hr => XS.istore X1.here hx rfl (hb hby d5_25) rfl (l' := #[.val (.ref a1), .val (.long (0 : Int64)), .second, .val (.ref a2), .val (.int (3 : Int32)), .val (.int (0 : Int32)), .val (.int x0)]) rfl hr) ?_
  show OwnR _ _ _ _ _ _ _ (T1.setTop (mkF m 27 #[.val (.ref a1), .val (.long (0 : Int64)), .second, .val (.ref a2), .val (.int (3 : Int32)), .val (.int (0 : Int32)), .val (.int x0)] []))
  refine OwnR.of (fun _ hr => XS.lloadN X1.here hx rfl (hb hby d5_27) rfl hr) ?_
  show OwnR _ _ _ _ _ _ _ (T1.setTop (mkF m 28 #[.val (.ref a1), .val (.long (0 : Int64)), .second, .val (.ref a2), .val (.int (3 : Int32)), .val (.int (0 : Int32)), .val (.int x0)] [(.long (0 : Int64))]))
  refine OwnR.of (fun _ hr => XS.iload X1.here hx rfl (hb hby d5_28) rfl hr) ?_
  show OwnR _ _ _ _ _ _ _ (T1.setTop (mkF m 30 #[.val (.ref a1), .val (.long (0 : Int64)), .second, .val (.ref a2), .val (.int (3 : Int32)), .val (.int (0 : Int32)), .val (.int x0)] [(.int x0), (.long (0 : Int64))]))
  refine OwnR.of (fun _ hr => XS.i2l X1.here hx rfl (hb hby d5_30) rfl hr) ?_
  show OwnR _ _ _ _ _ _ _ (T1.setTop (mkF m 31 #[.val (.ref a1), .val (.long (0 : Int64)), .second, .val (.ref a2), .val (.int (3 : Int32)), .val (.int (0 : Int32)), .val (.int x0)] [(.long (x0.toInt64)), (.long (0 : Int64))]))
  refine OwnR.of (fun _ hr => XS.ladd X1.here hx rfl (hb hby d5_31) rfl hr) ?_
  show OwnR _ _ _ _ _ _ _ (T1.setTop (mkF m 32 #[.val (.ref a1), .val (.long (0 : Int64)), .second, .val (.ref a2), .val (.int (3 : Int32)), .val (.int (0 : Int32)), .val (.int x0)] [(.long ((0 : Int64) + (x0.toInt64)))]))
  refine OwnR.of (fun _ hr => XS.lstoreN X1.here hx rfl (hb hby d5_32) rfl (l' := #[.val (.ref a1), .val (.long ((0 : Int64) + (x0.toInt64))), .second, .val (.ref a2), .val (.int (3 : Int32)), .val (.int (0 : Int32)), .val (.int x0)]) rfl hr) ?_
  show OwnR _ _ _ _ _ _ _ (T1.setTop (mkF m 33 #[.val (.ref a1), .val (.long ((0 : Int64) + (x0.toInt64))), .second, .val (.ref a2), .val (.int (3 : Int32)), .val (.int (0 : Int32)), .val (.int x0)] []))
  refine OwnR.of (fun _ hr => XS.iinc X1.here hx rfl (hb hby d5_33) rfl (l' := #[.val (.ref a1), .val (.long ((0 : Int64) + (x0.toInt64))), .second, .val (.ref a2), .val (.int (3 : Int32)), .val (.int ((0 : Int32) + (1 : Int32))), .val (.int x0)]) rfl hr) ?_
  show OwnR _ _ _ _ _ _ _ (T1.setTop (mkF m 36 #[.val (.ref a1), .val (.long ((0 : Int64) + (x0.toInt64))), .second, .val (.ref a2), .val (.int (3 : Int32)), .val (.int ((0 : Int32) + (1 : Int32))), .val (.int x0)] []))
  rw [(by decide : ((0 : Int32) + (1 : Int32)) = (1 : Int32))]
  show OwnR _ _ _ _ _ _ _ (T1.setTop (mkF m 36 #[.val (.ref a1), .val (.long ((0 : Int64) + (x0.toInt64))), .second, .val (.ref a2), .val (.int (3 : Int32)), .val (.int (1 : Int32)), .val (.int x0)] []))
  refine OwnR.of (fun _ hr => XS.goto X1.here hx rfl (pc0 := 36) (pc' := 14) rfl (hb hby d5_36) (by decide) (by decide) hr) ?_
  show OwnR _ _ _ _ _ _ _ (T1.setTop (mkF m 14 #[.val (.ref a1), .val (.long ((0 : Int64) + (x0.toInt64))), .second, .val (.ref a2), .val (.int (3 : Int32)), .val (.int (1 : Int32)), .val (.int x0)] []))
  refine OwnR.of (fun _ hr => XS.iload X1.here hx rfl (hb hby d5_14) rfl hr) ?_
  show OwnR _ _ _ _ _ _ _ (T1.setTop (mkF m 16 #[.val (.ref a1), .val (.long ((0 : Int64) + (x0.toInt64))), .second, .val (.ref a2), .val (.int (3 : Int32)), .val (.int (1 : Int32)), .val (.int x0)] [(.int (1 : Int32))]))
  refine OwnR.of (fun _ hr => XS.iload X1.here hx rfl (hb hby d5_16) rfl hr) ?_
  show OwnR _ _ _ _ _ _ _ (T1.setTop (mkF m 18 #[.val (.ref a1), .val (.long ((0 : Int64) + (x0.toInt64))), .second, .val (.ref a2), .val (.int (3 : Int32)), .val (.int (1 : Int32)), .val (.int x0)] [(.int (3 : Int32)), (.int (1 : Int32))]))
  refine OwnR.of (fun _ hr => XS.icmpNo X1.here hx rfl (hb hby d5_18) rfl (tlt (by decide : (1 : Int32) < (3 : Int32))).2.1 hr) ?_
  show OwnR _ _ _ _ _ _ _ (T1.setTop (mkF m 21 #[.val (.ref a1), .val (.long ((0 : Int64) + (x0.toInt64))), .second, .val (.ref a2), .val (.int (3 : Int32)), .val (.int (1 : Int32)), .val (.int x0)] []))
  refine OwnR.of (fun _ hr => XS.aloadN X1.here hx rfl (hb hby d5_21) rfl rfl hr) ?_
  show OwnR _ _ _ _ _ _ _ (T1.setTop (mkF m 22 #[.val (.ref a1), .val (.long ((0 : Int64) + (x0.toInt64))), .second, .val (.ref a2), .val (.int (3 : Int32)), .val (.int (1 : Int32)), .val (.int x0)] [(.ref a2)]))
  refine OwnR.of (fun _ hr => XS.iload X1.here hx rfl (hb hby d5_22) rfl hr) ?_
  show OwnR _ _ _ _ _ _ _ (T1.setTop (mkF m 24 #[.val (.ref a1), .val (.long ((0 : Int64) + (x0.toInt64))), .second, .val (.ref a2), .val (.int (3 : Int32)), .val (.int (1 : Int32)), .val (.int x0)] [(.int (1 : Int32)), (.ref a2)]))
  obtain ⟨cl4, Ar4, -, S4, N4, H4, G4⟩ := id V_a2
  have hin4 : ¬ ((1 : Int32) < 0 ∨ cl4.slots.size ≤ ((1 : Int32)).toNatClampNeg) := (inb_of S4 ⟨by decide, by decide⟩)
  refine OwnR.of (X1.iaload hx (j := (1 : Int32)) (v := (.int x1)) (by rw [e1]; exact Ar4.1) (State.isArrayOf_alike hZ.alike Ar4.2.1) Ar4.2.2 hin4 (Has.at H4 hin4 rfl) (g := (mkF m 24 #[.val (.ref a1), .val (.long ((0 : Int64) + (x0.toInt64))), .second, .val (.ref a2), .val (.int (3 : Int32)), .val (.int (1 : Int32)), .val (.int x0)] [(.int (1 : Int32)), (.ref a2)])) rfl rfl (hb hby d5_24)) ?_
  show OwnR _ _ _ _ _ _ _ (T1.setTop (mkF m 25 #[.val (.ref a1), .val (.long ((0 : Int64) + (x0.toInt64))), .second, .val (.ref a2), .val (.int (3 : Int32)), .val (.int (1 : Int32)), .val (.int x0)] [(.int x1)]))
  refine OwnR.of (fun _ hr => XS.istore X1.here hx rfl (hb hby d5_25) rfl (l' := #[.val (.ref a1), .val (.long ((0 : Int64) + (x0.toInt64))), .second, .val (.ref a2), .val (.int (3 : Int32)), .val (.int (1 : Int32)), .val (.int x1)]) rfl hr) ?_
  show OwnR _ _ _ _ _ _ _ (T1.setTop (mkF m 27 #[.val (.ref a1), .val (.long ((0 : Int64) + (x0.toInt64))), .second, .val (.ref a2), .val (.int (3 : Int32)), .val (.int (1 : Int32)), .val (.int x1)] []))
  refine OwnR.of (fun _ hr => XS.lloadN X1.here hx rfl (hb hby d5_27) rfl hr) ?_
  show OwnR _ _ _ _ _ _ _ (T1.setTop (mkF m 28 #[.val (.ref a1), .val (.long ((0 : Int64) + (x0.toInt64))), .second, .val (.ref a2), .val (.int (3 : Int32)), .val (.int (1 : Int32)), .val (.int x1)] [(.long ((0 : Int64) + (x0.toInt64)))]))
  refine OwnR.of (fun _ hr => XS.iload X1.here hx rfl (hb hby d5_28) rfl hr) ?_
  show OwnR _ _ _ _ _ _ _ (T1.setTop (mkF m 30 #[.val (.ref a1), .val (.long ((0 : Int64) + (x0.toInt64))), .second, .val (.ref a2), .val (.int (3 : Int32)), .val (.int (1 : Int32)), .val (.int x1)] [(.int x1), (.long ((0 : Int64) + (x0.toInt64)))]))
  refine OwnR.of (fun _ hr => XS.i2l X1.here hx rfl (hb hby d5_30) rfl hr) ?_
  show OwnR _ _ _ _ _ _ _ (T1.setTop (mkF m 31 #[.val (.ref a1), .val (.long ((0 : Int64) + (x0.toInt64))), .second, .val (.ref a2), .val (.int (3 : Int32)), .val (.int (1 : Int32)), .val (.int x1)] [(.long (x1.toInt64)), (.long ((0 : Int64) + (x0.toInt64)))]))
  refine OwnR.of (fun _ hr => XS.ladd X1.here hx rfl (hb hby d5_31) rfl hr) ?_
  show OwnR _ _ _ _ _ _ _ (T1.setTop (mkF m 32 #[.val (.ref a1), .val (.long ((0 : Int64) + (x0.toInt64))), .second, .val (.ref a2), .val (.int (3 : Int32)), .val (.int (1 : Int32)), .val (.int x1)] [(.long (((0 : Int64) + (x0.toInt64)) + (x1.toInt64)))]))
  refine OwnR.of (fun _ hr => XS.lstoreN X1.here hx rfl (hb hby d5_32) rfl (l' := #[.val (.ref a1), .val (.long (((0 : Int64) + (x0.toInt64)) + (x1.toInt64))), .second, .val (.ref a2), .val (.int (3 : Int32)), .val (.int (1 : Int32)), .val (.int x1)]) rfl hr) ?_
  show OwnR _ _ _ _ _ _ _ (T1.setTop (mkF m 33 #[.val (.ref a1), .val (.long (((0 : Int64) + (x0.toInt64)) + (x1.toInt64))), .second, .val (.ref a2), .val (.int (3 : Int32)), .val (.int (1 : Int32)), .val (.int x1)] []))
  refine OwnR.of (fun _ hr => XS.iinc X1.here hx rfl (hb hby d5_33) rfl (l' := #[.val (.ref a1), .val (.long (((0 : Int64) + (x0.toInt64)) + (x1.toInt64))), .second, .val (.ref a2), .val (.int (3 : Int32)), .val (.int ((1 : Int32) + (1 : Int32))), .val (.int x1)]) rfl hr) ?_
  show OwnR _ _ _ _ _ _ _ (T1.setTop (mkF m 36 #[.val (.ref a1), .val (.long (((0 : Int64) + (x0.toInt64)) + (x1.toInt64))), .second, .val (.ref a2), .val (.int (3 : Int32)), .val (.int ((1 : Int32) + (1 : Int32))), .val (.int x1)] []))
  rw [(by decide : ((1 : Int32) + (1 : Int32)) = (2 : Int32))]
  show OwnR _ _ _ _ _ _ _ (T1.setTop (mkF m 36 #[.val (.ref a1), .val (.long (((0 : Int64) + (x0.toInt64)) + (x1.toInt64))), .second, .val (.ref a2), .val (.int (3 : Int32)), .val (.int (2 : Int32)), .val (.int x1)] []))
  refine OwnR.of (fun _ hr => XS.goto X1.here hx rfl (pc0 := 36) (pc' := 14) rfl (hb hby d5_36) (by decide) (by decide) hr) ?_
  show OwnR _ _ _ _ _ _ _ (T1.setTop (mkF m 14 #[.val (.ref a1), .val (.long (((0 : Int64) + (x0.toInt64)) + (x1.toInt64))), .second, .val (.ref a2), .val (.int (3 : Int32)), .val (.int (2 : Int32)), .val (.int x1)] []))
  refine OwnR.of (fun _ hr => XS.iload X1.here hx rfl (hb hby d5_14) rfl hr) ?_
  show OwnR _ _ _ _ _ _ _ (T1.setTop (mkF m 16 #[.val (.ref a1), .val (.long (((0 : Int64) + (x0.toInt64)) + (x1.toInt64))), .second, .val (.ref a2), .val (.int (3 : Int32)), .val (.int (2 : Int32)), .val (.int x1)] [(.int (2 : Int32))]))
  refine OwnR.of (fun _ hr => XS.iload X1.here hx rfl (hb hby d5_16) rfl hr) ?_
  show OwnR _ _ _ _ _ _ _ (T1.setTop (mkF m 18 #[.val (.ref a1), .val (.long (((0 : Int64) + (x0.toInt64)) + (x1.toInt64))), .second, .val (.ref a2), .val (.int (3 : Int32)), .val (.int (2 : Int32)), .val (.int x1)] [(.int (3 : Int32)), (.int (2 : Int32))]))
  refine OwnR.of (fun _ hr => XS.icmpNo X1.here hx rfl (hb hby d5_18) rfl (tlt (by decide : (2 : Int32) < (3 : Int32))).2.1 hr) ?_
  show OwnR _ _ _ _ _ _ _ (T1.setTop (mkF m 21 #[.val (.ref a1), .val (.long (((0 : Int64) + (x0.toInt64)) + (x1.toInt64))), .second, .val (.ref a2), .val (.int (3 : Int32)), .val (.int (2 : Int32)), .val (.int x1)] []))
  refine OwnR.of (fun _ hr => XS.aloadN X1.here hx rfl (hb hby d5_21) rfl rfl hr) ?_
  show OwnR _ _ _ _ _ _ _ (T1.setTop (mkF m 22 #[.val (.ref a1), .val (.long (((0 : Int64) + (x0.toInt64)) + (x1.toInt64))), .second, .val (.ref a2), .val (.int (3 : Int32)), .val (.int (2 : Int32)), .val (.int x1)] [(.ref a2)]))
  refine OwnR.of (fun _ hr => XS.iload X1.here hx rfl (hb hby d5_22) rfl hr) ?_
  show OwnR _ _ _ _ _ _ _ (T1.setTop (mkF m 24 #[.val (.ref a1), .val (.long (((0 : Int64) + (x0.toInt64)) + (x1.toInt64))), .second, .val (.ref a2), .val (.int (3 : Int32)), .val (.int (2 : Int32)), .val (.int x1)] [(.int (2 : Int32)), (.ref a2)]))
  obtain ⟨cl5, Ar5, -, S5, N5, H5, G5⟩ := id V_a2
  have hin5 : ¬ ((2 : Int32) < 0 ∨ cl5.slots.size ≤ ((2 : Int32)).toNatClampNeg) := (inb_of S5 ⟨by decide, by decide⟩)
  refine OwnR.of (X1.iaload hx (j := (2 : Int32)) (v := (.int x2)) (by rw [e1]; exact Ar5.1) (State.isArrayOf_alike hZ.alike Ar5.2.1) Ar5.2.2 hin5 (Has.at H5 hin5 rfl) (g := (mkF m 24 #[.val (.ref a1), .val (.long (((0 : Int64) + (x0.toInt64)) + (x1.toInt64))), .second, .val (.ref a2), .val (.int (3 : Int32)), .val (.int (2 : Int32)), .val (.int x1)] [(.int (2 : Int32)), (.ref a2)])) rfl rfl (hb hby d5_24)) ?_
  show OwnR _ _ _ _ _ _ _ (T1.setTop (mkF m 25 #[.val (.ref a1), .val (.long (((0 : Int64) + (x0.toInt64)) + (x1.toInt64))), .second, .val (.ref a2), .val (.int (3 : Int32)), .val (.int (2 : Int32)), .val (.int x1)] [(.int x2)]))
  refine OwnR.of (fun _ hr => XS.istore X1.here hx rfl (hb hby d5_25) rfl (l' := #[.val (.ref a1), .val (.long (((0 : Int64) + (x0.toInt64)) + (x1.toInt64))), .second, .val (.ref a2), .val (.int (3 : Int32)), .val (.int (2 : Int32)), .val (.int x2)]) rfl hr) ?_
  show OwnR _ _ _ _ _ _ _ (T1.setTop (mkF m 27 #[.val (.ref a1), .val (.long (((0 : Int64) + (x0.toInt64)) + (x1.toInt64))), .second, .val (.ref a2), .val (.int (3 : Int32)), .val (.int (2 : Int32)), .val (.int x2)] []))
  refine OwnR.of (fun _ hr => XS.lloadN X1.here hx rfl (hb hby d5_27) rfl hr) ?_
  show OwnR _ _ _ _ _ _ _ (T1.setTop (mkF m 28 #[.val (.ref a1), .val (.long (((0 : Int64) + (x0.toInt64)) + (x1.toInt64))), .second, .val (.ref a2), .val (.int (3 : Int32)), .val (.int (2 : Int32)), .val (.int x2)] [(.long (((0 : Int64) + (x0.toInt64)) + (x1.toInt64)))]))
  refine OwnR.of (fun _ hr => XS.iload X1.here hx rfl (hb hby d5_28) rfl hr) ?_
  show OwnR _ _ _ _ _ _ _ (T1.setTop (mkF m 30 #[.val (.ref a1), .val (.long (((0 : Int64) + (x0.toInt64)) + (x1.toInt64))), .second, .val (.ref a2), .val (.int (3 : Int32)), .val (.int (2 : Int32)), .val (.int x2)] [(.int x2), (.long (((0 : Int64) + (x0.toInt64)) + (x1.toInt64)))]))
  refine OwnR.of (fun _ hr => XS.i2l X1.here hx rfl (hb hby d5_30) rfl hr) ?_
  show OwnR _ _ _ _ _ _ _ (T1.setTop (mkF m 31 #[.val (.ref a1), .val (.long (((0 : Int64) + (x0.toInt64)) + (x1.toInt64))), .second, .val (.ref a2), .val (.int (3 : Int32)), .val (.int (2 : Int32)), .val (.int x2)] [(.long (x2.toInt64)), (.long (((0 : Int64) + (x0.toInt64)) + (x1.toInt64)))]))
  refine OwnR.of (fun _ hr => XS.ladd X1.here hx rfl (hb hby d5_31) rfl hr) ?_
  show OwnR _ _ _ _ _ _ _ (T1.setTop (mkF m 32 #[.val (.ref a1), .val (.long (((0 : Int64) + (x0.toInt64)) + (x1.toInt64))), .second, .val (.ref a2), .val (.int (3 : Int32)), .val (.int (2 : Int32)), .val (.int x2)] [(.long ((((0 : Int64) + (x0.toInt64)) + (x1.toInt64)) + (x2.toInt64)))]))
  refine OwnR.of (fun _ hr => XS.lstoreN X1.here hx rfl (hb hby d5_32) rfl (l' := #[.val (.ref a1), .val (.long ((((0 : Int64) + (x0.toInt64)) + (x1.toInt64)) + (x2.toInt64))), .second, .val (.ref a2), .val (.int (3 : Int32)), .val (.int (2 : Int32)), .val (.int x2)]) rfl hr) ?_
  show OwnR _ _ _ _ _ _ _ (T1.setTop (mkF m 33 #[.val (.ref a1), .val (.long ((((0 : Int64) + (x0.toInt64)) + (x1.toInt64)) + (x2.toInt64))), .second, .val (.ref a2), .val (.int (3 : Int32)), .val (.int (2 : Int32)), .val (.int x2)] []))
  refine OwnR.of (fun _ hr => XS.iinc X1.here hx rfl (hb hby d5_33) rfl (l' := #[.val (.ref a1), .val (.long ((((0 : Int64) + (x0.toInt64)) + (x1.toInt64)) + (x2.toInt64))), .second, .val (.ref a2), .val (.int (3 : Int32)), .val (.int ((2 : Int32) + (1 : Int32))), .val (.int x2)]) rfl hr) ?_
  show OwnR _ _ _ _ _ _ _ (T1.setTop (mkF m 36 #[.val (.ref a1), .val (.long ((((0 : Int64) + (x0.toInt64)) + (x1.toInt64)) + (x2.toInt64))), .second, .val (.ref a2), .val (.int (3 : Int32)), .val (.int ((2 : Int32) + (1 : Int32))), .val (.int x2)] []))
  rw [(by decide : ((2 : Int32) + (1 : Int32)) = (3 : Int32))]
  show OwnR _ _ _ _ _ _ _ (T1.setTop (mkF m 36 #[.val (.ref a1), .val (.long ((((0 : Int64) + (x0.toInt64)) + (x1.toInt64)) + (x2.toInt64))), .second, .val (.ref a2), .val (.int (3 : Int32)), .val (.int (3 : Int32)), .val (.int x2)] []))
  refine OwnR.of (fun _ hr => XS.goto X1.here hx rfl (pc0 := 36) (pc' := 14) rfl (hb hby d5_36) (by decide) (by decide) hr) ?_
  show OwnR _ _ _ _ _ _ _ (T1.setTop (mkF m 14 #[.val (.ref a1), .val (.long ((((0 : Int64) + (x0.toInt64)) + (x1.toInt64)) + (x2.toInt64))), .second, .val (.ref a2), .val (.int (3 : Int32)), .val (.int (3 : Int32)), .val (.int x2)] []))
  refine OwnR.of (fun _ hr => XS.iload X1.here hx rfl (hb hby d5_14) rfl hr) ?_
  show OwnR _ _ _ _ _ _ _ (T1.setTop (mkF m 16 #[.val (.ref a1), .val (.long ((((0 : Int64) + (x0.toInt64)) + (x1.toInt64)) + (x2.toInt64))), .second, .val (.ref a2), .val (.int (3 : Int32)), .val (.int (3 : Int32)), .val (.int x2)] [(.int (3 : Int32))]))
  refine OwnR.of (fun _ hr => XS.iload X1.here hx rfl (hb hby d5_16) rfl hr) ?_
  show OwnR _ _ _ _ _ _ _ (T1.setTop (mkF m 18 #[.val (.ref a1), .val (.long ((((0 : Int64) + (x0.toInt64)) + (x1.toInt64)) + (x2.toInt64))), .second, .val (.ref a2), .val (.int (3 : Int32)), .val (.int (3 : Int32)), .val (.int x2)] [(.int (3 : Int32)), (.int (3 : Int32))]))
  refine OwnR.of (fun _ hr => XS.icmpYes X1.here hx rfl (pc0 := 18) (pc' := 39) rfl (hb hby d5_18) rfl (flt (by decide : ¬ ((3 : Int32) < (3 : Int32)))).2.1 (by decide) (by decide) hr) ?_
  show OwnR _ _ _ _ _ _ _ (T1.setTop (mkF m 39 #[.val (.ref a1), .val (.long ((((0 : Int64) + (x0.toInt64)) + (x1.toInt64)) + (x2.toInt64))), .second, .val (.ref a2), .val (.int (3 : Int32)), .val (.int (3 : Int32)), .val (.int x2)] []))
  refine OwnR.of (fun _ hr => XS.lloadN X1.here hx rfl (hb hby d5_39) rfl hr) ?_
  show OwnR _ _ _ _ _ _ _ (T1.setTop (mkF m 40 #[.val (.ref a1), .val (.long ((((0 : Int64) + (x0.toInt64)) + (x1.toInt64)) + (x2.toInt64))), .second, .val (.ref a2), .val (.int (3 : Int32)), .val (.int (3 : Int32)), .val (.int x2)] [(.long ((((0 : Int64) + (x0.toInt64)) + (x1.toInt64)) + (x2.toInt64)))]))
  refine own_leafJ X1 hx hlk Bd.returns (hb hby d5_40) (by decide) (by decide) ?_
  show Q5_3 Z x0 x1 x2 h0 n0 _ T1.heap _
  rw [show T1.heap = h0 from e1]
  refine ⟨?_, N0, rfl⟩
  show (some (.long ((((0 : Int64) + (x0.toInt64)) + (x1.toInt64)) + (x2.toInt64))) : Option Value) = some (.long ((((0 : Int64) + (x0.toInt64)) + (x1.toInt64)) + (x2.toInt64)))
  rfl
theorem ef_rm3_4 (m : MethodId) (x0 : Addr) (x1 : Addr) (x2 : Addr) : entryFrame m #[(.ref x0), (.ref x1), (.ref x2), .null] 5 = mkF m 0 #[.val (.ref x0), .val (.ref x1), .val (.ref x2), .val .null, .unset] [] := by first | (simp [entryFrame, mkF, argsToLocals, Value.category]; done) | rfl
def Q3_4 (Z : State) (a1 : Addr) (k2 : ClassId) (x0 : Int32) (x1 : Int32) (x2 : Int32) (x3 : Int32) (h0 : Heap) (n0 : Nat) (v : Option Value) (h : Heap) (L : List Loc) : Prop := ∃ (bI : Addr), v = none ∧ Fr n0 L ∧ Keep h0 h [a1] ∧ Exa Z h a1 "com/example/ramification/ramification/model/StrahlerOrders" ∧ Fld Z h a1 "com/example/ramification/ramification/model/StrahlerOrders" "branches" "[I" (.ref bI) ∧ Arv Z h bI k2 .int (4 : Int32) [(.int x0), (.int x1), (.int x2), (.int x3)] (.int (0 : Int32))
set_option maxRecDepth 65536 in
set_option maxHeartbeats 40000000 in
theorem rm3_4 (l : Launch) (Z : State) (a0 : Array Value) (hw : ∀ d ∈ tables_1, d.before a0 Z = true) (ws : List Jvm.Cond) (a1 : Addr) (a2 : Addr) (a3 : Addr) (k2 k3 : ClassId) (x0 x1 x2 x3 : Int32) (h0 : Heap) (n0 : Nat) (Z0 : n0 ≤ h0.size) (E_a1 : Exa Z h0 a1 "com/example/ramification/ramification/model/StrahlerOrders") (F_branches_a1 : Fld Z h0 a1 "com/example/ramification/ramification/model/StrahlerOrders" "branches" "[I" .null) (F_lengths_a1 : Fld Z h0 a1 "com/example/ramification/ramification/model/StrahlerOrders" "lengths" "[D" .null) (F_unit_a1 : Fld Z h0 a1 "com/example/ramification/ramification/model/StrahlerOrders" "unit" "Ljava/util/Optional;" .null) (V_a2 : Arv Z h0 a2 k2 .int (4 : Int32) [(.int x0), (.int x1), (.int x2), (.int x3)] (.int (0 : Int32))) (V_a3 : Arv Z h0 a3 k3 .double (4 : Int32) [(defaultValue .double), (defaultValue .double), (defaultValue .double), (defaultValue .double)] (defaultValue .double)) (E_a2 : Exa Z h0 a2 "[I") (E_a3 : Exa Z h0 a3 "[D") (g_a1 : n0 ≤ a1) (ne_12 : a1 ≠ a2) (ne_13 : a1 ≠ a3) (hx0 : ¬ (x0 < (1 : Int32))) (hx1 : ¬ (x1 < (1 : Int32))) (hx2 : ¬ (x2 < (1 : Int32))) (hx3 : ¬ (x3 < (1 : Int32))) :
    MetFree l (⟨"com/example/ramification/ramification/model/StrahlerOrders", "<init>", "([I[DLjava/util/Optional;)V"⟩ : MethodName) (head1 (Jvm.Cond.code (⟨"com/example/ramification/ramification/model/StrahlerOrders", "<init>", "([I[DLjava/util/Optional;)V"⟩ : MethodName) prog_88_method_1_code 5 none :: ws) ({ frames := 1, cells := 2, slots := 8, locals := 18 } : Room)) (fun a U => a = #[(.ref a1), (.ref a2), (.ref a3), .null] ∧ Z.Warmed39 U.vm ∧ U.heap = h0) (fun _ _ _ _ _ => True) (fun _ U o U' => ∃ v L, o = .returned v ∧ Q3_4 Z a1 k2 x0 x1 x2 x3 h0 n0 v U'.heap L ∧ FrameEnd U o U' L ({ frames := 1, cells := 2, slots := 8, locals := 18 } : Room).cells ({ frames := 1, cells := 2, slots := 8, locals := 18 } : Room).slots) := by
  refine MetFree.of_bodySF (plainFor_of_name pn_com_example_ramification_ramification_model_StrahlerOrders) hisR ?_
  intro p e s m args below meth c s₁ Bd hml0 hP hK
  obtain ⟨rfl, hZ, hh⟩ := hP
  have hx := Bd.exec
  have hby := Bd.bytes
  have hlk := BodyLoose.notSynchronized Bd
  have hml : c.maxLocals = 5 := hml0
  have hown : s.vm.findClass "com/example/ramification/ramification/model/StrahlerOrders" = some m.cls := findClass_of_methodNamed Bd.named
  have hnm := (name_of_methodNamed Bd.named Bd.method).1
  have X0 : Stand p l e ({ frames := 1, cells := 2, slots := 8, locals := 18 } : Room) s m #[(.ref a1), (.ref a2), (.ref a3), .null] below meth c s₁ [] 0 0 := Stand.of_body Bd
  have e0 : s₁.heap = h0 := by rw [← hh, Bd.state]; rfl
  have N0 := Fr.nil n0
  refine OwnR.of (s := s) (Q := Q3_4 Z a1 k2 x0 x1 x2 x3 h0 n0) (fun t k => castTop (ef_rm3_4 m a1 a2 a3) k) ?_
  show OwnR _ _ _ _ _ _ _ (s₁.setTop (mkF m 0 #[.val (.ref a1), .val (.ref a2), .val (.ref a3), .val .null, .unset] []))
  refine OwnR.of (fun _ hr => XS.aloadN X0.here hx rfl (hb hby d3_0) rfl rfl hr) ?_
  show OwnR _ _ _ _ _ _ _ (s₁.setTop (mkF m 1 #[.val (.ref a1), .val (.ref a2), .val (.ref a3), .val .null, .unset] [(.ref a1)]))
  obtain ⟨T1, X1, e1, st1⟩ := initO X0 hx hZ hown (hw _ (List.mem_of_getElem? (i := 17) rfl)) (hw _ (List.mem_of_getElem? (i := 18) rfl)) (hw _ (List.mem_of_getElem? (i := 19) rfl)) e0 (g := (mkF m 1 #[.val (.ref a1), .val (.ref a2), .val (.ref a3), .val .null, .unset] [(.ref a1)])) rfl (by rw [hml]; rfl) rfl (hb hby d3_1) (by decide) (W := 0) (by show 2 * 0 + _ ≤ _; exact Nat.le_of_eq rfl) (by decide)
  refine OwnR.of (st1) ?_
  show OwnR _ _ _ _ _ _ _ (T1.setTop (mkF m 4 #[.val (.ref a1), .val (.ref a2), .val (.ref a3), .val .null, .unset] []))
  refine OwnR.of (fun _ hr => XS.aloadN X1.here hx rfl (hb hby d3_4) rfl rfl hr) ?_
  show OwnR _ _ _ _ _ _ _ (T1.setTop (mkF m 5 #[.val (.ref a1), .val (.ref a2), .val (.ref a3), .val .null, .unset] [(.ref a2)]))
  obtain ⟨cl2, Ar2, -, S2, N2, -, -⟩ := id V_a2
  refine OwnR.of (X1.arraylength hx (by rw [e1]; exact Ar2.1) (State.isArrayOf_alike hZ.alike Ar2.2.1) (g := (mkF m 5 #[.val (.ref a1), .val (.ref a2), .val (.ref a3), .val .null, .unset] [(.ref a2)])) rfl rfl (hb hby d3_5)) ?_
  show OwnR _ _ _ _ _ _ _ (T1.setTop (mkF m 6 #[.val (.ref a1), .val (.ref a2), .val (.ref a3), .val .null, .unset] [(.int cl2.slots.size.toInt32)]))
  rw [len_of S2 N2]
  show OwnR _ _ _ _ _ _ _ (T1.setTop (mkF m 6 #[.val (.ref a1), .val (.ref a2), .val (.ref a3), .val .null, .unset] [(.int (4 : Int32))]))
  refine OwnR.of (fun _ hr => XS.aloadN X1.here hx rfl (hb hby d3_6) rfl rfl hr) ?_
  show OwnR _ _ _ _ _ _ _ (T1.setTop (mkF m 7 #[.val (.ref a1), .val (.ref a2), .val (.ref a3), .val .null, .unset] [(.ref a3), (.int (4 : Int32))]))
  obtain ⟨cl3, Ar3, -, S3, N3, -, -⟩ := id V_a3
  refine OwnR.of (X1.arraylength hx (by rw [e1]; exact Ar3.1) (State.isArrayOf_alike hZ.alike Ar3.2.1) (g := (mkF m 7 #[.val (.ref a1), .val (.ref a2), .val (.ref a3), .val .null, .unset] [(.ref a3), (.int (4 : Int32))])) rfl rfl (hb hby d3_7)) ?_
  show OwnR _ _ _ _ _ _ _ (T1.setTop (mkF m 8 #[.val (.ref a1), .val (.ref a2), .val (.ref a3), .val .null, .unset] [(.int cl3.slots.size.toInt32), (.int (4 : Int32))]))
  rw [len_of S3 N3]
  show OwnR _ _ _ _ _ _ _ (T1.setTop (mkF m 8 #[.val (.ref a1), .val (.ref a2), .val (.ref a3), .val .null, .unset] [(.int (4 : Int32)), (.int (4 : Int32))]))
  refine OwnR.of (fun _ hr => XS.icmpYes X1.here hx rfl (pc0 := 8) (pc' := 28) rfl (hb hby d3_8) rfl (teq (by decide : (4 : Int32) = (4 : Int32))).1 (by decide) (by decide) hr) ?_
  show OwnR _ _ _ _ _ _ _ (T1.setTop (mkF m 28 #[.val (.ref a1), .val (.ref a2), .val (.ref a3), .val .null, .unset] []))
  refine OwnR.of (fun _ hr => XS.iconst X1.here hx rfl (hb hby d3_28) hr) ?_
  show OwnR _ _ _ _ _ _ _ (T1.setTop (mkF m 29 #[.val (.ref a1), .val (.ref a2), .val (.ref a3), .val .null, .unset] [(.int (0 : Int32))]))
  refine OwnR.of (fun _ hr => XS.istore X1.here hx rfl (hb hby d3_29) rfl (l' := #[.val (.ref a1), .val (.ref a2), .val (.ref a3), .val .null, .val (.int (0 : Int32))]) rfl hr) ?_
  show OwnR _ _ _ _ _ _ _ (T1.setTop (mkF m 31 #[.val (.ref a1), .val (.ref a2), .val (.ref a3), .val .null, .val (.int (0 : Int32))] []))
  refine OwnR.of (fun _ hr => XS.iload X1.here hx rfl (hb hby d3_31) rfl hr) ?_
  show OwnR _ _ _ _ _ _ _ (T1.setTop (mkF m 33 #[.val (.ref a1), .val (.ref a2), .val (.ref a3), .val .null, .val (.int (0 : Int32))] [(.int (0 : Int32))]))
  refine OwnR.of (fun _ hr => XS.aloadN X1.here hx rfl (hb hby d3_33) rfl rfl hr) ?_
  show OwnR _ _ _ _ _ _ _ (T1.setTop (mkF m 34 #[.val (.ref a1), .val (.ref a2), .val (.ref a3), .val .null, .val (.int (0 : Int32))] [(.ref a2), (.int (0 : Int32))]))
  obtain ⟨cl4, Ar4, -, S4, N4, -, -⟩ := id V_a2
  refine OwnR.of (X1.arraylength hx (by rw [e1]; exact Ar4.1) (State.isArrayOf_alike hZ.alike Ar4.2.1) (g := (mkF m 34 #[.val (.ref a1), .val (.ref a2), .val (.ref a3), .val .null, .val (.int (0 : Int32))] [(.ref a2), (.int (0 : Int32))])) rfl rfl (hb hby d3_34)) ?_
  show OwnR _ _ _ _ _ _ _ (T1.setTop (mkF m 35 #[.val (.ref a1), .val (.ref a2), .val (.ref a3), .val .null, .val (.int (0 : Int32))] [(.int cl4.slots.size.toInt32), (.int (0 : Int32))]))
  rw [len_of S4 N4]
  show OwnR _ _ _ _ _ _ _ (T1.setTop (mkF m 35 #[.val (.ref a1), .val (.ref a2), .val (.ref a3), .val .null, .val (.int (0 : Int32))] [(.int (4 : Int32)), (.int (0 : Int32))]))
  refine OwnR.of (fun _ hr => XS.icmpNo X1.here hx rfl (hb hby d3_35) rfl (tlt (by decide : (0 : Int32) < (4 : Int32))).2.1 hr) ?_
  show OwnR _ _ _ _ _ _ _ (T1.setTop (mkF m 38 #[.val (.ref a1), .val (.ref a2), .val (.ref a3), .val .null, .val (.int (0 : Int32))] []))
  refine OwnR.of (fun _ hr => XS.aloadN X1.here hx rfl (hb hby d3_38) rfl rfl hr) ?_
  show OwnR _ _ _ _ _ _ _ (T1.setTop (mkF m 39 #[.val (.ref a1), .val (.ref a2), .val (.ref a3), .val .null, .val (.int (0 : Int32))] [(.ref a2)]))
  refine OwnR.of (fun _ hr => XS.iload X1.here hx rfl (hb hby d3_39) rfl hr) ?_
  show OwnR _ _ _ _ _ _ _ (T1.setTop (mkF m 41 #[.val (.ref a1), .val (.ref a2), .val (.ref a3), .val .null, .val (.int (0 : Int32))] [(.int (0 : Int32)), (.ref a2)]))
  obtain ⟨cl5, Ar5, -, S5, N5, H5, G5⟩ := id V_a2
  have hin5 : ¬ ((0 : Int32) < 0 ∨ cl5.slots.size ≤ ((0 : Int32)).toNatClampNeg) := (inb_of S5 ⟨by decide, by decide⟩)
  refine OwnR.of (X1.iaload hx (j := (0 : Int32)) (v := (.int x0)) (by rw [e1]; exact Ar5.1) (State.isArrayOf_alike hZ.alike Ar5.2.1) Ar5.2.2 hin5 (Has.at H5 hin5 rfl) (g := (mkF m 41 #[.val (.ref a1), .val (.ref a2), .val (.ref a3), .val .null, .val (.int (0 : Int32))] [(.int (0 : Int32)), (.ref a2)])) rfl rfl (hb hby d3_41)) ?_
  show OwnR _ _ _ _ _ _ _ (T1.setTop (mkF m 42 #[.val (.ref a1), .val (.ref a2), .val (.ref a3), .val .null, .val (.int (0 : Int32))] [(.int x0)]))
  refine OwnR.of (fun _ hr => XS.iconst X1.here hx rfl (hb hby d3_42) hr) ?_
  show OwnR _ _ _ _ _ _ _ (T1.setTop (mkF m 43 #[.val (.ref a1), .val (.ref a2), .val (.ref a3), .val .null, .val (.int (0 : Int32))] [(.int (1 : Int32)), (.int x0)]))
  refine OwnR.of (fun _ hr => XS.icmpYes X1.here hx rfl (pc0 := 43) (pc' := 67) rfl (hb hby d3_43) rfl (flt hx0).2.1 (by decide) (by decide) hr) ?_
  show OwnR _ _ _ _ _ _ _ (T1.setTop (mkF m 67 #[.val (.ref a1), .val (.ref a2), .val (.ref a3), .val .null, .val (.int (0 : Int32))] []))
  refine OwnR.of (fun _ hr => XS.iinc X1.here hx rfl (hb hby d3_67) rfl (l' := #[.val (.ref a1), .val (.ref a2), .val (.ref a3), .val .null, .val (.int ((0 : Int32) + (1 : Int32)))]) rfl hr) ?_
  show OwnR _ _ _ _ _ _ _ (T1.setTop (mkF m 70 #[.val (.ref a1), .val (.ref a2), .val (.ref a3), .val .null, .val (.int ((0 : Int32) + (1 : Int32)))] []))
  rw [(by decide : ((0 : Int32) + (1 : Int32)) = (1 : Int32))]
  show OwnR _ _ _ _ _ _ _ (T1.setTop (mkF m 70 #[.val (.ref a1), .val (.ref a2), .val (.ref a3), .val .null, .val (.int (1 : Int32))] []))
  refine OwnR.of (fun _ hr => XS.goto X1.here hx rfl (pc0 := 70) (pc' := 31) rfl (hb hby d3_70) (by decide) (by decide) hr) ?_
  show OwnR _ _ _ _ _ _ _ (T1.setTop (mkF m 31 #[.val (.ref a1), .val (.ref a2), .val (.ref a3), .val .null, .val (.int (1 : Int32))] []))
  refine OwnR.of (fun _ hr => XS.iload X1.here hx rfl (hb hby d3_31) rfl hr) ?_
  show OwnR _ _ _ _ _ _ _ (T1.setTop (mkF m 33 #[.val (.ref a1), .val (.ref a2), .val (.ref a3), .val .null, .val (.int (1 : Int32))] [(.int (1 : Int32))]))
  refine OwnR.of (fun _ hr => XS.aloadN X1.here hx rfl (hb hby d3_33) rfl rfl hr) ?_
  show OwnR _ _ _ _ _ _ _ (T1.setTop (mkF m 34 #[.val (.ref a1), .val (.ref a2), .val (.ref a3), .val .null, .val (.int (1 : Int32))] [(.ref a2), (.int (1 : Int32))]))
  obtain ⟨cl6, Ar6, -, S6, N6, -, -⟩ := id V_a2
  refine OwnR.of (X1.arraylength hx (by rw [e1]; exact Ar6.1) (State.isArrayOf_alike hZ.alike Ar6.2.1) (g := (mkF m 34 #[.val (.ref a1), .val (.ref a2), .val (.ref a3), .val .null, .val (.int (1 : Int32))] [(.ref a2), (.int (1 : Int32))])) rfl rfl (hb hby d3_34)) ?_
  show OwnR _ _ _ _ _ _ _ (T1.setTop (mkF m 35 #[.val (.ref a1), .val (.ref a2), .val (.ref a3), .val .null, .val (.int (1 : Int32))] [(.int cl6.slots.size.toInt32), (.int (1 : Int32))]))
  rw [len_of S6 N6]
  show OwnR _ _ _ _ _ _ _ (T1.setTop (mkF m 35 #[.val (.ref a1), .val (.ref a2), .val (.ref a3), .val .null, .val (.int (1 : Int32))] [(.int (4 : Int32)), (.int (1 : Int32))]))
  refine OwnR.of (fun _ hr => XS.icmpNo X1.here hx rfl (hb hby d3_35) rfl (tlt (by decide : (1 : Int32) < (4 : Int32))).2.1 hr) ?_
  show OwnR _ _ _ _ _ _ _ (T1.setTop (mkF m 38 #[.val (.ref a1), .val (.ref a2), .val (.ref a3), .val .null, .val (.int (1 : Int32))] []))
  refine OwnR.of (fun _ hr => XS.aloadN X1.here hx rfl (hb hby d3_38) rfl rfl hr) ?_
  show OwnR _ _ _ _ _ _ _ (T1.setTop (mkF m 39 #[.val (.ref a1), .val (.ref a2), .val (.ref a3), .val .null, .val (.int (1 : Int32))] [(.ref a2)]))
  refine OwnR.of (fun _ hr => XS.iload X1.here hx rfl (hb hby d3_39) rfl hr) ?_
  show OwnR _ _ _ _ _ _ _ (T1.setTop (mkF m 41 #[.val (.ref a1), .val (.ref a2), .val (.ref a3), .val .null, .val (.int (1 : Int32))] [(.int (1 : Int32)), (.ref a2)]))
  obtain ⟨cl7, Ar7, -, S7, N7, H7, G7⟩ := id V_a2
  have hin7 : ¬ ((1 : Int32) < 0 ∨ cl7.slots.size ≤ ((1 : Int32)).toNatClampNeg) := (inb_of S7 ⟨by decide, by decide⟩)
  refine OwnR.of (X1.iaload hx (j := (1 : Int32)) (v := (.int x1)) (by rw [e1]; exact Ar7.1) (State.isArrayOf_alike hZ.alike Ar7.2.1) Ar7.2.2 hin7 (Has.at H7 hin7 rfl) (g := (mkF m 41 #[.val (.ref a1), .val (.ref a2), .val (.ref a3), .val .null, .val (.int (1 : Int32))] [(.int (1 : Int32)), (.ref a2)])) rfl rfl (hb hby d3_41)) ?_
  show OwnR _ _ _ _ _ _ _ (T1.setTop (mkF m 42 #[.val (.ref a1), .val (.ref a2), .val (.ref a3), .val .null, .val (.int (1 : Int32))] [(.int x1)]))
  refine OwnR.of (fun _ hr => XS.iconst X1.here hx rfl (hb hby d3_42) hr) ?_
  show OwnR _ _ _ _ _ _ _ (T1.setTop (mkF m 43 #[.val (.ref a1), .val (.ref a2), .val (.ref a3), .val .null, .val (.int (1 : Int32))] [(.int (1 : Int32)), (.int x1)]))
  refine OwnR.of (fun _ hr => XS.icmpYes X1.here hx rfl (pc0 := 43) (pc' := 67) rfl (hb hby d3_43) rfl (flt hx1).2.1 (by decide) (by decide) hr) ?_
  show OwnR _ _ _ _ _ _ _ (T1.setTop (mkF m 67 #[.val (.ref a1), .val (.ref a2), .val (.ref a3), .val .null, .val (.int (1 : Int32))] []))
  refine OwnR.of (fun _ hr => XS.iinc X1.here hx rfl (hb hby d3_67) rfl (l' := #[.val (.ref a1), .val (.ref a2), .val (.ref a3), .val .null, .val (.int ((1 : Int32) + (1 : Int32)))]) rfl hr) ?_
  show OwnR _ _ _ _ _ _ _ (T1.setTop (mkF m 70 #[.val (.ref a1), .val (.ref a2), .val (.ref a3), .val .null, .val (.int ((1 : Int32) + (1 : Int32)))] []))
  rw [(by decide : ((1 : Int32) + (1 : Int32)) = (2 : Int32))]
  show OwnR _ _ _ _ _ _ _ (T1.setTop (mkF m 70 #[.val (.ref a1), .val (.ref a2), .val (.ref a3), .val .null, .val (.int (2 : Int32))] []))
  refine OwnR.of (fun _ hr => XS.goto X1.here hx rfl (pc0 := 70) (pc' := 31) rfl (hb hby d3_70) (by decide) (by decide) hr) ?_
  show OwnR _ _ _ _ _ _ _ (T1.setTop (mkF m 31 #[.val (.ref a1), .val (.ref a2), .val (.ref a3), .val .null, .val (.int (2 : Int32))] []))
  refine OwnR.of (fun _ hr => XS.iload X1.here hx rfl (hb hby d3_31) rfl hr) ?_
  show OwnR _ _ _ _ _ _ _ (T1.setTop (mkF m 33 #[.val (.ref a1), .val (.ref a2), .val (.ref a3), .val .null, .val (.int (2 : Int32))] [(.int (2 : Int32))]))
  refine OwnR.of (fun _ hr => XS.aloadN X1.here hx rfl (hb hby d3_33) rfl rfl hr) ?_
  show OwnR _ _ _ _ _ _ _ (T1.setTop (mkF m 34 #[.val (.ref a1), .val (.ref a2), .val (.ref a3), .val .null, .val (.int (2 : Int32))] [(.ref a2), (.int (2 : Int32))]))
  obtain ⟨cl8, Ar8, -, S8, N8, -, -⟩ := id V_a2
  refine OwnR.of (X1.arraylength hx (by rw [e1]; exact Ar8.1) (State.isArrayOf_alike hZ.alike Ar8.2.1) (g := (mkF m 34 #[.val (.ref a1), .val (.ref a2), .val (.ref a3), .val .null, .val (.int (2 : Int32))] [(.ref a2), (.int (2 : Int32))])) rfl rfl (hb hby d3_34)) ?_
  show OwnR _ _ _ _ _ _ _ (T1.setTop (mkF m 35 #[.val (.ref a1), .val (.ref a2), .val (.ref a3), .val .null, .val (.int (2 : Int32))] [(.int cl8.slots.size.toInt32), (.int (2 : Int32))]))
  rw [len_of S8 N8]
  show OwnR _ _ _ _ _ _ _ (T1.setTop (mkF m 35 #[.val (.ref a1), .val (.ref a2), .val (.ref a3), .val .null, .val (.int (2 : Int32))] [(.int (4 : Int32)), (.int (2 : Int32))]))
  refine OwnR.of (fun _ hr => XS.icmpNo X1.here hx rfl (hb hby d3_35) rfl (tlt (by decide : (2 : Int32) < (4 : Int32))).2.1 hr) ?_
  show OwnR _ _ _ _ _ _ _ (T1.setTop (mkF m 38 #[.val (.ref a1), .val (.ref a2), .val (.ref a3), .val .null, .val (.int (2 : Int32))] []))
  refine OwnR.of (fun _ hr => XS.aloadN X1.here hx rfl (hb hby d3_38) rfl rfl hr) ?_
  show OwnR _ _ _ _ _ _ _ (T1.setTop (mkF m 39 #[.val (.ref a1), .val (.ref a2), .val (.ref a3), .val .null, .val (.int (2 : Int32))] [(.ref a2)]))
  refine OwnR.of (fun _ hr => XS.iload X1.here hx rfl (hb hby d3_39) rfl hr) ?_
  show OwnR _ _ _ _ _ _ _ (T1.setTop (mkF m 41 #[.val (.ref a1), .val (.ref a2), .val (.ref a3), .val .null, .val (.int (2 : Int32))] [(.int (2 : Int32)), (.ref a2)]))
  obtain ⟨cl9, Ar9, -, S9, N9, H9, G9⟩ := id V_a2
  have hin9 : ¬ ((2 : Int32) < 0 ∨ cl9.slots.size ≤ ((2 : Int32)).toNatClampNeg) := (inb_of S9 ⟨by decide, by decide⟩)
  refine OwnR.of (X1.iaload hx (j := (2 : Int32)) (v := (.int x2)) (by rw [e1]; exact Ar9.1) (State.isArrayOf_alike hZ.alike Ar9.2.1) Ar9.2.2 hin9 (Has.at H9 hin9 rfl) (g := (mkF m 41 #[.val (.ref a1), .val (.ref a2), .val (.ref a3), .val .null, .val (.int (2 : Int32))] [(.int (2 : Int32)), (.ref a2)])) rfl rfl (hb hby d3_41)) ?_
  show OwnR _ _ _ _ _ _ _ (T1.setTop (mkF m 42 #[.val (.ref a1), .val (.ref a2), .val (.ref a3), .val .null, .val (.int (2 : Int32))] [(.int x2)]))
  refine OwnR.of (fun _ hr => XS.iconst X1.here hx rfl (hb hby d3_42) hr) ?_
  show OwnR _ _ _ _ _ _ _ (T1.setTop (mkF m 43 #[.val (.ref a1), .val (.ref a2), .val (.ref a3), .val .null, .val (.int (2 : Int32))] [(.int (1 : Int32)), (.int x2)]))
  refine OwnR.of (fun _ hr => XS.icmpYes X1.here hx rfl (pc0 := 43) (pc' := 67) rfl (hb hby d3_43) rfl (flt hx2).2.1 (by decide) (by decide) hr) ?_
  show OwnR _ _ _ _ _ _ _ (T1.setTop (mkF m 67 #[.val (.ref a1), .val (.ref a2), .val (.ref a3), .val .null, .val (.int (2 : Int32))] []))
  refine OwnR.of (fun _ hr => XS.iinc X1.here hx rfl (hb hby d3_67) rfl (l' := #[.val (.ref a1), .val (.ref a2), .val (.ref a3), .val .null, .val (.int ((2 : Int32) + (1 : Int32)))]) rfl hr) ?_
  show OwnR _ _ _ _ _ _ _ (T1.setTop (mkF m 70 #[.val (.ref a1), .val (.ref a2), .val (.ref a3), .val .null, .val (.int ((2 : Int32) + (1 : Int32)))] []))
  rw [(by decide : ((2 : Int32) + (1 : Int32)) = (3 : Int32))]
  show OwnR _ _ _ _ _ _ _ (T1.setTop (mkF m 70 #[.val (.ref a1), .val (.ref a2), .val (.ref a3), .val .null, .val (.int (3 : Int32))] []))
  refine OwnR.of (fun _ hr => XS.goto X1.here hx rfl (pc0 := 70) (pc' := 31) rfl (hb hby d3_70) (by decide) (by decide) hr) ?_
  show OwnR _ _ _ _ _ _ _ (T1.setTop (mkF m 31 #[.val (.ref a1), .val (.ref a2), .val (.ref a3), .val .null, .val (.int (3 : Int32))] []))
  refine OwnR.of (fun _ hr => XS.iload X1.here hx rfl (hb hby d3_31) rfl hr) ?_
  show OwnR _ _ _ _ _ _ _ (T1.setTop (mkF m 33 #[.val (.ref a1), .val (.ref a2), .val (.ref a3), .val .null, .val (.int (3 : Int32))] [(.int (3 : Int32))]))
  refine OwnR.of (fun _ hr => XS.aloadN X1.here hx rfl (hb hby d3_33) rfl rfl hr) ?_
  show OwnR _ _ _ _ _ _ _ (T1.setTop (mkF m 34 #[.val (.ref a1), .val (.ref a2), .val (.ref a3), .val .null, .val (.int (3 : Int32))] [(.ref a2), (.int (3 : Int32))]))
  obtain ⟨cl10, Ar10, -, S10, N10, -, -⟩ := id V_a2
  refine OwnR.of (X1.arraylength hx (by rw [e1]; exact Ar10.1) (State.isArrayOf_alike hZ.alike Ar10.2.1) (g := (mkF m 34 #[.val (.ref a1), .val (.ref a2), .val (.ref a3), .val .null, .val (.int (3 : Int32))] [(.ref a2), (.int (3 : Int32))])) rfl rfl (hb hby d3_34)) ?_
  show OwnR _ _ _ _ _ _ _ (T1.setTop (mkF m 35 #[.val (.ref a1), .val (.ref a2), .val (.ref a3), .val .null, .val (.int (3 : Int32))] [(.int cl10.slots.size.toInt32), (.int (3 : Int32))]))
  rw [len_of S10 N10]
  show OwnR _ _ _ _ _ _ _ (T1.setTop (mkF m 35 #[.val (.ref a1), .val (.ref a2), .val (.ref a3), .val .null, .val (.int (3 : Int32))] [(.int (4 : Int32)), (.int (3 : Int32))]))
  refine OwnR.of (fun _ hr => XS.icmpNo X1.here hx rfl (hb hby d3_35) rfl (tlt (by decide : (3 : Int32) < (4 : Int32))).2.1 hr) ?_
  show OwnR _ _ _ _ _ _ _ (T1.setTop (mkF m 38 #[.val (.ref a1), .val (.ref a2), .val (.ref a3), .val .null, .val (.int (3 : Int32))] []))
  refine OwnR.of (fun _ hr => XS.aloadN X1.here hx rfl (hb hby d3_38) rfl rfl hr) ?_
  show OwnR _ _ _ _ _ _ _ (T1.setTop (mkF m 39 #[.val (.ref a1), .val (.ref a2), .val (.ref a3), .val .null, .val (.int (3 : Int32))] [(.ref a2)]))
  refine OwnR.of (fun _ hr => XS.iload X1.here hx rfl (hb hby d3_39) rfl hr) ?_
  show OwnR _ _ _ _ _ _ _ (T1.setTop (mkF m 41 #[.val (.ref a1), .val (.ref a2), .val (.ref a3), .val .null, .val (.int (3 : Int32))] [(.int (3 : Int32)), (.ref a2)]))
  obtain ⟨cl11, Ar11, -, S11, N11, H11, G11⟩ := id V_a2
  have hin11 : ¬ ((3 : Int32) < 0 ∨ cl11.slots.size ≤ ((3 : Int32)).toNatClampNeg) := (inb_of S11 ⟨by decide, by decide⟩)
  refine OwnR.of (X1.iaload hx (j := (3 : Int32)) (v := (.int x3)) (by rw [e1]; exact Ar11.1) (State.isArrayOf_alike hZ.alike Ar11.2.1) Ar11.2.2 hin11 (Has.at H11 hin11 rfl) (g := (mkF m 41 #[.val (.ref a1), .val (.ref a2), .val (.ref a3), .val .null, .val (.int (3 : Int32))] [(.int (3 : Int32)), (.ref a2)])) rfl rfl (hb hby d3_41)) ?_
  show OwnR _ _ _ _ _ _ _ (T1.setTop (mkF m 42 #[.val (.ref a1), .val (.ref a2), .val (.ref a3), .val .null, .val (.int (3 : Int32))] [(.int x3)]))
  refine OwnR.of (fun _ hr => XS.iconst X1.here hx rfl (hb hby d3_42) hr) ?_
  show OwnR _ _ _ _ _ _ _ (T1.setTop (mkF m 43 #[.val (.ref a1), .val (.ref a2), .val (.ref a3), .val .null, .val (.int (3 : Int32))] [(.int (1 : Int32)), (.int x3)]))
  refine OwnR.of (fun _ hr => XS.icmpYes X1.here hx rfl (pc0 := 43) (pc' := 67) rfl (hb hby d3_43) rfl (flt hx3).2.1 (by decide) (by decide) hr) ?_
  show OwnR _ _ _ _ _ _ _ (T1.setTop (mkF m 67 #[.val (.ref a1), .val (.ref a2), .val (.ref a3), .val .null, .val (.int (3 : Int32))] []))
  refine OwnR.of (fun _ hr => XS.iinc X1.here hx rfl (hb hby d3_67) rfl (l' := #[.val (.ref a1), .val (.ref a2), .val (.ref a3), .val .null, .val (.int ((3 : Int32) + (1 : Int32)))]) rfl hr) ?_
  show OwnR _ _ _ _ _ _ _ (T1.setTop (mkF m 70 #[.val (.ref a1), .val (.ref a2), .val (.ref a3), .val .null, .val (.int ((3 : Int32) + (1 : Int32)))] []))
  rw [(by decide : ((3 : Int32) + (1 : Int32)) = (4 : Int32))]
  show OwnR _ _ _ _ _ _ _ (T1.setTop (mkF m 70 #[.val (.ref a1), .val (.ref a2), .val (.ref a3), .val .null, .val (.int (4 : Int32))] []))
  refine OwnR.of (fun _ hr => XS.goto X1.here hx rfl (pc0 := 70) (pc' := 31) rfl (hb hby d3_70) (by decide) (by decide) hr) ?_
  show OwnR _ _ _ _ _ _ _ (T1.setTop (mkF m 31 #[.val (.ref a1), .val (.ref a2), .val (.ref a3), .val .null, .val (.int (4 : Int32))] []))
  refine OwnR.of (fun _ hr => XS.iload X1.here hx rfl (hb hby d3_31) rfl hr) ?_
  show OwnR _ _ _ _ _ _ _ (T1.setTop (mkF m 33 #[.val (.ref a1), .val (.ref a2), .val (.ref a3), .val .null, .val (.int (4 : Int32))] [(.int (4 : Int32))]))
  refine OwnR.of (fun _ hr => XS.aloadN X1.here hx rfl (hb hby d3_33) rfl rfl hr) ?_
  show OwnR _ _ _ _ _ _ _ (T1.setTop (mkF m 34 #[.val (.ref a1), .val (.ref a2), .val (.ref a3), .val .null, .val (.int (4 : Int32))] [(.ref a2), (.int (4 : Int32))]))
  obtain ⟨cl12, Ar12, -, S12, N12, -, -⟩ := id V_a2
  refine OwnR.of (X1.arraylength hx (by rw [e1]; exact Ar12.1) (State.isArrayOf_alike hZ.alike Ar12.2.1) (g := (mkF m 34 #[.val (.ref a1), .val (.ref a2), .val (.ref a3), .val .null, .val (.int (4 : Int32))] [(.ref a2), (.int (4 : Int32))])) rfl rfl (hb hby d3_34)) ?_
  show OwnR _ _ _ _ _ _ _ (T1.setTop (mkF m 35 #[.val (.ref a1), .val (.ref a2), .val (.ref a3), .val .null, .val (.int (4 : Int32))] [(.int cl12.slots.size.toInt32), (.int (4 : Int32))]))
  rw [len_of S12 N12]
  show OwnR _ _ _ _ _ _ _ (T1.setTop (mkF m 35 #[.val (.ref a1), .val (.ref a2), .val (.ref a3), .val .null, .val (.int (4 : Int32))] [(.int (4 : Int32)), (.int (4 : Int32))]))
  refine OwnR.of (fun _ hr => XS.icmpYes X1.here hx rfl (pc0 := 35) (pc' := 73) rfl (hb hby d3_35) rfl (flt (by decide : ¬ ((4 : Int32) < (4 : Int32)))).2.1 (by decide) (by decide) hr) ?_
  show OwnR _ _ _ _ _ _ _ (T1.setTop (mkF m 73 #[.val (.ref a1), .val (.ref a2), .val (.ref a3), .val .null, .val (.int (4 : Int32))] []))
  refine OwnR.of (fun _ hr => XS.aloadN X1.here hx rfl (hb hby d3_73) rfl rfl hr) ?_
  show OwnR _ _ _ _ _ _ _ (T1.setTop (mkF m 74 #[.val (.ref a1), .val (.ref a2), .val (.ref a3), .val .null, .val (.int (4 : Int32))] [(.ref a1)]))
  refine OwnR.of (fun _ hr => XS.aloadN X1.here hx rfl (hb hby d3_74) rfl rfl hr) ?_
  show OwnR _ _ _ _ _ _ _ (T1.setTop (mkF m 75 #[.val (.ref a1), .val (.ref a2), .val (.ref a3), .val .null, .val (.int (4 : Int32))] [(.ref a2), (.ref a1)]))
  obtain ⟨T13, h13, X13, e13, E13, V13, AE13, st13⟩ := cloneH X1 hx hZ hown (hw _ (List.mem_of_getElem? (i := 20) rfl)) (hw _ (List.mem_of_getElem? (i := 21) rfl)) (hw _ (List.mem_of_getElem? (i := 25) rfl)) (hw _ (List.mem_of_getElem? (i := 23) rfl)) (hw _ (List.mem_of_getElem? (i := 24) rfl)) (hw _ (List.mem_of_getElem? (i := 26) rfl)) e1 (Arv.arh V_a2) E_a2 (g := (mkF m 75 #[.val (.ref a1), .val (.ref a2), .val (.ref a3), .val .null, .val (.int (4 : Int32))] [(.ref a2), (.ref a1)])) rfl (by rw [hml]; rfl) rfl (hb hby d3_75) (by decide) (W := 1) (by show 2 * 0 + _ ≤ _; exact Nat.le_of_eq rfl) (by decide) (cap := 4) (by decide) (by decide) (by decide)
  obtain ⟨b13, g13⟩ : ∃ z, z = h0.size := ⟨_, rfl⟩
  rw [← g13] at V13 AE13 st13
  refine OwnR.of (st13) ?_
  have gn_b13 : n0 ≤ b13 := Nat.le_trans (Nat.le_trans Z0 (Keep.refl h0 [a1]).1) (Nat.le_of_eq g13.symm)
  have sz_b13 : h0.size ≤ b13 := Nat.le_trans (Keep.refl h0 [a1]).1 (Nat.le_of_eq g13.symm)
  have K13 : Keep h0 h13 [a1] := Keep.ext (Keep.refl h0 [a1]) E13
  have V13 : Arv Z h13 b13 k2 .int (4 : Int32) [(.int x0), (.int x1), (.int x2), (.int x3)] (.int (0 : Int32)) := V13
  show OwnR _ _ _ _ _ _ _ (T13.setTop (mkF m 78 #[.val (.ref a1), .val (.ref a2), .val (.ref a3), .val .null, .val (.int (4 : Int32))] [(.ref b13), (.ref a1)]))
  obtain ⟨T14, X14, e14, st14⟩ := castY X13 hx hZ hown (hw _ (List.mem_of_getElem? (i := 27) rfl)) e13 (Ins.self AE13) (g := (mkF m 78 #[.val (.ref a1), .val (.ref a2), .val (.ref a3), .val .null, .val (.int (4 : Int32))] [(.ref b13), (.ref a1)])) rfl rfl (hb hby d3_78)
  refine OwnR.of (st14) ?_
  show OwnR _ _ _ _ _ _ _ (T14.setTop (mkF m 81 #[.val (.ref a1), .val (.ref a2), .val (.ref a3), .val .null, .val (.int (4 : Int32))] [(.ref b13), (.ref a1)]))
  obtain ⟨T15, h15, X15, e15, W15, st15⟩ := putF X14 hx hZ hown (host := "") (Or.inl (hw _ (List.mem_of_getElem? (i := 29) rfl))) Via.refl e14 (Fld.ext E13 F_branches_a1) (Exa.keep E_a1 K13) (Or.inr ⟨(hw _ (List.mem_of_getElem? (i := 30) rfl)), rfl, hnm⟩) (hw _ (List.mem_of_getElem? (i := 12) rfl)) (ty := (.array .int)) (by decide) rfl rfl (g := (mkF m 81 #[.val (.ref a1), .val (.ref a2), .val (.ref a3), .val .null, .val (.int (4 : Int32))] [(.ref b13), (.ref a1)])) rfl rfl (hb hby d3_81)
  refine OwnR.of (st15) ?_
  have F15 := Fld.same W15 (Fld.ext E13 F_branches_a1)
  have K15 : Keep h0 h15 [a1] := Keep.wr K13 W15 (Or.inl (List.mem_of_getElem? (i := 0) rfl))
  have N15 := Fr.snoc X15 N0 g_a1
  show OwnR _ _ _ _ _ _ _ (T15.setTop (mkF m 84 #[.val (.ref a1), .val (.ref a2), .val (.ref a3), .val .null, .val (.int (4 : Int32))] []))
  refine OwnR.of (fun _ hr => XS.aloadN X15.here hx rfl (hb hby d3_84) rfl rfl hr) ?_
  show OwnR _ _ _ _ _ _ _ (T15.setTop (mkF m 85 #[.val (.ref a1), .val (.ref a2), .val (.ref a3), .val .null, .val (.int (4 : Int32))] [(.ref a1)]))
  refine OwnR.of (fun _ hr => XS.aloadN X15.here hx rfl (hb hby d3_85) rfl rfl hr) ?_
  show OwnR _ _ _ _ _ _ _ (T15.setTop (mkF m 86 #[.val (.ref a1), .val (.ref a2), .val (.ref a3), .val .null, .val (.int (4 : Int32))] [(.ref a3), (.ref a1)]))
  obtain ⟨T16, h16, X16, e16, E16, V16, AE16, st16⟩ := cloneH X15 hx hZ hown (hw _ (List.mem_of_getElem? (i := 31) rfl)) (hw _ (List.mem_of_getElem? (i := 32) rfl)) (hw _ (List.mem_of_getElem? (i := 25) rfl)) (hw _ (List.mem_of_getElem? (i := 23) rfl)) (hw _ (List.mem_of_getElem? (i := 33) rfl)) (hw _ (List.mem_of_getElem? (i := 34) rfl)) e15 (Arv.arh (Arv.keep V_a3 K15 (ninS (Ne.symm ne_13) nin0))) (Exa.keep E_a3 K15) (g := (mkF m 86 #[.val (.ref a1), .val (.ref a2), .val (.ref a3), .val .null, .val (.int (4 : Int32))] [(.ref a3), (.ref a1)])) rfl (by rw [hml]; rfl) rfl (hb hby d3_86) (by decide) (W := 1) (by show 2 * 0 + _ ≤ _; exact Nat.le_of_eq rfl) (by decide) (cap := 4) (by decide) (by decide) (by decide)
  obtain ⟨b16, g16⟩ : ∃ z, z = h15.size := ⟨_, rfl⟩
  rw [← g16] at V16 AE16 st16
  refine OwnR.of (st16) ?_
  have gn_b16 : n0 ≤ b16 := Nat.le_trans (Nat.le_trans Z0 K15.1) (Nat.le_of_eq g16.symm)
  have sz_b16 : h0.size ≤ b16 := Nat.le_trans K15.1 (Nat.le_of_eq g16.symm)
  have K16 : Keep h0 h16 [a1] := Keep.ext K15 E16
  have V16 : Arv Z h16 b16 k3 .double (4 : Int32) [(defaultValue .double), (defaultValue .double), (defaultValue .double), (defaultValue .double)] (defaultValue .double) := V16
  show OwnR _ _ _ _ _ _ _ (T16.setTop (mkF m 89 #[.val (.ref a1), .val (.ref a2), .val (.ref a3), .val .null, .val (.int (4 : Int32))] [(.ref b16), (.ref a1)]))
  obtain ⟨T17, X17, e17, st17⟩ := castY X16 hx hZ hown (hw _ (List.mem_of_getElem? (i := 35) rfl)) e16 (Ins.self AE16) (g := (mkF m 89 #[.val (.ref a1), .val (.ref a2), .val (.ref a3), .val .null, .val (.int (4 : Int32))] [(.ref b16), (.ref a1)])) rfl rfl (hb hby d3_89)
  refine OwnR.of (st17) ?_
  show OwnR _ _ _ _ _ _ _ (T17.setTop (mkF m 92 #[.val (.ref a1), .val (.ref a2), .val (.ref a3), .val .null, .val (.int (4 : Int32))] [(.ref b16), (.ref a1)]))
  obtain ⟨T18, h18, X18, e18, W18, st18⟩ := putF X17 hx hZ hown (host := "") (Or.inl (hw _ (List.mem_of_getElem? (i := 37) rfl))) Via.refl e17 (Fld.ext E16 (Fld.other W15 (Fld.ext E13 F_lengths_a1) (Or.inr (slot_ne (Or.inr (hw _ (List.mem_of_getElem? (i := 38) rfl))) (Or.inr (hw _ (List.mem_of_getElem? (i := 30) rfl))) (by decide) (t := (.array .double)) (t' := (.array .int)) (by decide) (by decide))))) (Exa.keep E_a1 K16) (Or.inr ⟨(hw _ (List.mem_of_getElem? (i := 38) rfl)), rfl, hnm⟩) (hw _ (List.mem_of_getElem? (i := 12) rfl)) (ty := (.array .double)) (by decide) rfl rfl (g := (mkF m 92 #[.val (.ref a1), .val (.ref a2), .val (.ref a3), .val .null, .val (.int (4 : Int32))] [(.ref b16), (.ref a1)])) rfl rfl (hb hby d3_92)
  refine OwnR.of (st18) ?_
  have F18 := Fld.same W18 (Fld.ext E16 (Fld.other W15 (Fld.ext E13 F_lengths_a1) (Or.inr (slot_ne (Or.inr (hw _ (List.mem_of_getElem? (i := 38) rfl))) (Or.inr (hw _ (List.mem_of_getElem? (i := 30) rfl))) (by decide) (t := (.array .double)) (t' := (.array .int)) (by decide) (by decide)))))
  have K18 : Keep h0 h18 [a1] := Keep.wr K16 W18 (Or.inl (List.mem_of_getElem? (i := 0) rfl))
  have N18 := Fr.snoc X18 N15 g_a1
  show OwnR _ _ _ _ _ _ _ (T18.setTop (mkF m 95 #[.val (.ref a1), .val (.ref a2), .val (.ref a3), .val .null, .val (.int (4 : Int32))] []))
  refine OwnR.of (fun _ hr => XS.aloadN X18.here hx rfl (hb hby d3_95) rfl rfl hr) ?_
  show OwnR _ _ _ _ _ _ _ (T18.setTop (mkF m 96 #[.val (.ref a1), .val (.ref a2), .val (.ref a3), .val .null, .val (.int (4 : Int32))] [(.ref a1)]))
  refine OwnR.of (fun _ hr => XS.aloadN X18.here hx rfl (hb hby d3_96) rfl rfl hr) ?_
  show OwnR _ _ _ _ _ _ _ (T18.setTop (mkF m 97 #[.val (.ref a1), .val (.ref a2), .val (.ref a3), .val .null, .val (.int (4 : Int32))] [.null, (.ref a1)]))
  obtain ⟨T19, h19, X19, e19, W19, st19⟩ := putF X18 hx hZ hown (host := "") (Or.inl (hw _ (List.mem_of_getElem? (i := 39) rfl))) Via.refl e18 (Fld.other W18 (Fld.ext E16 (Fld.other W15 (Fld.ext E13 F_unit_a1) (Or.inr (slot_ne (Or.inr (hw _ (List.mem_of_getElem? (i := 40) rfl))) (Or.inr (hw _ (List.mem_of_getElem? (i := 30) rfl))) (by decide) (t := (.object "java/util/Optional")) (t' := (.array .int)) (by decide) (by decide))))) (Or.inr (slot_ne (Or.inr (hw _ (List.mem_of_getElem? (i := 40) rfl))) (Or.inr (hw _ (List.mem_of_getElem? (i := 38) rfl))) (by decide) (t := (.object "java/util/Optional")) (t' := (.array .double)) (by decide) (by decide)))) (Exa.keep E_a1 K18) (Or.inr ⟨(hw _ (List.mem_of_getElem? (i := 40) rfl)), rfl, hnm⟩) (hw _ (List.mem_of_getElem? (i := 12) rfl)) (ty := (.object "java/util/Optional")) (by decide) rfl rfl (g := (mkF m 97 #[.val (.ref a1), .val (.ref a2), .val (.ref a3), .val .null, .val (.int (4 : Int32))] [.null, (.ref a1)])) rfl rfl (hb hby d3_97)
  refine OwnR.of (st19) ?_
  have F19 := Fld.same W19 (Fld.other W18 (Fld.ext E16 (Fld.other W15 (Fld.ext E13 F_unit_a1) (Or.inr (slot_ne (Or.inr (hw _ (List.mem_of_getElem? (i := 40) rfl))) (Or.inr (hw _ (List.mem_of_getElem? (i := 30) rfl))) (by decide) (t := (.object "java/util/Optional")) (t' := (.array .int)) (by decide) (by decide))))) (Or.inr (slot_ne (Or.inr (hw _ (List.mem_of_getElem? (i := 40) rfl))) (Or.inr (hw _ (List.mem_of_getElem? (i := 38) rfl))) (by decide) (t := (.object "java/util/Optional")) (t' := (.array .double)) (by decide) (by decide))))
  have K19 : Keep h0 h19 [a1] := Keep.wr K18 W19 (Or.inl (List.mem_of_getElem? (i := 0) rfl))
  have N19 := Fr.snoc X19 N18 g_a1
  show OwnR _ _ _ _ _ _ _ (T19.setTop (mkF m 100 #[.val (.ref a1), .val (.ref a2), .val (.ref a3), .val .null, .val (.int (4 : Int32))] []))
  refine own_leafV X19 hx hlk Bd.returns (hb hby d3_100) (by decide) (by decide) ?_
  show Q3_4 Z a1 k2 x0 x1 x2 x3 h0 n0 _ T19.heap _
  rw [show T19.heap = h19 from e19]
  refine ⟨b13, rfl, N19, ⟨K19, (Exa.keep E_a1 K19), (Fld.other W19 (Fld.other W18 (Fld.ext E16 F15) (Or.inr (slot_ne (Or.inr (hw _ (List.mem_of_getElem? (i := 30) rfl))) (Or.inr (hw _ (List.mem_of_getElem? (i := 38) rfl))) (by decide) (t := (.array .int)) (t' := (.array .double)) (by decide) (by decide)))) (Or.inr (slot_ne (Or.inr (hw _ (List.mem_of_getElem? (i := 30) rfl))) (Or.inr (hw _ (List.mem_of_getElem? (i := 40) rfl))) (by decide) (t := (.array .int)) (t' := (.object "java/util/Optional")) (by decide) (by decide)))), (Arv.other (Arv.other (Arv.ext (Arv.other V13 W15 (Ne.symm (Nat.ne_of_lt (Nat.lt_of_lt_of_le E_a1.lt (Nat.le_of_eq g13.symm))))) E16) W18 (Ne.symm (Nat.ne_of_lt (Nat.lt_of_lt_of_le E_a1.lt (Nat.le_of_eq g13.symm))))) W19 (Ne.symm (Nat.ne_of_lt (Nat.lt_of_lt_of_le E_a1.lt (Nat.le_of_eq g13.symm)))))⟩⟩
theorem ef_rm5_4 (m : MethodId) (x0 : Addr) : entryFrame m #[(.ref x0)] 7 = mkF m 0 #[.val (.ref x0), .unset, .unset, .unset, .unset, .unset, .unset] [] := by first | (simp [entryFrame, mkF, argsToLocals, Value.category]; done) | rfl
def Q5_4 (Z : State) (x0 : Int32) (x1 : Int32) (x2 : Int32) (x3 : Int32) (h0 : Heap) (n0 : Nat) (v : Option Value) (h : Heap) (L : List Loc) : Prop := v = some (.long (((((0 : Int64) + (x0.toInt64)) + (x1.toInt64)) + (x2.toInt64)) + (x3.toInt64))) ∧ Fr n0 L ∧ h = h0
set_option maxRecDepth 65536 in
set_option maxHeartbeats 40000000 in
theorem rm5_4 (l : Launch) (Z : State) (a0 : Array Value) (hw : ∀ d ∈ tables_1, d.before a0 Z = true) (ws : List Jvm.Cond) (a1 : Addr) (a2 : Addr) (k2 : ClassId) (x0 x1 x2 x3 : Int32) (h0 : Heap) (n0 : Nat) (Z0 : n0 ≤ h0.size) (E_a1 : Exa Z h0 a1 "com/example/ramification/ramification/model/StrahlerOrders") (F_branches_a1 : Fld Z h0 a1 "com/example/ramification/ramification/model/StrahlerOrders" "branches" "[I" (.ref a2)) (V_a2 : Arv Z h0 a2 k2 .int (4 : Int32) [(.int x0), (.int x1), (.int x2), (.int x3)] (.int (0 : Int32))) :
    MetFree l (⟨"com/example/ramification/ramification/model/StrahlerOrders", "getTotalBranches", "()J"⟩ : MethodName) (head1 (Jvm.Cond.code (⟨"com/example/ramification/ramification/model/StrahlerOrders", "getTotalBranches", "()J"⟩ : MethodName) prog_88_method_7_code 7 (some .long) :: ws) ({ frames := 0, cells := 0, slots := 0, locals := 0 } : Room)) (fun a U => a = #[(.ref a1)] ∧ Z.Warmed39 U.vm ∧ U.heap = h0) (fun _ _ _ _ _ => True) (fun _ U o U' => ∃ v L, o = .returned v ∧ Q5_4 Z x0 x1 x2 x3 h0 n0 v U'.heap L ∧ FrameEnd U o U' L ({ frames := 0, cells := 0, slots := 0, locals := 0 } : Room).cells ({ frames := 0, cells := 0, slots := 0, locals := 0 } : Room).slots) := by
  refine MetFree.of_bodySF (plainFor_of_name pn_com_example_ramification_ramification_model_StrahlerOrders) hisR ?_
  intro p e s m args below meth c s₁ Bd hml0 hP hK
  obtain ⟨rfl, hZ, hh⟩ := hP
  have hx := Bd.exec
  have hby := Bd.bytes
  have hlk := BodyLoose.notSynchronized Bd
  have hml : c.maxLocals = 7 := hml0
  have hown : s.vm.findClass "com/example/ramification/ramification/model/StrahlerOrders" = some m.cls := findClass_of_methodNamed Bd.named
  have hnm := (name_of_methodNamed Bd.named Bd.method).1
  have X0 : Stand p l e ({ frames := 0, cells := 0, slots := 0, locals := 0 } : Room) s m #[(.ref a1)] below meth c s₁ [] 0 0 := Stand.of_body Bd
  have e0 : s₁.heap = h0 := by rw [← hh, Bd.state]; rfl
  have N0 := Fr.nil n0
  refine OwnR.of (s := s) (Q := Q5_4 Z x0 x1 x2 x3 h0 n0) (fun t k => castTop (ef_rm5_4 m a1) k) ?_
  show OwnR _ _ _ _ _ _ _ (s₁.setTop (mkF m 0 #[.val (.ref a1), .unset, .unset, .unset, .unset, .unset, .unset] []))
  refine OwnR.of (fun _ hr => XS.lconst X0.here hx rfl (hb hby d5_0) hr) ?_
  show OwnR _ _ _ _ _ _ _ (s₁.setTop (mkF m 1 #[.val (.ref a1), .unset, .unset, .unset, .unset, .unset, .unset] [(.long (0 : Int64))]))
  refine OwnR.of (fun _ hr => XS.lstoreN X0.here hx rfl (hb hby d5_1) rfl (l' := #[.val (.ref a1), .val (.long (0 : Int64)), .second, .unset, .unset, .unset, .unset]) rfl hr) ?_
  show OwnR _ _ _ _ _ _ _ (s₁.setTop (mkF m 2 #[.val (.ref a1), .val (.long (0 : Int64)), .second, .unset, .unset, .unset, .unset] []))
  refine OwnR.of (fun _ hr => XS.aloadN X0.here hx rfl (hb hby d5_2) rfl rfl hr) ?_
  show OwnR _ _ _ _ _ _ _ (s₁.setTop (mkF m 3 #[.val (.ref a1), .val (.long (0 : Int64)), .second, .unset, .unset, .unset, .unset] [(.ref a1)]))
  obtain ⟨T1, X1, e1, st1⟩ := getF X0 hx hZ hown (host := "") (Or.inl (hw _ (List.mem_of_getElem? (i := 29) rfl))) Via.refl e0 F_branches_a1 (g := (mkF m 3 #[.val (.ref a1), .val (.long (0 : Int64)), .second, .unset, .unset, .unset, .unset] [(.ref a1)])) rfl rfl (hb hby d5_3)
  refine OwnR.of (st1) ?_
  show OwnR _ _ _ _ _ _ _ (T1.setTop (mkF m 6 #[.val (.ref a1), .val (.long (0 : Int64)), .second, .unset, .unset, .unset, .unset] [(.ref a2)]))
  refine OwnR.of (fun _ hr => XS.astoreN X1.here hx rfl (hb hby d5_6) rfl rfl (l' := #[.val (.ref a1), .val (.long (0 : Int64)), .second, .val (.ref a2), .unset, .unset, .unset]) rfl hr) ?_
  show OwnR _ _ _ _ _ _ _ (T1.setTop (mkF m 7 #[.val (.ref a1), .val (.long (0 : Int64)), .second, .val (.ref a2), .unset, .unset, .unset] []))
  refine OwnR.of (fun _ hr => XS.aloadN X1.here hx rfl (hb hby d5_7) rfl rfl hr) ?_
  show OwnR _ _ _ _ _ _ _ (T1.setTop (mkF m 8 #[.val (.ref a1), .val (.long (0 : Int64)), .second, .val (.ref a2), .unset, .unset, .unset] [(.ref a2)]))
  obtain ⟨cl2, Ar2, -, S2, N2, -, -⟩ := id V_a2
  refine OwnR.of (X1.arraylength hx (by rw [e1]; exact Ar2.1) (State.isArrayOf_alike hZ.alike Ar2.2.1) (g := (mkF m 8 #[.val (.ref a1), .val (.long (0 : Int64)), .second, .val (.ref a2), .unset, .unset, .unset] [(.ref a2)])) rfl rfl (hb hby d5_8)) ?_
  show OwnR _ _ _ _ _ _ _ (T1.setTop (mkF m 9 #[.val (.ref a1), .val (.long (0 : Int64)), .second, .val (.ref a2), .unset, .unset, .unset] [(.int cl2.slots.size.toInt32)]))
  rw [len_of S2 N2]
  show OwnR _ _ _ _ _ _ _ (T1.setTop (mkF m 9 #[.val (.ref a1), .val (.long (0 : Int64)), .second, .val (.ref a2), .unset, .unset, .unset] [(.int (4 : Int32))]))
  refine OwnR.of (fun _ hr => XS.istore X1.here hx rfl (hb hby d5_9) rfl (l' := #[.val (.ref a1), .val (.long (0 : Int64)), .second, .val (.ref a2), .val (.int (4 : Int32)), .unset, .unset]) rfl hr) ?_
  show OwnR _ _ _ _ _ _ _ (T1.setTop (mkF m 11 #[.val (.ref a1), .val (.long (0 : Int64)), .second, .val (.ref a2), .val (.int (4 : Int32)), .unset, .unset] []))
  refine OwnR.of (fun _ hr => XS.iconst X1.here hx rfl (hb hby d5_11) hr) ?_
  show OwnR _ _ _ _ _ _ _ (T1.setTop (mkF m 12 #[.val (.ref a1), .val (.long (0 : Int64)), .second, .val (.ref a2), .val (.int (4 : Int32)), .unset, .unset] [(.int (0 : Int32))]))
  refine OwnR.of (fun _ hr => XS.istore X1.here hx rfl (hb hby d5_12) rfl (l' := #[.val (.ref a1), .val (.long (0 : Int64)), .second, .val (.ref a2), .val (.int (4 : Int32)), .val (.int (0 : Int32)), .unset]) rfl hr) ?_
  show OwnR _ _ _ _ _ _ _ (T1.setTop (mkF m 14 #[.val (.ref a1), .val (.long (0 : Int64)), .second, .val (.ref a2), .val (.int (4 : Int32)), .val (.int (0 : Int32)), .unset] []))
  refine OwnR.of (fun _ hr => XS.iload X1.here hx rfl (hb hby d5_14) rfl hr) ?_
  show OwnR _ _ _ _ _ _ _ (T1.setTop (mkF m 16 #[.val (.ref a1), .val (.long (0 : Int64)), .second, .val (.ref a2), .val (.int (4 : Int32)), .val (.int (0 : Int32)), .unset] [(.int (0 : Int32))]))
  refine OwnR.of (fun _ hr => XS.iload X1.here hx rfl (hb hby d5_16) rfl hr) ?_
  show OwnR _ _ _ _ _ _ _ (T1.setTop (mkF m 18 #[.val (.ref a1), .val (.long (0 : Int64)), .second, .val (.ref a2), .val (.int (4 : Int32)), .val (.int (0 : Int32)), .unset] [(.int (4 : Int32)), (.int (0 : Int32))]))
  refine OwnR.of (fun _ hr => XS.icmpNo X1.here hx rfl (hb hby d5_18) rfl (tlt (by decide : (0 : Int32) < (4 : Int32))).2.1 hr) ?_
  show OwnR _ _ _ _ _ _ _ (T1.setTop (mkF m 21 #[.val (.ref a1), .val (.long (0 : Int64)), .second, .val (.ref a2), .val (.int (4 : Int32)), .val (.int (0 : Int32)), .unset] []))
  refine OwnR.of (fun _ hr => XS.aloadN X1.here hx rfl (hb hby d5_21) rfl rfl hr) ?_
  show OwnR _ _ _ _ _ _ _ (T1.setTop (mkF m 22 #[.val (.ref a1), .val (.long (0 : Int64)), .second, .val (.ref a2), .val (.int (4 : Int32)), .val (.int (0 : Int32)), .unset] [(.ref a2)]))
  refine OwnR.of (fun _ hr => XS.iload X1.here hx rfl (hb hby d5_22) rfl hr) ?_
  show OwnR _ _ _ _ _ _ _ (T1.setTop (mkF m 24 #[.val (.ref a1), .val (.long (0 : Int64)), .second, .val (.ref a2), .val (.int (4 : Int32)), .val (.int (0 : Int32)), .unset] [(.int (0 : Int32)), (.ref a2)]))
  obtain ⟨cl3, Ar3, -, S3, N3, H3, G3⟩ := id V_a2
  have hin3 : ¬ ((0 : Int32) < 0 ∨ cl3.slots.size ≤ ((0 : Int32)).toNatClampNeg) := (inb_of S3 ⟨by decide, by decide⟩)
  refine OwnR.of (X1.iaload hx (j := (0 : Int32)) (v := (.int x0)) (by rw [e1]; exact Ar3.1) (State.isArrayOf_alike hZ.alike Ar3.2.1) Ar3.2.2 hin3 (Has.at H3 hin3 rfl) (g := (mkF m 24 #[.val (.ref a1), .val (.long (0 : Int64)), .second, .val (.ref a2), .val (.int (4 : Int32)), .val (.int (0 : Int32)), .unset] [(.int (0 : Int32)), (.ref a2)])) rfl rfl (hb hby d5_24)) ?_
  show OwnR _ _ _ _ _ _ _ (T1.setTop (mkF m 25 #[.val (.ref a1), .val (.long (0 : Int64)), .second, .val (.ref a2), .val (.int (4 : Int32)), .val (.int (0 : Int32)), .unset] [(.int x0)]))
  refine OwnR.of (fun _ hr => XS.istore X1.here hx rfl (hb hby d5_25) rfl (l' := #[.val (.ref a1), .val (.long (0 : Int64)), .second, .val (.ref a2), .val (.int (4 : Int32)), .val (.int (0 : Int32)), .val (.int x0)]) rfl hr) ?_
  show OwnR _ _ _ _ _ _ _ (T1.setTop (mkF m 27 #[.val (.ref a1), .val (.long (0 : Int64)), .second, .val (.ref a2), .val (.int (4 : Int32)), .val (.int (0 : Int32)), .val (.int x0)] []))
  refine OwnR.of (fun _ hr => XS.lloadN X1.here hx rfl (hb hby d5_27) rfl hr) ?_
  show OwnR _ _ _ _ _ _ _ (T1.setTop (mkF m 28 #[.val (.ref a1), .val (.long (0 : Int64)), .second, .val (.ref a2), .val (.int (4 : Int32)), .val (.int (0 : Int32)), .val (.int x0)] [(.long (0 : Int64))]))
  refine OwnR.of (fun _ hr => XS.iload X1.here hx rfl (hb hby d5_28) rfl hr) ?_
  show OwnR _ _ _ _ _ _ _ (T1.setTop (mkF m 30 #[.val (.ref a1), .val (.long (0 : Int64)), .second, .val (.ref a2), .val (.int (4 : Int32)), .val (.int (0 : Int32)), .val (.int x0)] [(.int x0), (.long (0 : Int64))]))
  refine OwnR.of (fun _ hr => XS.i2l X1.here hx rfl (hb hby d5_30) rfl hr) ?_
  show OwnR _ _ _ _ _ _ _ (T1.setTop (mkF m 31 #[.val (.ref a1), .val (.long (0 : Int64)), .second, .val (.ref a2), .val (.int (4 : Int32)), .val (.int (0 : Int32)), .val (.int x0)] [(.long (x0.toInt64)), (.long (0 : Int64))]))
  refine OwnR.of (fun _ hr => XS.ladd X1.here hx rfl (hb hby d5_31) rfl hr) ?_
  show OwnR _ _ _ _ _ _ _ (T1.setTop (mkF m 32 #[.val (.ref a1), .val (.long (0 : Int64)), .second, .val (.ref a2), .val (.int (4 : Int32)), .val (.int (0 : Int32)), .val (.int x0)] [(.long ((0 : Int64) + (x0.toInt64)))]))
  refine OwnR.of (fun _ hr => XS.lstoreN X1.here hx rfl (hb hby d5_32) rfl (l' := #[.val (.ref a1), .val (.long ((0 : Int64) + (x0.toInt64))), .second, .val (.ref a2), .val (.int (4 : Int32)), .val (.int (0 : Int32)), .val (.int x0)]) rfl hr) ?_
  show OwnR _ _ _ _ _ _ _ (T1.setTop (mkF m 33 #[.val (.ref a1), .val (.long ((0 : Int64) + (x0.toInt64))), .second, .val (.ref a2), .val (.int (4 : Int32)), .val (.int (0 : Int32)), .val (.int x0)] []))
  refine OwnR.of (fun _ hr => XS.iinc X1.here hx rfl (hb hby d5_33) rfl (l' := #[.val (.ref a1), .val (.long ((0 : Int64) + (x0.toInt64))), .second, .val (.ref a2), .val (.int (4 : Int32)), .val (.int ((0 : Int32) + (1 : Int32))), .val (.int x0)]) rfl hr) ?_
  show OwnR _ _ _ _ _ _ _ (T1.setTop (mkF m 36 #[.val (.ref a1), .val (.long ((0 : Int64) + (x0.toInt64))), .second, .val (.ref a2), .val (.int (4 : Int32)), .val (.int ((0 : Int32) + (1 : Int32))), .val (.int x0)] []))
  rw [(by decide : ((0 : Int32) + (1 : Int32)) = (1 : Int32))]
  show OwnR _ _ _ _ _ _ _ (T1.setTop (mkF m 36 #[.val (.ref a1), .val (.long ((0 : Int64) + (x0.toInt64))), .second, .val (.ref a2), .val (.int (4 : Int32)), .val (.int (1 : Int32)), .val (.int x0)] []))
  refine OwnR.of (fun _ hr => XS.goto X1.here hx rfl (pc0 := 36) (pc' := 14) rfl (hb hby d5_36) (by decide) (by decide) hr) ?_
  show OwnR _ _ _ _ _ _ _ (T1.setTop (mkF m 14 #[.val (.ref a1), .val (.long ((0 : Int64) + (x0.toInt64))), .second, .val (.ref a2), .val (.int (4 : Int32)), .val (.int (1 : Int32)), .val (.int x0)] []))
  refine OwnR.of (fun _ hr => XS.iload X1.here hx rfl (hb hby d5_14) rfl hr) ?_
  show OwnR _ _ _ _ _ _ _ (T1.setTop (mkF m 16 #[.val (.ref a1), .val (.long ((0 : Int64) + (x0.toInt64))), .second, .val (.ref a2), .val (.int (4 : Int32)), .val (.int (1 : Int32)), .val (.int x0)] [(.int (1 : Int32))]))
  refine OwnR.of (fun _ hr => XS.iload X1.here hx rfl (hb hby d5_16) rfl hr) ?_
  show OwnR _ _ _ _ _ _ _ (T1.setTop (mkF m 18 #[.val (.ref a1), .val (.long ((0 : Int64) + (x0.toInt64))), .second, .val (.ref a2), .val (.int (4 : Int32)), .val (.int (1 : Int32)), .val (.int x0)] [(.int (4 : Int32)), (.int (1 : Int32))]))
  refine OwnR.of (fun _ hr => XS.icmpNo X1.here hx rfl (hb hby d5_18) rfl (tlt (by decide : (1 : Int32) < (4 : Int32))).2.1 hr) ?_
  show OwnR _ _ _ _ _ _ _ (T1.setTop (mkF m 21 #[.val (.ref a1), .val (.long ((0 : Int64) + (x0.toInt64))), .second, .val (.ref a2), .val (.int (4 : Int32)), .val (.int (1 : Int32)), .val (.int x0)] []))
  refine OwnR.of (fun _ hr => XS.aloadN X1.here hx rfl (hb hby d5_21) rfl rfl hr) ?_
  show OwnR _ _ _ _ _ _ _ (T1.setTop (mkF m 22 #[.val (.ref a1), .val (.long ((0 : Int64) + (x0.toInt64))), .second, .val (.ref a2), .val (.int (4 : Int32)), .val (.int (1 : Int32)), .val (.int x0)] [(.ref a2)]))
  refine OwnR.of (fun _ hr => XS.iload X1.here hx rfl (hb hby d5_22) rfl hr) ?_
  show OwnR _ _ _ _ _ _ _ (T1.setTop (mkF m 24 #[.val (.ref a1), .val (.long ((0 : Int64) + (x0.toInt64))), .second, .val (.ref a2), .val (.int (4 : Int32)), .val (.int (1 : Int32)), .val (.int x0)] [(.int (1 : Int32)), (.ref a2)]))
  obtain ⟨cl4, Ar4, -, S4, N4, H4, G4⟩ := id V_a2
  have hin4 : ¬ ((1 : Int32) < 0 ∨ cl4.slots.size ≤ ((1 : Int32)).toNatClampNeg) := (inb_of S4 ⟨by decide, by decide⟩)
  refine OwnR.of (X1.iaload hx (j := (1 : Int32)) (v := (.int x1)) (by rw [e1]; exact Ar4.1) (State.isArrayOf_alike hZ.alike Ar4.2.1) Ar4.2.2 hin4 (Has.at H4 hin4 rfl) (g := (mkF m 24 #[.val (.ref a1), .val (.long ((0 : Int64) + (x0.toInt64))), .second, .val (.ref a2), .val (.int (4 : Int32)), .val (.int (1 : Int32)), .val (.int x0)] [(.int (1 : Int32)), (.ref a2)])) rfl rfl (hb hby d5_24)) ?_
  show OwnR _ _ _ _ _ _ _ (T1.setTop (mkF m 25 #[.val (.ref a1), .val (.long ((0 : Int64) + (x0.toInt64))), .second, .val (.ref a2), .val (.int (4 : Int32)), .val (.int (1 : Int32)), .val (.int x0)] [(.int x1)]))
  refine OwnR.of (fun _ hr => XS.istore X1.here hx rfl (hb hby d5_25) rfl (l' := #[.val (.ref a1), .val (.long ((0 : Int64) + (x0.toInt64))), .second, .val (.ref a2), .val (.int (4 : Int32)), .val (.int (1 : Int32)), .val (.int x1)]) rfl hr) ?_
  show OwnR _ _ _ _ _ _ _ (T1.setTop (mkF m 27 #[.val (.ref a1), .val (.long ((0 : Int64) + (x0.toInt64))), .second, .val (.ref a2), .val (.int (4 : Int32)), .val (.int (1 : Int32)), .val (.int x1)] []))
  refine OwnR.of (fun _ hr => XS.lloadN X1.here hx rfl (hb hby d5_27) rfl hr) ?_
  show OwnR _ _ _ _ _ _ _ (T1.setTop (mkF m 28 #[.val (.ref a1), .val (.long ((0 : Int64) + (x0.toInt64))), .second, .val (.ref a2), .val (.int (4 : Int32)), .val (.int (1 : Int32)), .val (.int x1)] [(.long ((0 : Int64) + (x0.toInt64)))]))
  refine OwnR.of (fun _ hr => XS.iload X1.here hx rfl (hb hby d5_28) rfl hr) ?_
  show OwnR _ _ _ _ _ _ _ (T1.setTop (mkF m 30 #[.val (.ref a1), .val (.long ((0 : Int64) + (x0.toInt64))), .second, .val (.ref a2), .val (.int (4 : Int32)), .val (.int (1 : Int32)), .val (.int x1)] [(.int x1), (.long ((0 : Int64) + (x0.toInt64)))]))
  refine OwnR.of (fun _ hr => XS.i2l X1.here hx rfl (hb hby d5_30) rfl hr) ?_
  show OwnR _ _ _ _ _ _ _ (T1.setTop (mkF m 31 #[.val (.ref a1), .val (.long ((0 : Int64) + (x0.toInt64))), .second, .val (.ref a2), .val (.int (4 : Int32)), .val (.int (1 : Int32)), .val (.int x1)] [(.long (x1.toInt64)), (.long ((0 : Int64) + (x0.toInt64)))]))
  refine OwnR.of (fun _ hr => XS.ladd X1.here hx rfl (hb hby d5_31) rfl hr) ?_
  show OwnR _ _ _ _ _ _ _ (T1.setTop (mkF m 32 #[.val (.ref a1), .val (.long ((0 : Int64) + (x0.toInt64))), .second, .val (.ref a2), .val (.int (4 : Int32)), .val (.int (1 : Int32)), .val (.int x1)] [(.long (((0 : Int64) + (x0.toInt64)) + (x1.toInt64)))]))
  refine OwnR.of (fun _ hr => XS.lstoreN X1.here hx rfl (hb hby d5_32) rfl (l' := #[.val (.ref a1), .val (.long (((0 : Int64) + (x0.toInt64)) + (x1.toInt64))), .second, .val (.ref a2), .val (.int (4 : Int32)), .val (.int (1 : Int32)), .val (.int x1)]) rfl hr) ?_
  show OwnR _ _ _ _ _ _ _ (T1.setTop (mkF m 33 #[.val (.ref a1), .val (.long (((0 : Int64) + (x0.toInt64)) + (x1.toInt64))), .second, .val (.ref a2), .val (.int (4 : Int32)), .val (.int (1 : Int32)), .val (.int x1)] []))
  refine OwnR.of (fun _ hr => XS.iinc X1.here hx rfl (hb hby d5_33) rfl (l' := #[.val (.ref a1), .val (.long (((0 : Int64) + (x0.toInt64)) + (x1.toInt64))), .second, .val (.ref a2), .val (.int (4 : Int32)), .val (.int ((1 : Int32) + (1 : Int32))), .val (.int x1)]) rfl hr) ?_
  show OwnR _ _ _ _ _ _ _ (T1.setTop (mkF m 36 #[.val (.ref a1), .val (.long (((0 : Int64) + (x0.toInt64)) + (x1.toInt64))), .second, .val (.ref a2), .val (.int (4 : Int32)), .val (.int ((1 : Int32) + (1 : Int32))), .val (.int x1)] []))
  rw [(by decide : ((1 : Int32) + (1 : Int32)) = (2 : Int32))]
  show OwnR _ _ _ _ _ _ _ (T1.setTop (mkF m 36 #[.val (.ref a1), .val (.long (((0 : Int64) + (x0.toInt64)) + (x1.toInt64))), .second, .val (.ref a2), .val (.int (4 : Int32)), .val (.int (2 : Int32)), .val (.int x1)] []))
  refine OwnR.of (fun _ hr => XS.goto X1.here hx rfl (pc0 := 36) (pc' := 14) rfl (hb hby d5_36) (by decide) (by decide) hr) ?_
  show OwnR _ _ _ _ _ _ _ (T1.setTop (mkF m 14 #[.val (.ref a1), .val (.long (((0 : Int64) + (x0.toInt64)) + (x1.toInt64))), .second, .val (.ref a2), .val (.int (4 : Int32)), .val (.int (2 : Int32)), .val (.int x1)] []))
  refine OwnR.of (fun _ hr => XS.iload X1.here hx rfl (hb hby d5_14) rfl hr) ?_
  show OwnR _ _ _ _ _ _ _ (T1.setTop (mkF m 16 #[.val (.ref a1), .val (.long (((0 : Int64) + (x0.toInt64)) + (x1.toInt64))), .second, .val (.ref a2), .val (.int (4 : Int32)), .val (.int (2 : Int32)), .val (.int x1)] [(.int (2 : Int32))]))
  refine OwnR.of (fun _ hr => XS.iload X1.here hx rfl (hb hby d5_16) rfl hr) ?_
  show OwnR _ _ _ _ _ _ _ (T1.setTop (mkF m 18 #[.val (.ref a1), .val (.long (((0 : Int64) + (x0.toInt64)) + (x1.toInt64))), .second, .val (.ref a2), .val (.int (4 : Int32)), .val (.int (2 : Int32)), .val (.int x1)] [(.int (4 : Int32)), (.int (2 : Int32))]))
  refine OwnR.of (fun _ hr => XS.icmpNo X1.here hx rfl (hb hby d5_18) rfl (tlt (by decide : (2 : Int32) < (4 : Int32))).2.1 hr) ?_
  show OwnR _ _ _ _ _ _ _ (T1.setTop (mkF m 21 #[.val (.ref a1), .val (.long (((0 : Int64) + (x0.toInt64)) + (x1.toInt64))), .second, .val (.ref a2), .val (.int (4 : Int32)), .val (.int (2 : Int32)), .val (.int x1)] []))
  refine OwnR.of (fun _ hr => XS.aloadN X1.here hx rfl (hb hby d5_21) rfl rfl hr) ?_
  show OwnR _ _ _ _ _ _ _ (T1.setTop (mkF m 22 #[.val (.ref a1), .val (.long (((0 : Int64) + (x0.toInt64)) + (x1.toInt64))), .second, .val (.ref a2), .val (.int (4 : Int32)), .val (.int (2 : Int32)), .val (.int x1)] [(.ref a2)]))
  refine OwnR.of (fun _ hr => XS.iload X1.here hx rfl (hb hby d5_22) rfl hr) ?_
  show OwnR _ _ _ _ _ _ _ (T1.setTop (mkF m 24 #[.val (.ref a1), .val (.long (((0 : Int64) + (x0.toInt64)) + (x1.toInt64))), .second, .val (.ref a2), .val (.int (4 : Int32)), .val (.int (2 : Int32)), .val (.int x1)] [(.int (2 : Int32)), (.ref a2)]))
  obtain ⟨cl5, Ar5, -, S5, N5, H5, G5⟩ := id V_a2
  have hin5 : ¬ ((2 : Int32) < 0 ∨ cl5.slots.size ≤ ((2 : Int32)).toNatClampNeg) := (inb_of S5 ⟨by decide, by decide⟩)
  refine OwnR.of (X1.iaload hx (j := (2 : Int32)) (v := (.int x2)) (by rw [e1]; exact Ar5.1) (State.isArrayOf_alike hZ.alike Ar5.2.1) Ar5.2.2 hin5 (Has.at H5 hin5 rfl) (g := (mkF m 24 #[.val (.ref a1), .val (.long (((0 : Int64) + (x0.toInt64)) + (x1.toInt64))), .second, .val (.ref a2), .val (.int (4 : Int32)), .val (.int (2 : Int32)), .val (.int x1)] [(.int (2 : Int32)), (.ref a2)])) rfl rfl (hb hby d5_24)) ?_
  show OwnR _ _ _ _ _ _ _ (T1.setTop (mkF m 25 #[.val (.ref a1), .val (.long (((0 : Int64) + (x0.toInt64)) + (x1.toInt64))), .second, .val (.ref a2), .val (.int (4 : Int32)), .val (.int (2 : Int32)), .val (.int x1)] [(.int x2)]))
  refine OwnR.of (fun _ hr => XS.istore X1.here hx rfl (hb hby d5_25) rfl (l' := #[.val (.ref a1), .val (.long (((0 : Int64) + (x0.toInt64)) + (x1.toInt64))), .second, .val (.ref a2), .val (.int (4 : Int32)), .val (.int (2 : Int32)), .val (.int x2)]) rfl hr) ?_
  show OwnR _ _ _ _ _ _ _ (T1.setTop (mkF m 27 #[.val (.ref a1), .val (.long (((0 : Int64) + (x0.toInt64)) + (x1.toInt64))), .second, .val (.ref a2), .val (.int (4 : Int32)), .val (.int (2 : Int32)), .val (.int x2)] []))
  refine OwnR.of (fun _ hr => XS.lloadN X1.here hx rfl (hb hby d5_27) rfl hr) ?_
  show OwnR _ _ _ _ _ _ _ (T1.setTop (mkF m 28 #[.val (.ref a1), .val (.long (((0 : Int64) + (x0.toInt64)) + (x1.toInt64))), .second, .val (.ref a2), .val (.int (4 : Int32)), .val (.int (2 : Int32)), .val (.int x2)] [(.long (((0 : Int64) + (x0.toInt64)) + (x1.toInt64)))]))
  refine OwnR.of (fun _ hr => XS.iload X1.here hx rfl (hb hby d5_28) rfl hr) ?_
  show OwnR _ _ _ _ _ _ _ (T1.setTop (mkF m 30 #[.val (.ref a1), .val (.long (((0 : Int64) + (x0.toInt64)) + (x1.toInt64))), .second, .val (.ref a2), .val (.int (4 : Int32)), .val (.int (2 : Int32)), .val (.int x2)] [(.int x2), (.long (((0 : Int64) + (x0.toInt64)) + (x1.toInt64)))]))
  refine OwnR.of (fun _ hr => XS.i2l X1.here hx rfl (hb hby d5_30) rfl hr) ?_
  show OwnR _ _ _ _ _ _ _ (T1.setTop (mkF m 31 #[.val (.ref a1), .val (.long (((0 : Int64) + (x0.toInt64)) + (x1.toInt64))), .second, .val (.ref a2), .val (.int (4 : Int32)), .val (.int (2 : Int32)), .val (.int x2)] [(.long (x2.toInt64)), (.long (((0 : Int64) + (x0.toInt64)) + (x1.toInt64)))]))
  refine OwnR.of (fun _ hr => XS.ladd X1.here hx rfl (hb hby d5_31) rfl hr) ?_
  show OwnR _ _ _ _ _ _ _ (T1.setTop (mkF m 32 #[.val (.ref a1), .val (.long (((0 : Int64) + (x0.toInt64)) + (x1.toInt64))), .second, .val (.ref a2), .val (.int (4 : Int32)), .val (.int (2 : Int32)), .val (.int x2)] [(.long ((((0 : Int64) + (x0.toInt64)) + (x1.toInt64)) + (x2.toInt64)))]))
  refine OwnR.of (fun _ hr => XS.lstoreN X1.here hx rfl (hb hby d5_32) rfl (l' := #[.val (.ref a1), .val (.long ((((0 : Int64) + (x0.toInt64)) + (x1.toInt64)) + (x2.toInt64))), .second, .val (.ref a2), .val (.int (4 : Int32)), .val (.int (2 : Int32)), .val (.int x2)]) rfl hr) ?_
  show OwnR _ _ _ _ _ _ _ (T1.setTop (mkF m 33 #[.val (.ref a1), .val (.long ((((0 : Int64) + (x0.toInt64)) + (x1.toInt64)) + (x2.toInt64))), .second, .val (.ref a2), .val (.int (4 : Int32)), .val (.int (2 : Int32)), .val (.int x2)] []))
  refine OwnR.of (fun _ hr => XS.iinc X1.here hx rfl (hb hby d5_33) rfl (l' := #[.val (.ref a1), .val (.long ((((0 : Int64) + (x0.toInt64)) + (x1.toInt64)) + (x2.toInt64))), .second, .val (.ref a2), .val (.int (4 : Int32)), .val (.int ((2 : Int32) + (1 : Int32))), .val (.int x2)]) rfl hr) ?_
  show OwnR _ _ _ _ _ _ _ (T1.setTop (mkF m 36 #[.val (.ref a1), .val (.long ((((0 : Int64) + (x0.toInt64)) + (x1.toInt64)) + (x2.toInt64))), .second, .val (.ref a2), .val (.int (4 : Int32)), .val (.int ((2 : Int32) + (1 : Int32))), .val (.int x2)] []))
  rw [(by decide : ((2 : Int32) + (1 : Int32)) = (3 : Int32))]
  show OwnR _ _ _ _ _ _ _ (T1.setTop (mkF m 36 #[.val (.ref a1), .val (.long ((((0 : Int64) + (x0.toInt64)) + (x1.toInt64)) + (x2.toInt64))), .second, .val (.ref a2), .val (.int (4 : Int32)), .val (.int (3 : Int32)), .val (.int x2)] []))
  refine OwnR.of (fun _ hr => XS.goto X1.here hx rfl (pc0 := 36) (pc' := 14) rfl (hb hby d5_36) (by decide) (by decide) hr) ?_
  show OwnR _ _ _ _ _ _ _ (T1.setTop (mkF m 14 #[.val (.ref a1), .val (.long ((((0 : Int64) + (x0.toInt64)) + (x1.toInt64)) + (x2.toInt64))), .second, .val (.ref a2), .val (.int (4 : Int32)), .val (.int (3 : Int32)), .val (.int x2)] []))
  refine OwnR.of (fun _ hr => XS.iload X1.here hx rfl (hb hby d5_14) rfl hr) ?_
  show OwnR _ _ _ _ _ _ _ (T1.setTop (mkF m 16 #[.val (.ref a1), .val (.long ((((0 : Int64) + (x0.toInt64)) + (x1.toInt64)) + (x2.toInt64))), .second, .val (.ref a2), .val (.int (4 : Int32)), .val (.int (3 : Int32)), .val (.int x2)] [(.int (3 : Int32))]))
  refine OwnR.of (fun _ hr => XS.iload X1.here hx rfl (hb hby d5_16) rfl hr) ?_
  show OwnR _ _ _ _ _ _ _ (T1.setTop (mkF m 18 #[.val (.ref a1), .val (.long ((((0 : Int64) + (x0.toInt64)) + (x1.toInt64)) + (x2.toInt64))), .second, .val (.ref a2), .val (.int (4 : Int32)), .val (.int (3 : Int32)), .val (.int x2)] [(.int (4 : Int32)), (.int (3 : Int32))]))
  refine OwnR.of (fun _ hr => XS.icmpNo X1.here hx rfl (hb hby d5_18) rfl (tlt (by decide : (3 : Int32) < (4 : Int32))).2.1 hr) ?_
  show OwnR _ _ _ _ _ _ _ (T1.setTop (mkF m 21 #[.val (.ref a1), .val (.long ((((0 : Int64) + (x0.toInt64)) + (x1.toInt64)) + (x2.toInt64))), .second, .val (.ref a2), .val (.int (4 : Int32)), .val (.int (3 : Int32)), .val (.int x2)] []))
  refine OwnR.of (fun _ hr => XS.aloadN X1.here hx rfl (hb hby d5_21) rfl rfl hr) ?_
  show OwnR _ _ _ _ _ _ _ (T1.setTop (mkF m 22 #[.val (.ref a1), .val (.long ((((0 : Int64) + (x0.toInt64)) + (x1.toInt64)) + (x2.toInt64))), .second, .val (.ref a2), .val (.int (4 : Int32)), .val (.int (3 : Int32)), .val (.int x2)] [(.ref a2)]))
  refine OwnR.of (fun _ hr => XS.iload X1.here hx rfl (hb hby d5_22) rfl hr) ?_
  show OwnR _ _ _ _ _ _ _ (T1.setTop (mkF m 24 #[.val (.ref a1), .val (.long ((((0 : Int64) + (x0.toInt64)) + (x1.toInt64)) + (x2.toInt64))), .second, .val (.ref a2), .val (.int (4 : Int32)), .val (.int (3 : Int32)), .val (.int x2)] [(.int (3 : Int32)), (.ref a2)]))
  obtain ⟨cl6, Ar6, -, S6, N6, H6, G6⟩ := id V_a2
  have hin6 : ¬ ((3 : Int32) < 0 ∨ cl6.slots.size ≤ ((3 : Int32)).toNatClampNeg) := (inb_of S6 ⟨by decide, by decide⟩)
  refine OwnR.of (X1.iaload hx (j := (3 : Int32)) (v := (.int x3)) (by rw [e1]; exact Ar6.1) (State.isArrayOf_alike hZ.alike Ar6.2.1) Ar6.2.2 hin6 (Has.at H6 hin6 rfl) (g := (mkF m 24 #[.val (.ref a1), .val (.long ((((0 : Int64) + (x0.toInt64)) + (x1.toInt64)) + (x2.toInt64))), .second, .val (.ref a2), .val (.int (4 : Int32)), .val (.int (3 : Int32)), .val (.int x2)] [(.int (3 : Int32)), (.ref a2)])) rfl rfl (hb hby d5_24)) ?_
  show OwnR _ _ _ _ _ _ _ (T1.setTop (mkF m 25 #[.val (.ref a1), .val (.long ((((0 : Int64) + (x0.toInt64)) + (x1.toInt64)) + (x2.toInt64))), .second, .val (.ref a2), .val (.int (4 : Int32)), .val (.int (3 : Int32)), .val (.int x2)] [(.int x3)]))
  refine OwnR.of (fun _ hr => XS.istore X1.here hx rfl (hb hby d5_25) rfl (l' := #[.val (.ref a1), .val (.long ((((0 : Int64) + (x0.toInt64)) + (x1.toInt64)) + (x2.toInt64))), .second, .val (.ref a2), .val (.int (4 : Int32)), .val (.int (3 : Int32)), .val (.int x3)]) rfl hr) ?_
  show OwnR _ _ _ _ _ _ _ (T1.setTop (mkF m 27 #[.val (.ref a1), .val (.long ((((0 : Int64) + (x0.toInt64)) + (x1.toInt64)) + (x2.toInt64))), .second, .val (.ref a2), .val (.int (4 : Int32)), .val (.int (3 : Int32)), .val (.int x3)] []))
  refine OwnR.of (fun _ hr => XS.lloadN X1.here hx rfl (hb hby d5_27) rfl hr) ?_
  show OwnR _ _ _ _ _ _ _ (T1.setTop (mkF m 28 #[.val (.ref a1), .val (.long ((((0 : Int64) + (x0.toInt64)) + (x1.toInt64)) + (x2.toInt64))), .second, .val (.ref a2), .val (.int (4 : Int32)), .val (.int (3 : Int32)), .val (.int x3)] [(.long ((((0 : Int64) + (x0.toInt64)) + (x1.toInt64)) + (x2.toInt64)))]))
  refine OwnR.of (fun _ hr => XS.iload X1.here hx rfl (hb hby d5_28) rfl hr) ?_
  show OwnR _ _ _ _ _ _ _ (T1.setTop (mkF m 30 #[.val (.ref a1), .val (.long ((((0 : Int64) + (x0.toInt64)) + (x1.toInt64)) + (x2.toInt64))), .second, .val (.ref a2), .val (.int (4 : Int32)), .val (.int (3 : Int32)), .val (.int x3)] [(.int x3), (.long ((((0 : Int64) + (x0.toInt64)) + (x1.toInt64)) + (x2.toInt64)))]))
  refine OwnR.of (fun _ hr => XS.i2l X1.here hx rfl (hb hby d5_30) rfl hr) ?_
  show OwnR _ _ _ _ _ _ _ (T1.setTop (mkF m 31 #[.val (.ref a1), .val (.long ((((0 : Int64) + (x0.toInt64)) + (x1.toInt64)) + (x2.toInt64))), .second, .val (.ref a2), .val (.int (4 : Int32)), .val (.int (3 : Int32)), .val (.int x3)] [(.long (x3.toInt64)), (.long ((((0 : Int64) + (x0.toInt64)) + (x1.toInt64)) + (x2.toInt64)))]))
  refine OwnR.of (fun _ hr => XS.ladd X1.here hx rfl (hb hby d5_31) rfl hr) ?_
  show OwnR _ _ _ _ _ _ _ (T1.setTop (mkF m 32 #[.val (.ref a1), .val (.long ((((0 : Int64) + (x0.toInt64)) + (x1.toInt64)) + (x2.toInt64))), .second, .val (.ref a2), .val (.int (4 : Int32)), .val (.int (3 : Int32)), .val (.int x3)] [(.long (((((0 : Int64) + (x0.toInt64)) + (x1.toInt64)) + (x2.toInt64)) + (x3.toInt64)))]))
  refine OwnR.of (fun _ hr => XS.lstoreN X1.here hx rfl (hb hby d5_32) rfl (l' := #[.val (.ref a1), .val (.long (((((0 : Int64) + (x0.toInt64)) + (x1.toInt64)) + (x2.toInt64)) + (x3.toInt64))), .second, .val (.ref a2), .val (.int (4 : Int32)), .val (.int (3 : Int32)), .val (.int x3)]) rfl hr) ?_
  show OwnR _ _ _ _ _ _ _ (T1.setTop (mkF m 33 #[.val (.ref a1), .val (.long (((((0 : Int64) + (x0.toInt64)) + (x1.toInt64)) + (x2.toInt64)) + (x3.toInt64))), .second, .val (.ref a2), .val (.int (4 : Int32)), .val (.int (3 : Int32)), .val (.int x3)] []))
  refine OwnR.of (fun _ hr => XS.iinc X1.here hx rfl (hb hby d5_33) rfl (l' := #[.val (.ref a1), .val (.long (((((0 : Int64) + (x0.toInt64)) + (x1.toInt64)) + (x2.toInt64)) + (x3.toInt64))), .second, .val (.ref a2), .val (.int (4 : Int32)), .val (.int ((3 : Int32) + (1 : Int32))), .val (.int x3)]) rfl hr) ?_
  show OwnR _ _ _ _ _ _ _ (T1.setTop (mkF m 36 #[.val (.ref a1), .val (.long (((((0 : Int64) + (x0.toInt64)) + (x1.toInt64)) + (x2.toInt64)) + (x3.toInt64))), .second, .val (.ref a2), .val (.int (4 : Int32)), .val (.int ((3 : Int32) + (1 : Int32))), .val (.int x3)] []))
  rw [(by decide : ((3 : Int32) + (1 : Int32)) = (4 : Int32))]
  show OwnR _ _ _ _ _ _ _ (T1.setTop (mkF m 36 #[.val (.ref a1), .val (.long (((((0 : Int64) + (x0.toInt64)) + (x1.toInt64)) + (x2.toInt64)) + (x3.toInt64))), .second, .val (.ref a2), .val (.int (4 : Int32)), .val (.int (4 : Int32)), .val (.int x3)] []))
  refine OwnR.of (fun _ hr => XS.goto X1.here hx rfl (pc0 := 36) (pc' := 14) rfl (hb hby d5_36) (by decide) (by decide) hr) ?_
  show OwnR _ _ _ _ _ _ _ (T1.setTop (mkF m 14 #[.val (.ref a1), .val (.long (((((0 : Int64) + (x0.toInt64)) + (x1.toInt64)) + (x2.toInt64)) + (x3.toInt64))), .second, .val (.ref a2), .val (.int (4 : Int32)), .val (.int (4 : Int32)), .val (.int x3)] []))
  refine OwnR.of (fun _ hr => XS.iload X1.here hx rfl (hb hby d5_14) rfl hr) ?_
  show OwnR _ _ _ _ _ _ _ (T1.setTop (mkF m 16 #[.val (.ref a1), .val (.long (((((0 : Int64) + (x0.toInt64)) + (x1.toInt64)) + (x2.toInt64)) + (x3.toInt64))), .second, .val (.ref a2), .val (.int (4 : Int32)), .val (.int (4 : Int32)), .val (.int x3)] [(.int (4 : Int32))]))
  refine OwnR.of (fun _ hr => XS.iload X1.here hx rfl (hb hby d5_16) rfl hr) ?_
  show OwnR _ _ _ _ _ _ _ (T1.setTop (mkF m 18 #[.val (.ref a1), .val (.long (((((0 : Int64) + (x0.toInt64)) + (x1.toInt64)) + (x2.toInt64)) + (x3.toInt64))), .second, .val (.ref a2), .val (.int (4 : Int32)), .val (.int (4 : Int32)), .val (.int x3)] [(.int (4 : Int32)), (.int (4 : Int32))]))
  refine OwnR.of (fun _ hr => XS.icmpYes X1.here hx rfl (pc0 := 18) (pc' := 39) rfl (hb hby d5_18) rfl (flt (by decide : ¬ ((4 : Int32) < (4 : Int32)))).2.1 (by decide) (by decide) hr) ?_
  show OwnR _ _ _ _ _ _ _ (T1.setTop (mkF m 39 #[.val (.ref a1), .val (.long (((((0 : Int64) + (x0.toInt64)) + (x1.toInt64)) + (x2.toInt64)) + (x3.toInt64))), .second, .val (.ref a2), .val (.int (4 : Int32)), .val (.int (4 : Int32)), .val (.int x3)] []))
  refine OwnR.of (fun _ hr => XS.lloadN X1.here hx rfl (hb hby d5_39) rfl hr) ?_
  show OwnR _ _ _ _ _ _ _ (T1.setTop (mkF m 40 #[.val (.ref a1), .val (.long (((((0 : Int64) + (x0.toInt64)) + (x1.toInt64)) + (x2.toInt64)) + (x3.toInt64))), .second, .val (.ref a2), .val (.int (4 : Int32)), .val (.int (4 : Int32)), .val (.int x3)] [(.long (((((0 : Int64) + (x0.toInt64)) + (x1.toInt64)) + (x2.toInt64)) + (x3.toInt64)))]))
  refine own_leafJ X1 hx hlk Bd.returns (hb hby d5_40) (by decide) (by decide) ?_
  show Q5_4 Z x0 x1 x2 x3 h0 n0 _ T1.heap _
  rw [show T1.heap = h0 from e1]
  refine ⟨?_, N0, rfl⟩
  show (some (.long (((((0 : Int64) + (x0.toInt64)) + (x1.toInt64)) + (x2.toInt64)) + (x3.toInt64))) : Option Value) = some (.long (((((0 : Int64) + (x0.toInt64)) + (x1.toInt64)) + (x2.toInt64)) + (x3.toInt64)))
  rfl
theorem ef_rm0 (m : MethodId) (x0 : Int32) (x1 : Int32) (x2 : Int32) (x3 : Int32) (x4 : Int32) : entryFrame m #[(.int x0), (.int x1), (.int x2), (.int x3), (.int x4)] maxLocals = mkF m 0 #[.val (.int x0), .val (.int x1), .val (.int x2), .val (.int x3), .val (.int x4), .unset, .unset, .unset, .unset, .unset, .unset, .unset, .unset, .unset, .unset] [] := by first | (simp [entryFrame, mkF, argsToLocals, Value.category, maxLocals]; done) | rfl
theorem pd__I_I : parseMethodDescriptor "(I)I" = some ⟨[.int], some .int⟩ := by decide +kernel
theorem pd___I_DLjava_util_Optional__V : parseMethodDescriptor "([I[DLjava/util/Optional;)V" = some ⟨[(.array .int), (.array .double), (.object "java/util/Optional")], none⟩ := by decide +kernel
theorem pd___J : parseMethodDescriptor "()J" = some ⟨[], some .long⟩ := by decide +kernel
def Q0 (Z : State)  (h0 : Heap) (n0 : Nat) (v : Option Value) (h : Heap) (L : List Loc) : Prop := v = some (.int (1 : Int32)) ∧ Fr n0 L
set_option maxRecDepth 65536 in
set_option maxHeartbeats 40000000 in
theorem rm0 (l : Launch) (Z : State) (a0 : Array Value) (hw : ∀ d ∈ tables_1, d.before a0 Z = true) (ws : List Jvm.Cond) (p1 : Int32) (p2 : Int32) (p3 : Int32) (p4 : Int32) (p5 : Int32) (h0 : Heap) (n0 : Nat) (Z0 : n0 ≤ h0.size) :
    MetFree l x (head1 (Jvm.Cond.code x code maxLocals ret :: ws) room_1) (fun a U => a = #[(.int p1), (.int p2), (.int p3), (.int p4), (.int p5)] ∧ Z.Warmed39 U.vm ∧ U.heap = h0) (fun _ _ _ _ _ => True) (fun _ U o U' => ∃ v L, o = .returned v ∧ Q0 Z  h0 n0 v U'.heap L ∧ FrameEnd U o U' L 24 128) := by
  refine MetFree.of_bodySF (plainFor_of_name pn_com_example_ramification_ramification_model_StrahlerOrdersGetTotalBranchesPinLaw) hisR ?_
  intro p e s m args below meth c s₁ Bd hml0 hP hK
  obtain ⟨rfl, hZ, hh⟩ := hP
  have hx := Bd.exec
  have hby := Bd.bytes
  have hlk := BodyLoose.notSynchronized Bd
  have hml : c.maxLocals = 15 := hml0
  have hown : s.vm.findClass "com/example/ramification/ramification/model/StrahlerOrdersGetTotalBranchesPinLaw" = some m.cls := findClass_of_methodNamed Bd.named
  have hnm := (name_of_methodNamed Bd.named Bd.method).1
  have X0 : Stand p l e room_1 s m #[(.int p1), (.int p2), (.int p3), (.int p4), (.int p5)] below meth c s₁ [] 0 0 := Stand.of_body Bd
  have e0 : s₁.heap = h0 := by rw [← hh, Bd.state]; rfl
  have N0 := Fr.nil n0
  refine OwnR.of (s := s) (Q := Q0 Z  h0 n0) (fun t k => castTop (ef_rm0 m p1 p2 p3 p4 p5) k) ?_
  show OwnR _ _ _ _ _ _ _ (s₁.setTop (mkF m 0 #[.val (.int p1), .val (.int p2), .val (.int p3), .val (.int p4), .val (.int p5), .unset, .unset, .unset, .unset, .unset, .unset, .unset, .unset, .unset, .unset] []))
  refine OwnR.of (fun _ hr => XS.iloadN X0.here hx rfl (hb hby at_0) rfl hr) ?_
  show OwnR _ _ _ _ _ _ _ (s₁.setTop (mkF m 1 #[.val (.int p1), .val (.int p2), .val (.int p3), .val (.int p4), .val (.int p5), .unset, .unset, .unset, .unset, .unset, .unset, .unset, .unset, .unset, .unset] [(.int p1)]))
  refine OwnR.of (X0.ldcInt hx hown (mvT hZ (hw _ (List.mem_of_getElem? (i := 0) rfl))) (g := (mkF m 1 #[.val (.int p1), .val (.int p2), .val (.int p3), .val (.int p4), .val (.int p5), .unset, .unset, .unset, .unset, .unset, .unset, .unset, .unset, .unset, .unset] [(.int p1)])) rfl (hb hby at_1)) ?_
  show OwnR _ _ _ _ _ _ _ (s₁.setTop (mkF m 3 #[.val (.int p1), .val (.int p2), .val (.int p3), .val (.int p4), .val (.int p5), .unset, .unset, .unset, .unset, .unset, .unset, .unset, .unset, .unset, .unset] [(.int (2147483647 : Int32)), (.int p1)]))
  refine OwnR.of (fun _ hr => XS.iand X0.here hx rfl (hb hby at_3) rfl hr) ?_
  show OwnR _ _ _ _ _ _ _ (s₁.setTop (mkF m 4 #[.val (.int p1), .val (.int p2), .val (.int p3), .val (.int p4), .val (.int p5), .unset, .unset, .unset, .unset, .unset, .unset, .unset, .unset, .unset, .unset] [(.int (p1 &&& (2147483647 : Int32)))]))
  refine OwnR.of (fun _ hr => XS.iconst X0.here hx rfl (hb hby at_4) hr) ?_
  show OwnR _ _ _ _ _ _ _ (s₁.setTop (mkF m 5 #[.val (.int p1), .val (.int p2), .val (.int p3), .val (.int p4), .val (.int p5), .unset, .unset, .unset, .unset, .unset, .unset, .unset, .unset, .unset, .unset] [(.int (5 : Int32)), (.int (p1 &&& (2147483647 : Int32)))]))
  refine OwnR.of (fun _ hr => iremM X0 hx rfl (hb hby at_5) rfl (by decide) hr) ?_
  show OwnR _ _ _ _ _ _ _ (s₁.setTop (mkF m 6 #[.val (.int p1), .val (.int p2), .val (.int p3), .val (.int p4), .val (.int p5), .unset, .unset, .unset, .unset, .unset, .unset, .unset, .unset, .unset, .unset] [(.int ((p1 &&& (2147483647 : Int32)) % (5 : Int32)))]))
  refine OwnR.of (fun _ hr => XS.istore X0.here hx rfl (hb hby at_6) rfl (l' := #[.val (.int p1), .val (.int p2), .val (.int p3), .val (.int p4), .val (.int p5), .val (.int ((p1 &&& (2147483647 : Int32)) % (5 : Int32))), .unset, .unset, .unset, .unset, .unset, .unset, .unset, .unset, .unset]) rfl hr) ?_
  show OwnR _ _ _ _ _ _ _ (s₁.setTop (mkF m 8 #[.val (.int p1), .val (.int p2), .val (.int p3), .val (.int p4), .val (.int p5), .val (.int ((p1 &&& (2147483647 : Int32)) % (5 : Int32))), .unset, .unset, .unset, .unset, .unset, .unset, .unset, .unset, .unset] []))
  obtain ⟨n, hn⟩ : ∃ z : Int32, z = ((p1 &&& (2147483647 : Int32)) % (5 : Int32)) := ⟨_, rfl⟩
  rw [← hn]
  show OwnR _ _ _ _ _ _ _ (s₁.setTop (mkF m 8 #[.val (.int p1), .val (.int p2), .val (.int p3), .val (.int p4), .val (.int p5), .val (.int n), .unset, .unset, .unset, .unset, .unset, .unset, .unset, .unset, .unset] []))
  have hn5 : n = (0 : Int32) ∨ n = (1 : Int32) ∨ n = (2 : Int32) ∨ n = (3 : Int32) ∨ n = (4 : Int32) := by rw [hn]; exact own_five p1
  refine OwnR.of (fun _ hr => XS.iloadN X0.here hx rfl (hb hby at_8) rfl hr) ?_
  show OwnR _ _ _ _ _ _ _ (s₁.setTop (mkF m 9 #[.val (.int p1), .val (.int p2), .val (.int p3), .val (.int p4), .val (.int p5), .val (.int n), .unset, .unset, .unset, .unset, .unset, .unset, .unset, .unset, .unset] [(.int p2)]))
  obtain ⟨_, _, ⟨T6, L6, kc6, ns6⟩, -, X6, ⟨Lc6, hQ6, l6, y6, z6⟩, st6⟩ := Jvm.LawKit.callS X0 hx (y := (⟨"com/example/ramification/ramification/model/StrahlerOrdersGetTotalBranchesPinLaw", "count", "(I)I"⟩ : MethodName)) hown (mvT hZ (hw _ (List.mem_of_getElem? (i := 1) rfl))) (mvT hZ (hw _ (List.mem_of_getElem? (i := 2) rfl))) (mvT hZ (hw _ (List.mem_of_getElem? (i := 3) rfl))) (mvT hZ (hw _ (List.mem_of_getElem? (i := 4) rfl))) (by decide) (backOf (W := 0) (rm1 l Z a0 hw [] p2 h0 n0 (Nat.le_trans Z0 (Keep.refl h0 []).1) ) hZ (hw _ (List.mem_of_getElem? (i := 4) rfl)) (hw _ (List.mem_of_getElem? (i := 3) rfl)) (by decide) (by decide)) (g := (mkF m 9 #[.val (.int p1), .val (.int p2), .val (.int p3), .val (.int p4), .val (.int p5), .val (.int n), .unset, .unset, .unset, .unset, .unset, .unset, .unset, .unset, .unset] [(.int p2)])) rfl (by rw [hml]; rfl) (argsL := [(.int p2)]) (rest := []) (lenOf pd__I_I rfl) rfl (by show 2 * 0 + _ ≤ _; exact Nat.le_of_eq rfl) (hb hby at_9) (fun _ _ => ⟨rfl, e0, (by decide : 0 + 0 ≤ _), (by decide : 0 + 0 ≤ _)⟩)
  dsimp only [Pt.U, Pt.locs, Pt.cells, Pt.slots] at X6 l6 y6 z6 st6 hQ6
  subst l6 y6 z6
  obtain ⟨rfl, N6q, e6⟩ := hQ6
  have N6 := Fr.app N0 N6q
  refine OwnR.of (st6) ?_
  show OwnR _ _ _ _ _ _ _ (T6.setTop (mkF m 12 #[.val (.int p1), .val (.int p2), .val (.int p3), .val (.int p4), .val (.int p5), .val (.int n), .unset, .unset, .unset, .unset, .unset, .unset, .unset, .unset, .unset] [(.int (own_cnt p2))]))
  refine OwnR.of (fun _ hr => XS.istore X6.here hx rfl (hb hby at_12) rfl (l' := #[.val (.int p1), .val (.int p2), .val (.int p3), .val (.int p4), .val (.int p5), .val (.int n), .val (.int (own_cnt p2)), .unset, .unset, .unset, .unset, .unset, .unset, .unset, .unset]) rfl hr) ?_
  show OwnR _ _ _ _ _ _ _ (T6.setTop (mkF m 14 #[.val (.int p1), .val (.int p2), .val (.int p3), .val (.int p4), .val (.int p5), .val (.int n), .val (.int (own_cnt p2)), .unset, .unset, .unset, .unset, .unset, .unset, .unset, .unset] []))
  obtain ⟨ca, hca⟩ : ∃ z : Int32, z = (own_cnt p2) := ⟨_, rfl⟩
  rw [← hca]
  show OwnR _ _ _ _ _ _ _ (T6.setTop (mkF m 14 #[.val (.int p1), .val (.int p2), .val (.int p3), .val (.int p4), .val (.int p5), .val (.int n), .val (.int ca), .unset, .unset, .unset, .unset, .unset, .unset, .unset, .unset] []))
  have hca1 : ¬ (ca < (1 : Int32)) := by rw [hca]; exact own_cnt1 _
  refine OwnR.of (fun _ hr => XS.iloadN X6.here hx rfl (hb hby at_14) rfl hr) ?_
  show OwnR _ _ _ _ _ _ _ (T6.setTop (mkF m 15 #[.val (.int p1), .val (.int p2), .val (.int p3), .val (.int p4), .val (.int p5), .val (.int n), .val (.int ca), .unset, .unset, .unset, .unset, .unset, .unset, .unset, .unset] [(.int p3)]))
  obtain ⟨_, _, ⟨T7, L7, kc7, ns7⟩, -, X7, ⟨Lc7, hQ7, l7, y7, z7⟩, st7⟩ := Jvm.LawKit.callS X6 hx (y := (⟨"com/example/ramification/ramification/model/StrahlerOrdersGetTotalBranchesPinLaw", "count", "(I)I"⟩ : MethodName)) hown (mvT hZ (hw _ (List.mem_of_getElem? (i := 1) rfl))) (mvT hZ (hw _ (List.mem_of_getElem? (i := 2) rfl))) (mvT hZ (hw _ (List.mem_of_getElem? (i := 3) rfl))) (mvT hZ (hw _ (List.mem_of_getElem? (i := 4) rfl))) (by decide) (backOf (W := 0) (rm1 l Z a0 hw [] p3 h0 n0 (Nat.le_trans Z0 (Keep.refl h0 []).1) ) hZ (hw _ (List.mem_of_getElem? (i := 4) rfl)) (hw _ (List.mem_of_getElem? (i := 3) rfl)) (by decide) (by decide)) (g := (mkF m 15 #[.val (.int p1), .val (.int p2), .val (.int p3), .val (.int p4), .val (.int p5), .val (.int n), .val (.int ca), .unset, .unset, .unset, .unset, .unset, .unset, .unset, .unset] [(.int p3)])) rfl (by rw [hml]; rfl) (argsL := [(.int p3)]) (rest := []) (lenOf pd__I_I rfl) rfl (by show 2 * 0 + _ ≤ _; exact Nat.le_of_eq rfl) (hb hby at_15) (fun _ _ => ⟨rfl, e6, (by decide : 0 + 0 ≤ _), (by decide : 0 + 0 ≤ _)⟩)
  dsimp only [Pt.U, Pt.locs, Pt.cells, Pt.slots] at X7 l7 y7 z7 st7 hQ7
  subst l7 y7 z7
  obtain ⟨rfl, N7q, e7⟩ := hQ7
  have N7 := Fr.app N6 N7q
  refine OwnR.of (st7) ?_
  show OwnR _ _ _ _ _ _ _ (T7.setTop (mkF m 18 #[.val (.int p1), .val (.int p2), .val (.int p3), .val (.int p4), .val (.int p5), .val (.int n), .val (.int ca), .unset, .unset, .unset, .unset, .unset, .unset, .unset, .unset] [(.int (own_cnt p3))]))
  refine OwnR.of (fun _ hr => XS.istore X7.here hx rfl (hb hby at_18) rfl (l' := #[.val (.int p1), .val (.int p2), .val (.int p3), .val (.int p4), .val (.int p5), .val (.int n), .val (.int ca), .val (.int (own_cnt p3)), .unset, .unset, .unset, .unset, .unset, .unset, .unset]) rfl hr) ?_
  show OwnR _ _ _ _ _ _ _ (T7.setTop (mkF m 20 #[.val (.int p1), .val (.int p2), .val (.int p3), .val (.int p4), .val (.int p5), .val (.int n), .val (.int ca), .val (.int (own_cnt p3)), .unset, .unset, .unset, .unset, .unset, .unset, .unset] []))
  obtain ⟨cb, hcb⟩ : ∃ z : Int32, z = (own_cnt p3) := ⟨_, rfl⟩
  rw [← hcb]
  show OwnR _ _ _ _ _ _ _ (T7.setTop (mkF m 20 #[.val (.int p1), .val (.int p2), .val (.int p3), .val (.int p4), .val (.int p5), .val (.int n), .val (.int ca), .val (.int cb), .unset, .unset, .unset, .unset, .unset, .unset, .unset] []))
  have hcb1 : ¬ (cb < (1 : Int32)) := by rw [hcb]; exact own_cnt1 _
  refine OwnR.of (fun _ hr => XS.iloadN X7.here hx rfl (hb hby at_20) rfl hr) ?_
  show OwnR _ _ _ _ _ _ _ (T7.setTop (mkF m 21 #[.val (.int p1), .val (.int p2), .val (.int p3), .val (.int p4), .val (.int p5), .val (.int n), .val (.int ca), .val (.int cb), .unset, .unset, .unset, .unset, .unset, .unset, .unset] [(.int p4)]))
  obtain ⟨_, _, ⟨T8, L8, kc8, ns8⟩, -, X8, ⟨Lc8, hQ8, l8, y8, z8⟩, st8⟩ := Jvm.LawKit.callS X7 hx (y := (⟨"com/example/ramification/ramification/model/StrahlerOrdersGetTotalBranchesPinLaw", "count", "(I)I"⟩ : MethodName)) hown (mvT hZ (hw _ (List.mem_of_getElem? (i := 1) rfl))) (mvT hZ (hw _ (List.mem_of_getElem? (i := 2) rfl))) (mvT hZ (hw _ (List.mem_of_getElem? (i := 3) rfl))) (mvT hZ (hw _ (List.mem_of_getElem? (i := 4) rfl))) (by decide) (backOf (W := 0) (rm1 l Z a0 hw [] p4 h0 n0 (Nat.le_trans Z0 (Keep.refl h0 []).1) ) hZ (hw _ (List.mem_of_getElem? (i := 4) rfl)) (hw _ (List.mem_of_getElem? (i := 3) rfl)) (by decide) (by decide)) (g := (mkF m 21 #[.val (.int p1), .val (.int p2), .val (.int p3), .val (.int p4), .val (.int p5), .val (.int n), .val (.int ca), .val (.int cb), .unset, .unset, .unset, .unset, .unset, .unset, .unset] [(.int p4)])) rfl (by rw [hml]; rfl) (argsL := [(.int p4)]) (rest := []) (lenOf pd__I_I rfl) rfl (by show 2 * 0 + _ ≤ _; exact Nat.le_of_eq rfl) (hb hby at_21) (fun _ _ => ⟨rfl, e7, (by decide : 0 + 0 ≤ _), (by decide : 0 + 0 ≤ _)⟩)
  dsimp only [Pt.U, Pt.locs, Pt.cells, Pt.slots] at X8 l8 y8 z8 st8 hQ8
  subst l8 y8 z8
  obtain ⟨rfl, N8q, e8⟩ := hQ8
  have N8 := Fr.app N7 N8q
  refine OwnR.of (st8) ?_
  show OwnR _ _ _ _ _ _ _ (T8.setTop (mkF m 24 #[.val (.int p1), .val (.int p2), .val (.int p3), .val (.int p4), .val (.int p5), .val (.int n), .val (.int ca), .val (.int cb), .unset, .unset, .unset, .unset, .unset, .unset, .unset] [(.int (own_cnt p4))]))
  refine OwnR.of (fun _ hr => XS.istore X8.here hx rfl (hb hby at_24) rfl (l' := #[.val (.int p1), .val (.int p2), .val (.int p3), .val (.int p4), .val (.int p5), .val (.int n), .val (.int ca), .val (.int cb), .val (.int (own_cnt p4)), .unset, .unset, .unset, .unset, .unset, .unset]) rfl hr) ?_
  show OwnR _ _ _ _ _ _ _ (T8.setTop (mkF m 26 #[.val (.int p1), .val (.int p2), .val (.int p3), .val (.int p4), .val (.int p5), .val (.int n), .val (.int ca), .val (.int cb), .val (.int (own_cnt p4)), .unset, .unset, .unset, .unset, .unset, .unset] []))
  obtain ⟨cc, hcc⟩ : ∃ z : Int32, z = (own_cnt p4) := ⟨_, rfl⟩
  rw [← hcc]
  show OwnR _ _ _ _ _ _ _ (T8.setTop (mkF m 26 #[.val (.int p1), .val (.int p2), .val (.int p3), .val (.int p4), .val (.int p5), .val (.int n), .val (.int ca), .val (.int cb), .val (.int cc), .unset, .unset, .unset, .unset, .unset, .unset] []))
  have hcc1 : ¬ (cc < (1 : Int32)) := by rw [hcc]; exact own_cnt1 _
  refine OwnR.of (fun _ hr => XS.iload X8.here hx rfl (hb hby at_26) rfl hr) ?_
  show OwnR _ _ _ _ _ _ _ (T8.setTop (mkF m 28 #[.val (.int p1), .val (.int p2), .val (.int p3), .val (.int p4), .val (.int p5), .val (.int n), .val (.int ca), .val (.int cb), .val (.int cc), .unset, .unset, .unset, .unset, .unset, .unset] [(.int p5)]))
  obtain ⟨_, _, ⟨T9, L9, kc9, ns9⟩, -, X9, ⟨Lc9, hQ9, l9, y9, z9⟩, st9⟩ := Jvm.LawKit.callS X8 hx (y := (⟨"com/example/ramification/ramification/model/StrahlerOrdersGetTotalBranchesPinLaw", "count", "(I)I"⟩ : MethodName)) hown (mvT hZ (hw _ (List.mem_of_getElem? (i := 1) rfl))) (mvT hZ (hw _ (List.mem_of_getElem? (i := 2) rfl))) (mvT hZ (hw _ (List.mem_of_getElem? (i := 3) rfl))) (mvT hZ (hw _ (List.mem_of_getElem? (i := 4) rfl))) (by decide) (backOf (W := 0) (rm1 l Z a0 hw [] p5 h0 n0 (Nat.le_trans Z0 (Keep.refl h0 []).1) ) hZ (hw _ (List.mem_of_getElem? (i := 4) rfl)) (hw _ (List.mem_of_getElem? (i := 3) rfl)) (by decide) (by decide)) (g := (mkF m 28 #[.val (.int p1), .val (.int p2), .val (.int p3), .val (.int p4), .val (.int p5), .val (.int n), .val (.int ca), .val (.int cb), .val (.int cc), .unset, .unset, .unset, .unset, .unset, .unset] [(.int p5)])) rfl (by rw [hml]; rfl) (argsL := [(.int p5)]) (rest := []) (lenOf pd__I_I rfl) rfl (by show 2 * 0 + _ ≤ _; exact Nat.le_of_eq rfl) (hb hby at_28) (fun _ _ => ⟨rfl, e8, (by decide : 0 + 0 ≤ _), (by decide : 0 + 0 ≤ _)⟩)
  dsimp only [Pt.U, Pt.locs, Pt.cells, Pt.slots] at X9 l9 y9 z9 st9 hQ9
  subst l9 y9 z9
  obtain ⟨rfl, N9q, e9⟩ := hQ9
  have N9 := Fr.app N8 N9q
  refine OwnR.of (st9) ?_
  show OwnR _ _ _ _ _ _ _ (T9.setTop (mkF m 31 #[.val (.int p1), .val (.int p2), .val (.int p3), .val (.int p4), .val (.int p5), .val (.int n), .val (.int ca), .val (.int cb), .val (.int cc), .unset, .unset, .unset, .unset, .unset, .unset] [(.int (own_cnt p5))]))
  refine OwnR.of (fun _ hr => XS.istore X9.here hx rfl (hb hby at_31) rfl (l' := #[.val (.int p1), .val (.int p2), .val (.int p3), .val (.int p4), .val (.int p5), .val (.int n), .val (.int ca), .val (.int cb), .val (.int cc), .val (.int (own_cnt p5)), .unset, .unset, .unset, .unset, .unset]) rfl hr) ?_
  show OwnR _ _ _ _ _ _ _ (T9.setTop (mkF m 33 #[.val (.int p1), .val (.int p2), .val (.int p3), .val (.int p4), .val (.int p5), .val (.int n), .val (.int ca), .val (.int cb), .val (.int cc), .val (.int (own_cnt p5)), .unset, .unset, .unset, .unset, .unset] []))
  obtain ⟨cd, hcd⟩ : ∃ z : Int32, z = (own_cnt p5) := ⟨_, rfl⟩
  rw [← hcd]
  show OwnR _ _ _ _ _ _ _ (T9.setTop (mkF m 33 #[.val (.int p1), .val (.int p2), .val (.int p3), .val (.int p4), .val (.int p5), .val (.int n), .val (.int ca), .val (.int cb), .val (.int cc), .val (.int cd), .unset, .unset, .unset, .unset, .unset] []))
  have hcd1 : ¬ (cd < (1 : Int32)) := by rw [hcd]; exact own_cnt1 _
  rcases hn5 with rfl | rfl | rfl | rfl | rfl
  · skip
    show OwnR _ _ _ _ _ _ _ (T9.setTop (mkF m 33 #[.val (.int p1), .val (.int p2), .val (.int p3), .val (.int p4), .val (.int p5), .val (.int (0 : Int32)), .val (.int ca), .val (.int cb), .val (.int cc), .val (.int cd), .unset, .unset, .unset, .unset, .unset] []))
    refine OwnR.of (fun _ hr => XS.iload X9.here hx rfl (hb hby at_33) rfl hr) ?_
    show OwnR _ _ _ _ _ _ _ (T9.setTop (mkF m 35 #[.val (.int p1), .val (.int p2), .val (.int p3), .val (.int p4), .val (.int p5), .val (.int (0 : Int32)), .val (.int ca), .val (.int cb), .val (.int cc), .val (.int cd), .unset, .unset, .unset, .unset, .unset] [(.int (0 : Int32))]))
    obtain ⟨T10, h10, k10, X10, e10, E10, A10, AE10, st10⟩ := newPE X9 hx hZ (hw _ (List.mem_of_getElem? (i := 9) rfl)) e9 (g := (mkF m 35 #[.val (.int p1), .val (.int p2), .val (.int p3), .val (.int p4), .val (.int p5), .val (.int (0 : Int32)), .val (.int ca), .val (.int cb), .val (.int cc), .val (.int cd), .unset, .unset, .unset, .unset, .unset] [(.int (0 : Int32))])) rfl (hb hby at_35) rfl (by decide) (cap := 0) (by decide) (by decide) (by decide) (by decide) (ad := "[I") rfl
    obtain ⟨b10, g10⟩ : ∃ z, z = h0.size := ⟨_, rfl⟩
    rw [← g10] at A10 AE10 st10
    refine OwnR.of (st10) ?_
    have gn_b10 : n0 ≤ b10 := Nat.le_trans (Nat.le_trans Z0 (Keep.refl h0 []).1) (Nat.le_of_eq g10.symm)
    have sz_b10 : h0.size ≤ b10 := Nat.le_trans (Keep.refl h0 []).1 (Nat.le_of_eq g10.symm)
    have K10 : Keep h0 h10 [] := Keep.ext (Keep.refl h0 []) E10
    have V10 : Arv Z h10 b10 k10 .int (0 : Int32) [] (.int (0 : Int32)) := (Arv.new A10 (by decide)).pad (pad_rep [] (.int (0 : Int32)) 0)
    show OwnR _ _ _ _ _ _ _ (T10.setTop (mkF m 37 #[.val (.int p1), .val (.int p2), .val (.int p3), .val (.int p4), .val (.int p5), .val (.int (0 : Int32)), .val (.int ca), .val (.int cb), .val (.int cc), .val (.int cd), .unset, .unset, .unset, .unset, .unset] [(.ref b10)]))
    refine OwnR.of (fun _ hr => XS.astore X10.here hx rfl (hb hby at_37) rfl rfl (l' := #[.val (.int p1), .val (.int p2), .val (.int p3), .val (.int p4), .val (.int p5), .val (.int (0 : Int32)), .val (.int ca), .val (.int cb), .val (.int cc), .val (.int cd), .val (.ref b10), .unset, .unset, .unset, .unset]) rfl hr) ?_
    show OwnR _ _ _ _ _ _ _ (T10.setTop (mkF m 39 #[.val (.int p1), .val (.int p2), .val (.int p3), .val (.int p4), .val (.int p5), .val (.int (0 : Int32)), .val (.int ca), .val (.int cb), .val (.int cc), .val (.int cd), .val (.ref b10), .unset, .unset, .unset, .unset] []))
    refine OwnR.of (fun _ hr => XS.iload X10.here hx rfl (hb hby at_39) rfl hr) ?_
    show OwnR _ _ _ _ _ _ _ (T10.setTop (mkF m 41 #[.val (.int p1), .val (.int p2), .val (.int p3), .val (.int p4), .val (.int p5), .val (.int (0 : Int32)), .val (.int ca), .val (.int cb), .val (.int cc), .val (.int cd), .val (.ref b10), .unset, .unset, .unset, .unset] [(.int (0 : Int32))]))
    obtain ⟨T11, h11, k11, X11, e11, E11, A11, AE11, st11⟩ := newPE X10 hx hZ (hw _ (List.mem_of_getElem? (i := 10) rfl)) e10 (g := (mkF m 41 #[.val (.int p1), .val (.int p2), .val (.int p3), .val (.int p4), .val (.int p5), .val (.int (0 : Int32)), .val (.int ca), .val (.int cb), .val (.int cc), .val (.int cd), .val (.ref b10), .unset, .unset, .unset, .unset] [(.int (0 : Int32))])) rfl (hb hby at_41) rfl (by decide) (cap := 0) (by decide) (by decide) (by decide) (by decide) (ad := "[D") rfl
    obtain ⟨b11, g11⟩ : ∃ z, z = h10.size := ⟨_, rfl⟩
    rw [← g11] at A11 AE11 st11
    refine OwnR.of (st11) ?_
    have gn_b11 : n0 ≤ b11 := Nat.le_trans (Nat.le_trans Z0 K10.1) (Nat.le_of_eq g11.symm)
    have sz_b11 : h0.size ≤ b11 := Nat.le_trans K10.1 (Nat.le_of_eq g11.symm)
    have K11 : Keep h0 h11 [] := Keep.ext K10 E11
    have V11 : Arv Z h11 b11 k11 .double (0 : Int32) [] (defaultValue .double) := (Arv.new A11 (by decide)).pad (pad_rep [] (defaultValue .double) 0)
    show OwnR _ _ _ _ _ _ _ (T11.setTop (mkF m 43 #[.val (.int p1), .val (.int p2), .val (.int p3), .val (.int p4), .val (.int p5), .val (.int (0 : Int32)), .val (.int ca), .val (.int cb), .val (.int cc), .val (.int cd), .val (.ref b10), .unset, .unset, .unset, .unset] [(.ref b11)]))
    refine OwnR.of (fun _ hr => XS.astore X11.here hx rfl (hb hby at_43) rfl rfl (l' := #[.val (.int p1), .val (.int p2), .val (.int p3), .val (.int p4), .val (.int p5), .val (.int (0 : Int32)), .val (.int ca), .val (.int cb), .val (.int cc), .val (.int cd), .val (.ref b10), .val (.ref b11), .unset, .unset, .unset]) rfl hr) ?_
    show OwnR _ _ _ _ _ _ _ (T11.setTop (mkF m 45 #[.val (.int p1), .val (.int p2), .val (.int p3), .val (.int p4), .val (.int p5), .val (.int (0 : Int32)), .val (.int ca), .val (.int cb), .val (.int cc), .val (.int cd), .val (.ref b10), .val (.ref b11), .unset, .unset, .unset] []))
    refine OwnR.of (fun _ hr => XS.lconst X11.here hx rfl (hb hby at_45) hr) ?_
    show OwnR _ _ _ _ _ _ _ (T11.setTop (mkF m 46 #[.val (.int p1), .val (.int p2), .val (.int p3), .val (.int p4), .val (.int p5), .val (.int (0 : Int32)), .val (.int ca), .val (.int cb), .val (.int cc), .val (.int cd), .val (.ref b10), .val (.ref b11), .unset, .unset, .unset] [(.long (0 : Int64))]))
    refine OwnR.of (fun _ hr => XS.lstore X11.here hx rfl (hb hby at_46) rfl (l' := #[.val (.int p1), .val (.int p2), .val (.int p3), .val (.int p4), .val (.int p5), .val (.int (0 : Int32)), .val (.int ca), .val (.int cb), .val (.int cc), .val (.int cd), .val (.ref b10), .val (.ref b11), .val (.long (0 : Int64)), .second, .unset]) rfl hr) ?_
    show OwnR _ _ _ _ _ _ _ (T11.setTop (mkF m 48 #[.val (.int p1), .val (.int p2), .val (.int p3), .val (.int p4), .val (.int p5), .val (.int (0 : Int32)), .val (.int ca), .val (.int cb), .val (.int cc), .val (.int cd), .val (.ref b10), .val (.ref b11), .val (.long (0 : Int64)), .second, .unset] []))
    refine OwnR.of (fun _ hr => XS.iload X11.here hx rfl (hb hby at_48) rfl hr) ?_
    show OwnR _ _ _ _ _ _ _ (T11.setTop (mkF m 50 #[.val (.int p1), .val (.int p2), .val (.int p3), .val (.int p4), .val (.int p5), .val (.int (0 : Int32)), .val (.int ca), .val (.int cb), .val (.int cc), .val (.int cd), .val (.ref b10), .val (.ref b11), .val (.long (0 : Int64)), .second, .unset] [(.int (0 : Int32))]))
    refine OwnR.of (fun _ hr => XS.ifYes X11.here hx rfl (pc0 := 50) (pc' := 67) rfl (hb hby at_50) rfl ((if0 _ _).trans (flt (by decide : ¬ ((0 : Int32) < (0 : Int32)))).2.2.2) (by decide) (by decide) hr) ?_
    show OwnR _ _ _ _ _ _ _ (T11.setTop (mkF m 67 #[.val (.int p1), .val (.int p2), .val (.int p3), .val (.int p4), .val (.int p5), .val (.int (0 : Int32)), .val (.int ca), .val (.int cb), .val (.int cc), .val (.int cd), .val (.ref b10), .val (.ref b11), .val (.long (0 : Int64)), .second, .unset] []))
    refine OwnR.of (fun _ hr => XS.iload X11.here hx rfl (hb hby at_67) rfl hr) ?_
    show OwnR _ _ _ _ _ _ _ (T11.setTop (mkF m 69 #[.val (.int p1), .val (.int p2), .val (.int p3), .val (.int p4), .val (.int p5), .val (.int (0 : Int32)), .val (.int ca), .val (.int cb), .val (.int cc), .val (.int cd), .val (.ref b10), .val (.ref b11), .val (.long (0 : Int64)), .second, .unset] [(.int (0 : Int32))]))
    refine OwnR.of (fun _ hr => XS.iconst X11.here hx rfl (hb hby at_69) hr) ?_
    show OwnR _ _ _ _ _ _ _ (T11.setTop (mkF m 70 #[.val (.int p1), .val (.int p2), .val (.int p3), .val (.int p4), .val (.int p5), .val (.int (0 : Int32)), .val (.int ca), .val (.int cb), .val (.int cc), .val (.int cd), .val (.ref b10), .val (.ref b11), .val (.long (0 : Int64)), .second, .unset] [(.int (1 : Int32)), (.int (0 : Int32))]))
    refine OwnR.of (fun _ hr => XS.icmpYes X11.here hx rfl (pc0 := 70) (pc' := 87) rfl (hb hby at_70) rfl (flt (by decide : ¬ ((1 : Int32) < (0 : Int32)))).2.2.2 (by decide) (by decide) hr) ?_
    show OwnR _ _ _ _ _ _ _ (T11.setTop (mkF m 87 #[.val (.int p1), .val (.int p2), .val (.int p3), .val (.int p4), .val (.int p5), .val (.int (0 : Int32)), .val (.int ca), .val (.int cb), .val (.int cc), .val (.int cd), .val (.ref b10), .val (.ref b11), .val (.long (0 : Int64)), .second, .unset] []))
    refine OwnR.of (fun _ hr => XS.iload X11.here hx rfl (hb hby at_87) rfl hr) ?_
    show OwnR _ _ _ _ _ _ _ (T11.setTop (mkF m 89 #[.val (.int p1), .val (.int p2), .val (.int p3), .val (.int p4), .val (.int p5), .val (.int (0 : Int32)), .val (.int ca), .val (.int cb), .val (.int cc), .val (.int cd), .val (.ref b10), .val (.ref b11), .val (.long (0 : Int64)), .second, .unset] [(.int (0 : Int32))]))
    refine OwnR.of (fun _ hr => XS.iconst X11.here hx rfl (hb hby at_89) hr) ?_
    show OwnR _ _ _ _ _ _ _ (T11.setTop (mkF m 90 #[.val (.int p1), .val (.int p2), .val (.int p3), .val (.int p4), .val (.int p5), .val (.int (0 : Int32)), .val (.int ca), .val (.int cb), .val (.int cc), .val (.int cd), .val (.ref b10), .val (.ref b11), .val (.long (0 : Int64)), .second, .unset] [(.int (2 : Int32)), (.int (0 : Int32))]))
    refine OwnR.of (fun _ hr => XS.icmpYes X11.here hx rfl (pc0 := 90) (pc' := 107) rfl (hb hby at_90) rfl (flt (by decide : ¬ ((2 : Int32) < (0 : Int32)))).2.2.2 (by decide) (by decide) hr) ?_
    show OwnR _ _ _ _ _ _ _ (T11.setTop (mkF m 107 #[.val (.int p1), .val (.int p2), .val (.int p3), .val (.int p4), .val (.int p5), .val (.int (0 : Int32)), .val (.int ca), .val (.int cb), .val (.int cc), .val (.int cd), .val (.ref b10), .val (.ref b11), .val (.long (0 : Int64)), .second, .unset] []))
    refine OwnR.of (fun _ hr => XS.iload X11.here hx rfl (hb hby at_107) rfl hr) ?_
    show OwnR _ _ _ _ _ _ _ (T11.setTop (mkF m 109 #[.val (.int p1), .val (.int p2), .val (.int p3), .val (.int p4), .val (.int p5), .val (.int (0 : Int32)), .val (.int ca), .val (.int cb), .val (.int cc), .val (.int cd), .val (.ref b10), .val (.ref b11), .val (.long (0 : Int64)), .second, .unset] [(.int (0 : Int32))]))
    refine OwnR.of (fun _ hr => XS.iconst X11.here hx rfl (hb hby at_109) hr) ?_
    show OwnR _ _ _ _ _ _ _ (T11.setTop (mkF m 110 #[.val (.int p1), .val (.int p2), .val (.int p3), .val (.int p4), .val (.int p5), .val (.int (0 : Int32)), .val (.int ca), .val (.int cb), .val (.int cc), .val (.int cd), .val (.ref b10), .val (.ref b11), .val (.long (0 : Int64)), .second, .unset] [(.int (3 : Int32)), (.int (0 : Int32))]))
    refine OwnR.of (fun _ hr => XS.icmpYes X11.here hx rfl (pc0 := 110) (pc' := 127) rfl (hb hby at_110) rfl (flt (by decide : ¬ ((3 : Int32) < (0 : Int32)))).2.2.2 (by decide) (by decide) hr) ?_
    show OwnR _ _ _ _ _ _ _ (T11.setTop (mkF m 127 #[.val (.int p1), .val (.int p2), .val (.int p3), .val (.int p4), .val (.int p5), .val (.int (0 : Int32)), .val (.int ca), .val (.int cb), .val (.int cc), .val (.int cd), .val (.ref b10), .val (.ref b11), .val (.long (0 : Int64)), .second, .unset] []))
    obtain ⟨T12, h12, X12, e12, E12, A12, D12, -, st12⟩ := newO X11 hx hZ hown (hw _ (List.mem_of_getElem? (i := 11) rfl)) (hw _ (List.mem_of_getElem? (i := 12) rfl)) (hw _ (List.mem_of_getElem? (i := 13) rfl)) e11 (g := (mkF m 127 #[.val (.int p1), .val (.int p2), .val (.int p3), .val (.int p4), .val (.int p5), .val (.int (0 : Int32)), .val (.int ca), .val (.int cb), .val (.int cc), .val (.int cd), .val (.ref b10), .val (.ref b11), .val (.long (0 : Int64)), .second, .unset] [])) rfl (hb hby at_127) (by decide) (by decide)
    obtain ⟨b12, g12⟩ : ∃ z, z = h11.size := ⟨_, rfl⟩
    rw [← g12] at A12 D12 st12
    refine OwnR.of (st12) ?_
    have gn_b12 : n0 ≤ b12 := Nat.le_trans (Nat.le_trans Z0 K11.1) (Nat.le_of_eq g12.symm)
    have sz_b12 : h0.size ≤ b12 := Nat.le_trans K11.1 (Nat.le_of_eq g12.symm)
    have K12 : Keep h0 h12 [] := Keep.ext K11 E12
    have F_branches_b12 : Fld Z h12 b12 "com/example/ramification/ramification/model/StrahlerOrders" "branches" "[I" .null := D12 (Or.inr (hw _ (List.mem_of_getElem? (i := 30) rfl))) (ty := (.array .int)) (by decide)
    have F_lengths_b12 : Fld Z h12 b12 "com/example/ramification/ramification/model/StrahlerOrders" "lengths" "[D" .null := D12 (Or.inr (hw _ (List.mem_of_getElem? (i := 38) rfl))) (ty := (.array .double)) (by decide)
    have F_unit_b12 : Fld Z h12 b12 "com/example/ramification/ramification/model/StrahlerOrders" "unit" "Ljava/util/Optional;" .null := D12 (Or.inr (hw _ (List.mem_of_getElem? (i := 40) rfl))) (ty := (.object "java/util/Optional")) (by decide)
    show OwnR _ _ _ _ _ _ _ (T12.setTop (mkF m 130 #[.val (.int p1), .val (.int p2), .val (.int p3), .val (.int p4), .val (.int p5), .val (.int (0 : Int32)), .val (.int ca), .val (.int cb), .val (.int cc), .val (.int cd), .val (.ref b10), .val (.ref b11), .val (.long (0 : Int64)), .second, .unset] [(.ref b12)]))
    refine OwnR.of (fun _ hr => XS.dup X12.here hx rfl (hb hby at_130) rfl rfl hr) ?_
    show OwnR _ _ _ _ _ _ _ (T12.setTop (mkF m 131 #[.val (.int p1), .val (.int p2), .val (.int p3), .val (.int p4), .val (.int p5), .val (.int (0 : Int32)), .val (.int ca), .val (.int cb), .val (.int cc), .val (.int cd), .val (.ref b10), .val (.ref b11), .val (.long (0 : Int64)), .second, .unset] [(.ref b12), (.ref b12)]))
    refine OwnR.of (fun _ hr => XS.aload X12.here hx rfl (hb hby at_131) rfl rfl hr) ?_
    show OwnR _ _ _ _ _ _ _ (T12.setTop (mkF m 133 #[.val (.int p1), .val (.int p2), .val (.int p3), .val (.int p4), .val (.int p5), .val (.int (0 : Int32)), .val (.int ca), .val (.int cb), .val (.int cc), .val (.int cd), .val (.ref b10), .val (.ref b11), .val (.long (0 : Int64)), .second, .unset] [(.ref b10), (.ref b12), (.ref b12)]))
    refine OwnR.of (fun _ hr => XS.aload X12.here hx rfl (hb hby at_133) rfl rfl hr) ?_
    show OwnR _ _ _ _ _ _ _ (T12.setTop (mkF m 135 #[.val (.int p1), .val (.int p2), .val (.int p3), .val (.int p4), .val (.int p5), .val (.int (0 : Int32)), .val (.int ca), .val (.int cb), .val (.int cc), .val (.int cd), .val (.ref b10), .val (.ref b11), .val (.long (0 : Int64)), .second, .unset] [(.ref b11), (.ref b10), (.ref b12), (.ref b12)]))
    refine OwnR.of (fun _ hr => XS.aconstNull X12.here hx rfl (hb hby at_135) hr) ?_
    show OwnR _ _ _ _ _ _ _ (T12.setTop (mkF m 136 #[.val (.int p1), .val (.int p2), .val (.int p3), .val (.int p4), .val (.int p5), .val (.int (0 : Int32)), .val (.int ca), .val (.int cb), .val (.int cc), .val (.int cd), .val (.ref b10), .val (.ref b11), .val (.long (0 : Int64)), .second, .unset] [.null, (.ref b11), (.ref b10), (.ref b12), (.ref b12)]))
    obtain ⟨_, _, ⟨T13, L13, kc13, ns13⟩, -, X13, ⟨Lc13, hQ13, l13, y13, z13⟩, st13⟩ := X12.specialBack hx (y := (⟨"com/example/ramification/ramification/model/StrahlerOrders", "<init>", "([I[DLjava/util/Optional;)V"⟩ : MethodName)) rfl hown (mvT hZ (hw _ (List.mem_of_getElem? (i := 14) rfl))) (mvT hZ (hw _ (List.mem_of_getElem? (i := 15) rfl))) (mvT hZ (hw _ (List.mem_of_getElem? (i := 16) rfl))) (by decide) (backOf (W := 1) (rm3_0 l Z a0 hw [] b12 b10 b11 k10 k11 h12 n0 (Nat.le_trans Z0 K12.1) A12 F_branches_b12 F_lengths_b12 F_unit_b12 (Arv.ext (Arv.ext V10 E11) E12) (Arv.ext V11 E12) (Exa.ext E12 (Exa.ext E11 AE10)) (Exa.ext E12 AE11) gn_b12 (Ne.symm (Nat.ne_of_lt (Nat.lt_of_lt_of_le (Exa.ext E11 AE10).lt (Nat.le_of_eq g12.symm)))) (Ne.symm (Nat.ne_of_lt (Nat.lt_of_lt_of_le AE11.lt (Nat.le_of_eq g12.symm))))) hZ (hw _ (List.mem_of_getElem? (i := 16) rfl)) (hw _ (List.mem_of_getElem? (i := 13) rfl)) (by decide) (by decide)) (g := (mkF m 136 #[.val (.int p1), .val (.int p2), .val (.int p3), .val (.int p4), .val (.int p5), .val (.int (0 : Int32)), .val (.int ca), .val (.int cb), .val (.int cc), .val (.int cd), .val (.ref b10), .val (.ref b11), .val (.long (0 : Int64)), .second, .unset] [.null, (.ref b11), (.ref b10), (.ref b12), (.ref b12)])) rfl (by rw [hml]; rfl) (Steps.refl _) (a := b12) (argsL := [(.ref b10), (.ref b11), .null]) (rest := [(.ref b12)]) (lenOf pd___I_DLjava_util_Optional__V rfl) rfl (by show 2 * 0 + _ ≤ _; exact Nat.le_of_eq rfl) (hb hby at_136) (fun _ _ => ⟨rfl, e12, (by decide : 3 + 2 ≤ _), (by decide : 3 + 0 ≤ _)⟩)
    dsimp only [Pt.U, Pt.locs, Pt.cells, Pt.slots] at X13 l13 y13 z13 st13 hQ13
    subst l13 y13 z13
    obtain ⟨bI_13, rfl, N13q, P13_0, P13_1, P13_2, P13_3⟩ := hQ13
    have K13 : Keep h0 T13.heap [] := Keep.trans K12 P13_0 (allS (Or.inr sz_b12) all0)
    have N13 := Fr.app N9 N13q
    refine OwnR.of (fun _ hr => st13.trans hr) ?_
    show OwnR _ _ _ _ _ _ _ (T13.setTop (mkF m 139 #[.val (.int p1), .val (.int p2), .val (.int p3), .val (.int p4), .val (.int p5), .val (.int (0 : Int32)), .val (.int ca), .val (.int cb), .val (.int cc), .val (.int cd), .val (.ref b10), .val (.ref b11), .val (.long (0 : Int64)), .second, .unset] [(.ref b12)]))
    refine OwnR.of (fun _ hr => XS.astore X13.here hx rfl (hb hby at_139) rfl rfl (l' := #[.val (.int p1), .val (.int p2), .val (.int p3), .val (.int p4), .val (.int p5), .val (.int (0 : Int32)), .val (.int ca), .val (.int cb), .val (.int cc), .val (.int cd), .val (.ref b10), .val (.ref b11), .val (.long (0 : Int64)), .second, .val (.ref b12)]) rfl hr) ?_
    show OwnR _ _ _ _ _ _ _ (T13.setTop (mkF m 141 #[.val (.int p1), .val (.int p2), .val (.int p3), .val (.int p4), .val (.int p5), .val (.int (0 : Int32)), .val (.int ca), .val (.int cb), .val (.int cc), .val (.int cd), .val (.ref b10), .val (.ref b11), .val (.long (0 : Int64)), .second, .val (.ref b12)] []))
    refine OwnR.of (fun _ hr => XS.aload X13.here hx rfl (hb hby at_141) rfl rfl hr) ?_
    show OwnR _ _ _ _ _ _ _ (T13.setTop (mkF m 143 #[.val (.int p1), .val (.int p2), .val (.int p3), .val (.int p4), .val (.int p5), .val (.int (0 : Int32)), .val (.int ca), .val (.int cb), .val (.int cc), .val (.int cd), .val (.ref b10), .val (.ref b11), .val (.long (0 : Int64)), .second, .val (.ref b12)] [(.ref b12)]))
    obtain ⟨cq14, kq14, q14a, q14b, q14c⟩ := isOf hZ rfl P13_1
    obtain ⟨_, _, ⟨T14, L14, kc14, ns14⟩, -, X14, ⟨Lc14, hQ14, l14, y14, z14⟩, st14⟩ := X13.virtualBack hx (y := (⟨"com/example/ramification/ramification/model/StrahlerOrders", "getTotalBranches", "()J"⟩ : MethodName)) (z := (⟨"com/example/ramification/ramification/model/StrahlerOrders", "getTotalBranches", "()J"⟩ : MethodName)) hown (mvT hZ (hw _ (List.mem_of_getElem? (i := 41) rfl))) (mvT hZ (hw _ (List.mem_of_getElem? (i := 42) rfl))) (notFace_of_selects (args := #[]) (mvT hZ (hw _ (List.mem_of_getElem? (i := 44) rfl)))) (mvT hZ (hw _ (List.mem_of_getElem? (i := 44) rfl))) (mvT hZ (hw _ (List.mem_of_getElem? (i := 43) rfl))) (by decide) (backOf (W := 0) (rm5_0 l Z a0 hw [] b12 bI_13 k10 (T13.heap) n0 (Nat.le_trans Z0 K13.1) P13_1 P13_2 P13_3) hZ (hw _ (List.mem_of_getElem? (i := 45) rfl)) (hw _ (List.mem_of_getElem? (i := 13) rfl)) (by decide) (by decide)) q14a q14c (g := (mkF m 143 #[.val (.int p1), .val (.int p2), .val (.int p3), .val (.int p4), .val (.int p5), .val (.int (0 : Int32)), .val (.int ca), .val (.int cb), .val (.int cc), .val (.int cd), .val (.ref b10), .val (.ref b11), .val (.long (0 : Int64)), .second, .val (.ref b12)] [(.ref b12)])) rfl (by rw [hml]; rfl) (Steps.refl _) (argsL := []) (rest := []) (lenOf pd___J rfl) rfl (by show 2 * 0 + _ ≤ _; exact Nat.le_of_eq rfl) (hb hby at_143) (fun _ _ => ⟨rfl, rfl, (by decide : 5 + 0 ≤ _), (by decide : 3 + 0 ≤ _)⟩)
    dsimp only [Pt.U, Pt.locs, Pt.cells, Pt.slots] at X14 l14 y14 z14 st14 hQ14
    subst l14 y14 z14
    obtain ⟨rfl, N14q, e14⟩ := hQ14
    have N14 := Fr.app N13 N14q
    refine OwnR.of (fun _ hr => st14.trans hr) ?_
    show OwnR _ _ _ _ _ _ _ (T14.setTop (mkF m 146 #[.val (.int p1), .val (.int p2), .val (.int p3), .val (.int p4), .val (.int p5), .val (.int (0 : Int32)), .val (.int ca), .val (.int cb), .val (.int cc), .val (.int cd), .val (.ref b10), .val (.ref b11), .val (.long (0 : Int64)), .second, .val (.ref b12)] [(.long (0 : Int64))]))
    refine OwnR.of (fun _ hr => XS.lload X14.here hx rfl (hb hby at_146) rfl hr) ?_
    show OwnR _ _ _ _ _ _ _ (T14.setTop (mkF m 148 #[.val (.int p1), .val (.int p2), .val (.int p3), .val (.int p4), .val (.int p5), .val (.int (0 : Int32)), .val (.int ca), .val (.int cb), .val (.int cc), .val (.int cd), .val (.ref b10), .val (.ref b11), .val (.long (0 : Int64)), .second, .val (.ref b12)] [(.long (0 : Int64)), (.long (0 : Int64))]))
    refine OwnR.of (fun _ hr => XS.lcmp X14.here hx rfl (hb hby at_148) rfl hr) ?_
    show OwnR _ _ _ _ _ _ _ (T14.setTop (mkF m 149 #[.val (.int p1), .val (.int p2), .val (.int p3), .val (.int p4), .val (.int p5), .val (.int (0 : Int32)), .val (.int ca), .val (.int cb), .val (.int cc), .val (.int cd), .val (.ref b10), .val (.ref b11), .val (.long (0 : Int64)), .second, .val (.ref b12)] [(.int (lcmpW (0 : Int64) (0 : Int64)))]))
    refine OwnR.of (fun _ hr => XS.ifNo X14.here hx rfl (hb hby at_149) rfl ((if0 _ _).trans (teq ((own_lceq _ _).mpr (by decide : (0 : Int64) = (0 : Int64)))).2) hr) ?_
    show OwnR _ _ _ _ _ _ _ (T14.setTop (mkF m 152 #[.val (.int p1), .val (.int p2), .val (.int p3), .val (.int p4), .val (.int p5), .val (.int (0 : Int32)), .val (.int ca), .val (.int cb), .val (.int cc), .val (.int cd), .val (.ref b10), .val (.ref b11), .val (.long (0 : Int64)), .second, .val (.ref b12)] []))
    refine OwnR.of (fun _ hr => XS.iconst X14.here hx rfl (hb hby at_152) hr) ?_
    show OwnR _ _ _ _ _ _ _ (T14.setTop (mkF m 153 #[.val (.int p1), .val (.int p2), .val (.int p3), .val (.int p4), .val (.int p5), .val (.int (0 : Int32)), .val (.int ca), .val (.int cb), .val (.int cc), .val (.int cd), .val (.ref b10), .val (.ref b11), .val (.long (0 : Int64)), .second, .val (.ref b12)] [(.int (1 : Int32))]))
    refine OwnR.of (fun _ hr => XS.goto X14.here hx rfl (pc0 := 153) (pc' := 157) rfl (hb hby at_153) (by decide) (by decide) hr) ?_
    show OwnR _ _ _ _ _ _ _ (T14.setTop (mkF m 157 #[.val (.int p1), .val (.int p2), .val (.int p3), .val (.int p4), .val (.int p5), .val (.int (0 : Int32)), .val (.int ca), .val (.int cb), .val (.int cc), .val (.int cd), .val (.ref b10), .val (.ref b11), .val (.long (0 : Int64)), .second, .val (.ref b12)] [(.int (1 : Int32))]))
    refine own_leafN X14 hx hlk (t := .boolean) Bd.returns (by simp) (hb hby at_157) (z' := (1 : Int32)) rfl (by decide) (by decide) ?_
    show Q0 Z  h0 n0 _ T14.heap _
    rw [show T14.heap = T13.heap from e14]
    refine ⟨?_, N14⟩
    show (some (.int (1 : Int32)) : Option Value) = some (.int (1 : Int32))
    rfl
  · skip
    show OwnR _ _ _ _ _ _ _ (T9.setTop (mkF m 33 #[.val (.int p1), .val (.int p2), .val (.int p3), .val (.int p4), .val (.int p5), .val (.int (1 : Int32)), .val (.int ca), .val (.int cb), .val (.int cc), .val (.int cd), .unset, .unset, .unset, .unset, .unset] []))
    refine OwnR.of (fun _ hr => XS.iload X9.here hx rfl (hb hby at_33) rfl hr) ?_
    show OwnR _ _ _ _ _ _ _ (T9.setTop (mkF m 35 #[.val (.int p1), .val (.int p2), .val (.int p3), .val (.int p4), .val (.int p5), .val (.int (1 : Int32)), .val (.int ca), .val (.int cb), .val (.int cc), .val (.int cd), .unset, .unset, .unset, .unset, .unset] [(.int (1 : Int32))]))
    obtain ⟨T15, h15, k15, X15, e15, E15, A15, AE15, st15⟩ := newPE X9 hx hZ (hw _ (List.mem_of_getElem? (i := 9) rfl)) e9 (g := (mkF m 35 #[.val (.int p1), .val (.int p2), .val (.int p3), .val (.int p4), .val (.int p5), .val (.int (1 : Int32)), .val (.int ca), .val (.int cb), .val (.int cc), .val (.int cd), .unset, .unset, .unset, .unset, .unset] [(.int (1 : Int32))])) rfl (hb hby at_35) rfl (by decide) (cap := 1) (by decide) (by decide) (by decide) (by decide) (ad := "[I") rfl
    obtain ⟨b15, g15⟩ : ∃ z, z = h0.size := ⟨_, rfl⟩
    rw [← g15] at A15 AE15 st15
    refine OwnR.of (st15) ?_
    have gn_b15 : n0 ≤ b15 := Nat.le_trans (Nat.le_trans Z0 (Keep.refl h0 []).1) (Nat.le_of_eq g15.symm)
    have sz_b15 : h0.size ≤ b15 := Nat.le_trans (Keep.refl h0 []).1 (Nat.le_of_eq g15.symm)
    have K15 : Keep h0 h15 [] := Keep.ext (Keep.refl h0 []) E15
    have V15 : Arv Z h15 b15 k15 .int (1 : Int32) [(.int (0 : Int32))] (.int (0 : Int32)) := (Arv.new A15 (by decide)).pad (pad_rep [] (.int (0 : Int32)) 1)
    show OwnR _ _ _ _ _ _ _ (T15.setTop (mkF m 37 #[.val (.int p1), .val (.int p2), .val (.int p3), .val (.int p4), .val (.int p5), .val (.int (1 : Int32)), .val (.int ca), .val (.int cb), .val (.int cc), .val (.int cd), .unset, .unset, .unset, .unset, .unset] [(.ref b15)]))
    refine OwnR.of (fun _ hr => XS.astore X15.here hx rfl (hb hby at_37) rfl rfl (l' := #[.val (.int p1), .val (.int p2), .val (.int p3), .val (.int p4), .val (.int p5), .val (.int (1 : Int32)), .val (.int ca), .val (.int cb), .val (.int cc), .val (.int cd), .val (.ref b15), .unset, .unset, .unset, .unset]) rfl hr) ?_
    show OwnR _ _ _ _ _ _ _ (T15.setTop (mkF m 39 #[.val (.int p1), .val (.int p2), .val (.int p3), .val (.int p4), .val (.int p5), .val (.int (1 : Int32)), .val (.int ca), .val (.int cb), .val (.int cc), .val (.int cd), .val (.ref b15), .unset, .unset, .unset, .unset] []))
    refine OwnR.of (fun _ hr => XS.iload X15.here hx rfl (hb hby at_39) rfl hr) ?_
    show OwnR _ _ _ _ _ _ _ (T15.setTop (mkF m 41 #[.val (.int p1), .val (.int p2), .val (.int p3), .val (.int p4), .val (.int p5), .val (.int (1 : Int32)), .val (.int ca), .val (.int cb), .val (.int cc), .val (.int cd), .val (.ref b15), .unset, .unset, .unset, .unset] [(.int (1 : Int32))]))
    obtain ⟨T16, h16, k16, X16, e16, E16, A16, AE16, st16⟩ := newPE X15 hx hZ (hw _ (List.mem_of_getElem? (i := 10) rfl)) e15 (g := (mkF m 41 #[.val (.int p1), .val (.int p2), .val (.int p3), .val (.int p4), .val (.int p5), .val (.int (1 : Int32)), .val (.int ca), .val (.int cb), .val (.int cc), .val (.int cd), .val (.ref b15), .unset, .unset, .unset, .unset] [(.int (1 : Int32))])) rfl (hb hby at_41) rfl (by decide) (cap := 1) (by decide) (by decide) (by decide) (by decide) (ad := "[D") rfl
    obtain ⟨b16, g16⟩ : ∃ z, z = h15.size := ⟨_, rfl⟩
    rw [← g16] at A16 AE16 st16
    refine OwnR.of (st16) ?_
    have gn_b16 : n0 ≤ b16 := Nat.le_trans (Nat.le_trans Z0 K15.1) (Nat.le_of_eq g16.symm)
    have sz_b16 : h0.size ≤ b16 := Nat.le_trans K15.1 (Nat.le_of_eq g16.symm)
    have K16 : Keep h0 h16 [] := Keep.ext K15 E16
    have V16 : Arv Z h16 b16 k16 .double (1 : Int32) [(defaultValue .double)] (defaultValue .double) := (Arv.new A16 (by decide)).pad (pad_rep [] (defaultValue .double) 1)
    show OwnR _ _ _ _ _ _ _ (T16.setTop (mkF m 43 #[.val (.int p1), .val (.int p2), .val (.int p3), .val (.int p4), .val (.int p5), .val (.int (1 : Int32)), .val (.int ca), .val (.int cb), .val (.int cc), .val (.int cd), .val (.ref b15), .unset, .unset, .unset, .unset] [(.ref b16)]))
    refine OwnR.of (fun _ hr => XS.astore X16.here hx rfl (hb hby at_43) rfl rfl (l' := #[.val (.int p1), .val (.int p2), .val (.int p3), .val (.int p4), .val (.int p5), .val (.int (1 : Int32)), .val (.int ca), .val (.int cb), .val (.int cc), .val (.int cd), .val (.ref b15), .val (.ref b16), .unset, .unset, .unset]) rfl hr) ?_
    show OwnR _ _ _ _ _ _ _ (T16.setTop (mkF m 45 #[.val (.int p1), .val (.int p2), .val (.int p3), .val (.int p4), .val (.int p5), .val (.int (1 : Int32)), .val (.int ca), .val (.int cb), .val (.int cc), .val (.int cd), .val (.ref b15), .val (.ref b16), .unset, .unset, .unset] []))
    refine OwnR.of (fun _ hr => XS.lconst X16.here hx rfl (hb hby at_45) hr) ?_
    show OwnR _ _ _ _ _ _ _ (T16.setTop (mkF m 46 #[.val (.int p1), .val (.int p2), .val (.int p3), .val (.int p4), .val (.int p5), .val (.int (1 : Int32)), .val (.int ca), .val (.int cb), .val (.int cc), .val (.int cd), .val (.ref b15), .val (.ref b16), .unset, .unset, .unset] [(.long (0 : Int64))]))
    refine OwnR.of (fun _ hr => XS.lstore X16.here hx rfl (hb hby at_46) rfl (l' := #[.val (.int p1), .val (.int p2), .val (.int p3), .val (.int p4), .val (.int p5), .val (.int (1 : Int32)), .val (.int ca), .val (.int cb), .val (.int cc), .val (.int cd), .val (.ref b15), .val (.ref b16), .val (.long (0 : Int64)), .second, .unset]) rfl hr) ?_
    show OwnR _ _ _ _ _ _ _ (T16.setTop (mkF m 48 #[.val (.int p1), .val (.int p2), .val (.int p3), .val (.int p4), .val (.int p5), .val (.int (1 : Int32)), .val (.int ca), .val (.int cb), .val (.int cc), .val (.int cd), .val (.ref b15), .val (.ref b16), .val (.long (0 : Int64)), .second, .unset] []))
    refine OwnR.of (fun _ hr => XS.iload X16.here hx rfl (hb hby at_48) rfl hr) ?_
    show OwnR _ _ _ _ _ _ _ (T16.setTop (mkF m 50 #[.val (.int p1), .val (.int p2), .val (.int p3), .val (.int p4), .val (.int p5), .val (.int (1 : Int32)), .val (.int ca), .val (.int cb), .val (.int cc), .val (.int cd), .val (.ref b15), .val (.ref b16), .val (.long (0 : Int64)), .second, .unset] [(.int (1 : Int32))]))
    refine OwnR.of (fun _ hr => XS.ifNo X16.here hx rfl (hb hby at_50) rfl ((if0 _ _).trans (tlt (by decide : (0 : Int32) < (1 : Int32))).2.2.2) hr) ?_
    show OwnR _ _ _ _ _ _ _ (T16.setTop (mkF m 53 #[.val (.int p1), .val (.int p2), .val (.int p3), .val (.int p4), .val (.int p5), .val (.int (1 : Int32)), .val (.int ca), .val (.int cb), .val (.int cc), .val (.int cd), .val (.ref b15), .val (.ref b16), .val (.long (0 : Int64)), .second, .unset] []))
    refine OwnR.of (fun _ hr => XS.aload X16.here hx rfl (hb hby at_53) rfl rfl hr) ?_
    show OwnR _ _ _ _ _ _ _ (T16.setTop (mkF m 55 #[.val (.int p1), .val (.int p2), .val (.int p3), .val (.int p4), .val (.int p5), .val (.int (1 : Int32)), .val (.int ca), .val (.int cb), .val (.int cc), .val (.int cd), .val (.ref b15), .val (.ref b16), .val (.long (0 : Int64)), .second, .unset] [(.ref b15)]))
    refine OwnR.of (fun _ hr => XS.iconst X16.here hx rfl (hb hby at_55) hr) ?_
    show OwnR _ _ _ _ _ _ _ (T16.setTop (mkF m 56 #[.val (.int p1), .val (.int p2), .val (.int p3), .val (.int p4), .val (.int p5), .val (.int (1 : Int32)), .val (.int ca), .val (.int cb), .val (.int cc), .val (.int cd), .val (.ref b15), .val (.ref b16), .val (.long (0 : Int64)), .second, .unset] [(.int (0 : Int32)), (.ref b15)]))
    refine OwnR.of (fun _ hr => XS.iload X16.here hx rfl (hb hby at_56) rfl hr) ?_
    show OwnR _ _ _ _ _ _ _ (T16.setTop (mkF m 58 #[.val (.int p1), .val (.int p2), .val (.int p3), .val (.int p4), .val (.int p5), .val (.int (1 : Int32)), .val (.int ca), .val (.int cb), .val (.int cc), .val (.int cd), .val (.ref b15), .val (.ref b16), .val (.long (0 : Int64)), .second, .unset] [(.int ca), (.int (0 : Int32)), (.ref b15)]))
    obtain ⟨cl17, Ar17, q17, S17, N17q, H17, G17⟩ := id (Arv.ext V15 E16)
    have hin17 : ¬ ((0 : Int32) < 0 ∨ cl17.slots.size ≤ ((0 : Int32)).toNatClampNeg) := (inb_of S17 ⟨by decide, by decide⟩)
    obtain ⟨T17, h17, X17, e17, W17, st17⟩ := stI X16 hx hZ e16 Ar17 (j := (0 : Int32)) hin17 (g := (mkF m 58 #[.val (.int p1), .val (.int p2), .val (.int p3), .val (.int p4), .val (.int p5), .val (.int (1 : Int32)), .val (.int ca), .val (.int cb), .val (.int cc), .val (.int cd), .val (.ref b15), .val (.ref b16), .val (.long (0 : Int64)), .second, .unset] [(.int ca), (.int (0 : Int32)), (.ref b15)])) rfl rfl (hb hby at_58)
    refine OwnR.of (st17) ?_
    have V17 := Arv.set Ar17 q17 S17 N17q H17 G17 rfl W17 0 rfl (Nat.le_of_ble_eq_true rfl)
    have V17 : Arv Z h17 b15 k15 .int (1 : Int32) [(.int ca)] (.int (0 : Int32)) := V17
    have K17 : Keep h0 h17 [] := Keep.wr K16 W17 (Or.inr sz_b15)
    have N17 := Fr.snoc X17 N9 gn_b15
    show OwnR _ _ _ _ _ _ _ (T17.setTop (mkF m 59 #[.val (.int p1), .val (.int p2), .val (.int p3), .val (.int p4), .val (.int p5), .val (.int (1 : Int32)), .val (.int ca), .val (.int cb), .val (.int cc), .val (.int cd), .val (.ref b15), .val (.ref b16), .val (.long (0 : Int64)), .second, .unset] []))
    refine OwnR.of (fun _ hr => XS.lload X17.here hx rfl (hb hby at_59) rfl hr) ?_
    show OwnR _ _ _ _ _ _ _ (T17.setTop (mkF m 61 #[.val (.int p1), .val (.int p2), .val (.int p3), .val (.int p4), .val (.int p5), .val (.int (1 : Int32)), .val (.int ca), .val (.int cb), .val (.int cc), .val (.int cd), .val (.ref b15), .val (.ref b16), .val (.long (0 : Int64)), .second, .unset] [(.long (0 : Int64))]))
    refine OwnR.of (fun _ hr => XS.iload X17.here hx rfl (hb hby at_61) rfl hr) ?_
    show OwnR _ _ _ _ _ _ _ (T17.setTop (mkF m 63 #[.val (.int p1), .val (.int p2), .val (.int p3), .val (.int p4), .val (.int p5), .val (.int (1 : Int32)), .val (.int ca), .val (.int cb), .val (.int cc), .val (.int cd), .val (.ref b15), .val (.ref b16), .val (.long (0 : Int64)), .second, .unset] [(.int ca), (.long (0 : Int64))]))
    refine OwnR.of (fun _ hr => XS.i2l X17.here hx rfl (hb hby at_63) rfl hr) ?_
    show OwnR _ _ _ _ _ _ _ (T17.setTop (mkF m 64 #[.val (.int p1), .val (.int p2), .val (.int p3), .val (.int p4), .val (.int p5), .val (.int (1 : Int32)), .val (.int ca), .val (.int cb), .val (.int cc), .val (.int cd), .val (.ref b15), .val (.ref b16), .val (.long (0 : Int64)), .second, .unset] [(.long (ca.toInt64)), (.long (0 : Int64))]))
    refine OwnR.of (fun _ hr => XS.ladd X17.here hx rfl (hb hby at_64) rfl hr) ?_
    show OwnR _ _ _ _ _ _ _ (T17.setTop (mkF m 65 #[.val (.int p1), .val (.int p2), .val (.int p3), .val (.int p4), .val (.int p5), .val (.int (1 : Int32)), .val (.int ca), .val (.int cb), .val (.int cc), .val (.int cd), .val (.ref b15), .val (.ref b16), .val (.long (0 : Int64)), .second, .unset] [(.long ((0 : Int64) + (ca.toInt64)))]))
    refine OwnR.of (fun _ hr => XS.lstore X17.here hx rfl (hb hby at_65) rfl (l' := #[.val (.int p1), .val (.int p2), .val (.int p3), .val (.int p4), .val (.int p5), .val (.int (1 : Int32)), .val (.int ca), .val (.int cb), .val (.int cc), .val (.int cd), .val (.ref b15), .val (.ref b16), .val (.long ((0 : Int64) + (ca.toInt64))), .second, .unset]) rfl hr) ?_
    show OwnR _ _ _ _ _ _ _ (T17.setTop (mkF m 67 #[.val (.int p1), .val (.int p2), .val (.int p3), .val (.int p4), .val (.int p5), .val (.int (1 : Int32)), .val (.int ca), .val (.int cb), .val (.int cc), .val (.int cd), .val (.ref b15), .val (.ref b16), .val (.long ((0 : Int64) + (ca.toInt64))), .second, .unset] []))
    refine OwnR.of (fun _ hr => XS.iload X17.here hx rfl (hb hby at_67) rfl hr) ?_
    show OwnR _ _ _ _ _ _ _ (T17.setTop (mkF m 69 #[.val (.int p1), .val (.int p2), .val (.int p3), .val (.int p4), .val (.int p5), .val (.int (1 : Int32)), .val (.int ca), .val (.int cb), .val (.int cc), .val (.int cd), .val (.ref b15), .val (.ref b16), .val (.long ((0 : Int64) + (ca.toInt64))), .second, .unset] [(.int (1 : Int32))]))
    refine OwnR.of (fun _ hr => XS.iconst X17.here hx rfl (hb hby at_69) hr) ?_
    show OwnR _ _ _ _ _ _ _ (T17.setTop (mkF m 70 #[.val (.int p1), .val (.int p2), .val (.int p3), .val (.int p4), .val (.int p5), .val (.int (1 : Int32)), .val (.int ca), .val (.int cb), .val (.int cc), .val (.int cd), .val (.ref b15), .val (.ref b16), .val (.long ((0 : Int64) + (ca.toInt64))), .second, .unset] [(.int (1 : Int32)), (.int (1 : Int32))]))
    refine OwnR.of (fun _ hr => XS.icmpYes X17.here hx rfl (pc0 := 70) (pc' := 87) rfl (hb hby at_70) rfl (flt (by decide : ¬ ((1 : Int32) < (1 : Int32)))).2.2.2 (by decide) (by decide) hr) ?_
    show OwnR _ _ _ _ _ _ _ (T17.setTop (mkF m 87 #[.val (.int p1), .val (.int p2), .val (.int p3), .val (.int p4), .val (.int p5), .val (.int (1 : Int32)), .val (.int ca), .val (.int cb), .val (.int cc), .val (.int cd), .val (.ref b15), .val (.ref b16), .val (.long ((0 : Int64) + (ca.toInt64))), .second, .unset] []))
    refine OwnR.of (fun _ hr => XS.iload X17.here hx rfl (hb hby at_87) rfl hr) ?_
    show OwnR _ _ _ _ _ _ _ (T17.setTop (mkF m 89 #[.val (.int p1), .val (.int p2), .val (.int p3), .val (.int p4), .val (.int p5), .val (.int (1 : Int32)), .val (.int ca), .val (.int cb), .val (.int cc), .val (.int cd), .val (.ref b15), .val (.ref b16), .val (.long ((0 : Int64) + (ca.toInt64))), .second, .unset] [(.int (1 : Int32))]))
    refine OwnR.of (fun _ hr => XS.iconst X17.here hx rfl (hb hby at_89) hr) ?_
    show OwnR _ _ _ _ _ _ _ (T17.setTop (mkF m 90 #[.val (.int p1), .val (.int p2), .val (.int p3), .val (.int p4), .val (.int p5), .val (.int (1 : Int32)), .val (.int ca), .val (.int cb), .val (.int cc), .val (.int cd), .val (.ref b15), .val (.ref b16), .val (.long ((0 : Int64) + (ca.toInt64))), .second, .unset] [(.int (2 : Int32)), (.int (1 : Int32))]))
    refine OwnR.of (fun _ hr => XS.icmpYes X17.here hx rfl (pc0 := 90) (pc' := 107) rfl (hb hby at_90) rfl (flt (by decide : ¬ ((2 : Int32) < (1 : Int32)))).2.2.2 (by decide) (by decide) hr) ?_
    show OwnR _ _ _ _ _ _ _ (T17.setTop (mkF m 107 #[.val (.int p1), .val (.int p2), .val (.int p3), .val (.int p4), .val (.int p5), .val (.int (1 : Int32)), .val (.int ca), .val (.int cb), .val (.int cc), .val (.int cd), .val (.ref b15), .val (.ref b16), .val (.long ((0 : Int64) + (ca.toInt64))), .second, .unset] []))
    refine OwnR.of (fun _ hr => XS.iload X17.here hx rfl (hb hby at_107) rfl hr) ?_
    show OwnR _ _ _ _ _ _ _ (T17.setTop (mkF m 109 #[.val (.int p1), .val (.int p2), .val (.int p3), .val (.int p4), .val (.int p5), .val (.int (1 : Int32)), .val (.int ca), .val (.int cb), .val (.int cc), .val (.int cd), .val (.ref b15), .val (.ref b16), .val (.long ((0 : Int64) + (ca.toInt64))), .second, .unset] [(.int (1 : Int32))]))
    refine OwnR.of (fun _ hr => XS.iconst X17.here hx rfl (hb hby at_109) hr) ?_
    show OwnR _ _ _ _ _ _ _ (T17.setTop (mkF m 110 #[.val (.int p1), .val (.int p2), .val (.int p3), .val (.int p4), .val (.int p5), .val (.int (1 : Int32)), .val (.int ca), .val (.int cb), .val (.int cc), .val (.int cd), .val (.ref b15), .val (.ref b16), .val (.long ((0 : Int64) + (ca.toInt64))), .second, .unset] [(.int (3 : Int32)), (.int (1 : Int32))]))
    refine OwnR.of (fun _ hr => XS.icmpYes X17.here hx rfl (pc0 := 110) (pc' := 127) rfl (hb hby at_110) rfl (flt (by decide : ¬ ((3 : Int32) < (1 : Int32)))).2.2.2 (by decide) (by decide) hr) ?_
    show OwnR _ _ _ _ _ _ _ (T17.setTop (mkF m 127 #[.val (.int p1), .val (.int p2), .val (.int p3), .val (.int p4), .val (.int p5), .val (.int (1 : Int32)), .val (.int ca), .val (.int cb), .val (.int cc), .val (.int cd), .val (.ref b15), .val (.ref b16), .val (.long ((0 : Int64) + (ca.toInt64))), .second, .unset] []))
    obtain ⟨T18, h18, X18, e18, E18, A18, D18, -, st18⟩ := newO X17 hx hZ hown (hw _ (List.mem_of_getElem? (i := 11) rfl)) (hw _ (List.mem_of_getElem? (i := 12) rfl)) (hw _ (List.mem_of_getElem? (i := 13) rfl)) e17 (g := (mkF m 127 #[.val (.int p1), .val (.int p2), .val (.int p3), .val (.int p4), .val (.int p5), .val (.int (1 : Int32)), .val (.int ca), .val (.int cb), .val (.int cc), .val (.int cd), .val (.ref b15), .val (.ref b16), .val (.long ((0 : Int64) + (ca.toInt64))), .second, .unset] [])) rfl (hb hby at_127) (by decide) (by decide)
    obtain ⟨b18, g18⟩ : ∃ z, z = h17.size := ⟨_, rfl⟩
    rw [← g18] at A18 D18 st18
    refine OwnR.of (st18) ?_
    have gn_b18 : n0 ≤ b18 := Nat.le_trans (Nat.le_trans Z0 K17.1) (Nat.le_of_eq g18.symm)
    have sz_b18 : h0.size ≤ b18 := Nat.le_trans K17.1 (Nat.le_of_eq g18.symm)
    have K18 : Keep h0 h18 [] := Keep.ext K17 E18
    have F_branches_b18 : Fld Z h18 b18 "com/example/ramification/ramification/model/StrahlerOrders" "branches" "[I" .null := D18 (Or.inr (hw _ (List.mem_of_getElem? (i := 30) rfl))) (ty := (.array .int)) (by decide)
    have F_lengths_b18 : Fld Z h18 b18 "com/example/ramification/ramification/model/StrahlerOrders" "lengths" "[D" .null := D18 (Or.inr (hw _ (List.mem_of_getElem? (i := 38) rfl))) (ty := (.array .double)) (by decide)
    have F_unit_b18 : Fld Z h18 b18 "com/example/ramification/ramification/model/StrahlerOrders" "unit" "Ljava/util/Optional;" .null := D18 (Or.inr (hw _ (List.mem_of_getElem? (i := 40) rfl))) (ty := (.object "java/util/Optional")) (by decide)
    show OwnR _ _ _ _ _ _ _ (T18.setTop (mkF m 130 #[.val (.int p1), .val (.int p2), .val (.int p3), .val (.int p4), .val (.int p5), .val (.int (1 : Int32)), .val (.int ca), .val (.int cb), .val (.int cc), .val (.int cd), .val (.ref b15), .val (.ref b16), .val (.long ((0 : Int64) + (ca.toInt64))), .second, .unset] [(.ref b18)]))
    refine OwnR.of (fun _ hr => XS.dup X18.here hx rfl (hb hby at_130) rfl rfl hr) ?_
    show OwnR _ _ _ _ _ _ _ (T18.setTop (mkF m 131 #[.val (.int p1), .val (.int p2), .val (.int p3), .val (.int p4), .val (.int p5), .val (.int (1 : Int32)), .val (.int ca), .val (.int cb), .val (.int cc), .val (.int cd), .val (.ref b15), .val (.ref b16), .val (.long ((0 : Int64) + (ca.toInt64))), .second, .unset] [(.ref b18), (.ref b18)]))
    refine OwnR.of (fun _ hr => XS.aload X18.here hx rfl (hb hby at_131) rfl rfl hr) ?_
    show OwnR _ _ _ _ _ _ _ (T18.setTop (mkF m 133 #[.val (.int p1), .val (.int p2), .val (.int p3), .val (.int p4), .val (.int p5), .val (.int (1 : Int32)), .val (.int ca), .val (.int cb), .val (.int cc), .val (.int cd), .val (.ref b15), .val (.ref b16), .val (.long ((0 : Int64) + (ca.toInt64))), .second, .unset] [(.ref b15), (.ref b18), (.ref b18)]))
    refine OwnR.of (fun _ hr => XS.aload X18.here hx rfl (hb hby at_133) rfl rfl hr) ?_
    show OwnR _ _ _ _ _ _ _ (T18.setTop (mkF m 135 #[.val (.int p1), .val (.int p2), .val (.int p3), .val (.int p4), .val (.int p5), .val (.int (1 : Int32)), .val (.int ca), .val (.int cb), .val (.int cc), .val (.int cd), .val (.ref b15), .val (.ref b16), .val (.long ((0 : Int64) + (ca.toInt64))), .second, .unset] [(.ref b16), (.ref b15), (.ref b18), (.ref b18)]))
    refine OwnR.of (fun _ hr => XS.aconstNull X18.here hx rfl (hb hby at_135) hr) ?_
    show OwnR _ _ _ _ _ _ _ (T18.setTop (mkF m 136 #[.val (.int p1), .val (.int p2), .val (.int p3), .val (.int p4), .val (.int p5), .val (.int (1 : Int32)), .val (.int ca), .val (.int cb), .val (.int cc), .val (.int cd), .val (.ref b15), .val (.ref b16), .val (.long ((0 : Int64) + (ca.toInt64))), .second, .unset] [.null, (.ref b16), (.ref b15), (.ref b18), (.ref b18)]))
    obtain ⟨_, _, ⟨T19, L19, kc19, ns19⟩, -, X19, ⟨Lc19, hQ19, l19, y19, z19⟩, st19⟩ := X18.specialBack hx (y := (⟨"com/example/ramification/ramification/model/StrahlerOrders", "<init>", "([I[DLjava/util/Optional;)V"⟩ : MethodName)) rfl hown (mvT hZ (hw _ (List.mem_of_getElem? (i := 14) rfl))) (mvT hZ (hw _ (List.mem_of_getElem? (i := 15) rfl))) (mvT hZ (hw _ (List.mem_of_getElem? (i := 16) rfl))) (by decide) (backOf (W := 1) (rm3_1 l Z a0 hw [] b18 b15 b16 k15 k16 ca h18 n0 (Nat.le_trans Z0 K18.1) A18 F_branches_b18 F_lengths_b18 F_unit_b18 (Arv.ext V17 E18) (Arv.ext (Arv.other V16 W17 (Ne.symm (Nat.ne_of_lt (Nat.lt_of_lt_of_le AE15.lt (Nat.le_of_eq g16.symm))))) E18) (Exa.ext E18 (Exa.wr W17 (Exa.ext E16 AE15))) (Exa.ext E18 (Exa.wr W17 AE16)) gn_b18 (Ne.symm (Nat.ne_of_lt (Nat.lt_of_lt_of_le (Exa.wr W17 (Exa.ext E16 AE15)).lt (Nat.le_of_eq g18.symm)))) (Ne.symm (Nat.ne_of_lt (Nat.lt_of_lt_of_le (Exa.wr W17 AE16).lt (Nat.le_of_eq g18.symm)))) hca1) hZ (hw _ (List.mem_of_getElem? (i := 16) rfl)) (hw _ (List.mem_of_getElem? (i := 13) rfl)) (by decide) (by decide)) (g := (mkF m 136 #[.val (.int p1), .val (.int p2), .val (.int p3), .val (.int p4), .val (.int p5), .val (.int (1 : Int32)), .val (.int ca), .val (.int cb), .val (.int cc), .val (.int cd), .val (.ref b15), .val (.ref b16), .val (.long ((0 : Int64) + (ca.toInt64))), .second, .unset] [.null, (.ref b16), (.ref b15), (.ref b18), (.ref b18)])) rfl (by rw [hml]; rfl) (Steps.refl _) (a := b18) (argsL := [(.ref b15), (.ref b16), .null]) (rest := [(.ref b18)]) (lenOf pd___I_DLjava_util_Optional__V rfl) rfl (by show 2 * 0 + _ ≤ _; exact Nat.le_of_eq rfl) (hb hby at_136) (fun _ _ => ⟨rfl, e18, (by decide : 3 + 2 ≤ _), (by decide : 5 + 2 ≤ _)⟩)
    dsimp only [Pt.U, Pt.locs, Pt.cells, Pt.slots] at X19 l19 y19 z19 st19 hQ19
    subst l19 y19 z19
    obtain ⟨bI_19, rfl, N19q, P19_0, P19_1, P19_2, P19_3⟩ := hQ19
    have K19 : Keep h0 T19.heap [] := Keep.trans K18 P19_0 (allS (Or.inr sz_b18) all0)
    have N19 := Fr.app N17 N19q
    refine OwnR.of (fun _ hr => st19.trans hr) ?_
    show OwnR _ _ _ _ _ _ _ (T19.setTop (mkF m 139 #[.val (.int p1), .val (.int p2), .val (.int p3), .val (.int p4), .val (.int p5), .val (.int (1 : Int32)), .val (.int ca), .val (.int cb), .val (.int cc), .val (.int cd), .val (.ref b15), .val (.ref b16), .val (.long ((0 : Int64) + (ca.toInt64))), .second, .unset] [(.ref b18)]))
    refine OwnR.of (fun _ hr => XS.astore X19.here hx rfl (hb hby at_139) rfl rfl (l' := #[.val (.int p1), .val (.int p2), .val (.int p3), .val (.int p4), .val (.int p5), .val (.int (1 : Int32)), .val (.int ca), .val (.int cb), .val (.int cc), .val (.int cd), .val (.ref b15), .val (.ref b16), .val (.long ((0 : Int64) + (ca.toInt64))), .second, .val (.ref b18)]) rfl hr) ?_
    show OwnR _ _ _ _ _ _ _ (T19.setTop (mkF m 141 #[.val (.int p1), .val (.int p2), .val (.int p3), .val (.int p4), .val (.int p5), .val (.int (1 : Int32)), .val (.int ca), .val (.int cb), .val (.int cc), .val (.int cd), .val (.ref b15), .val (.ref b16), .val (.long ((0 : Int64) + (ca.toInt64))), .second, .val (.ref b18)] []))
    refine OwnR.of (fun _ hr => XS.aload X19.here hx rfl (hb hby at_141) rfl rfl hr) ?_
    show OwnR _ _ _ _ _ _ _ (T19.setTop (mkF m 143 #[.val (.int p1), .val (.int p2), .val (.int p3), .val (.int p4), .val (.int p5), .val (.int (1 : Int32)), .val (.int ca), .val (.int cb), .val (.int cc), .val (.int cd), .val (.ref b15), .val (.ref b16), .val (.long ((0 : Int64) + (ca.toInt64))), .second, .val (.ref b18)] [(.ref b18)]))
    obtain ⟨cq20, kq20, q20a, q20b, q20c⟩ := isOf hZ rfl P19_1
    obtain ⟨_, _, ⟨T20, L20, kc20, ns20⟩, -, X20, ⟨Lc20, hQ20, l20, y20, z20⟩, st20⟩ := X19.virtualBack hx (y := (⟨"com/example/ramification/ramification/model/StrahlerOrders", "getTotalBranches", "()J"⟩ : MethodName)) (z := (⟨"com/example/ramification/ramification/model/StrahlerOrders", "getTotalBranches", "()J"⟩ : MethodName)) hown (mvT hZ (hw _ (List.mem_of_getElem? (i := 41) rfl))) (mvT hZ (hw _ (List.mem_of_getElem? (i := 42) rfl))) (notFace_of_selects (args := #[]) (mvT hZ (hw _ (List.mem_of_getElem? (i := 44) rfl)))) (mvT hZ (hw _ (List.mem_of_getElem? (i := 44) rfl))) (mvT hZ (hw _ (List.mem_of_getElem? (i := 43) rfl))) (by decide) (backOf (W := 0) (rm5_1 l Z a0 hw [] b18 bI_19 k15 ca (T19.heap) n0 (Nat.le_trans Z0 K19.1) P19_1 P19_2 P19_3) hZ (hw _ (List.mem_of_getElem? (i := 45) rfl)) (hw _ (List.mem_of_getElem? (i := 13) rfl)) (by decide) (by decide)) q20a q20c (g := (mkF m 143 #[.val (.int p1), .val (.int p2), .val (.int p3), .val (.int p4), .val (.int p5), .val (.int (1 : Int32)), .val (.int ca), .val (.int cb), .val (.int cc), .val (.int cd), .val (.ref b15), .val (.ref b16), .val (.long ((0 : Int64) + (ca.toInt64))), .second, .val (.ref b18)] [(.ref b18)])) rfl (by rw [hml]; rfl) (Steps.refl _) (argsL := []) (rest := []) (lenOf pd___J rfl) rfl (by show 2 * 0 + _ ≤ _; exact Nat.le_of_eq rfl) (hb hby at_143) (fun _ _ => ⟨rfl, rfl, (by decide : 5 + 0 ≤ _), (by decide : 7 + 0 ≤ _)⟩)
    dsimp only [Pt.U, Pt.locs, Pt.cells, Pt.slots] at X20 l20 y20 z20 st20 hQ20
    subst l20 y20 z20
    obtain ⟨rfl, N20q, e20⟩ := hQ20
    have N20 := Fr.app N19 N20q
    refine OwnR.of (fun _ hr => st20.trans hr) ?_
    show OwnR _ _ _ _ _ _ _ (T20.setTop (mkF m 146 #[.val (.int p1), .val (.int p2), .val (.int p3), .val (.int p4), .val (.int p5), .val (.int (1 : Int32)), .val (.int ca), .val (.int cb), .val (.int cc), .val (.int cd), .val (.ref b15), .val (.ref b16), .val (.long ((0 : Int64) + (ca.toInt64))), .second, .val (.ref b18)] [(.long ((0 : Int64) + (ca.toInt64)))]))
    refine OwnR.of (fun _ hr => XS.lload X20.here hx rfl (hb hby at_146) rfl hr) ?_
    show OwnR _ _ _ _ _ _ _ (T20.setTop (mkF m 148 #[.val (.int p1), .val (.int p2), .val (.int p3), .val (.int p4), .val (.int p5), .val (.int (1 : Int32)), .val (.int ca), .val (.int cb), .val (.int cc), .val (.int cd), .val (.ref b15), .val (.ref b16), .val (.long ((0 : Int64) + (ca.toInt64))), .second, .val (.ref b18)] [(.long ((0 : Int64) + (ca.toInt64))), (.long ((0 : Int64) + (ca.toInt64)))]))
    refine OwnR.of (fun _ hr => XS.lcmp X20.here hx rfl (hb hby at_148) rfl hr) ?_
    show OwnR _ _ _ _ _ _ _ (T20.setTop (mkF m 149 #[.val (.int p1), .val (.int p2), .val (.int p3), .val (.int p4), .val (.int p5), .val (.int (1 : Int32)), .val (.int ca), .val (.int cb), .val (.int cc), .val (.int cd), .val (.ref b15), .val (.ref b16), .val (.long ((0 : Int64) + (ca.toInt64))), .second, .val (.ref b18)] [(.int (lcmpW ((0 : Int64) + (ca.toInt64)) ((0 : Int64) + (ca.toInt64))))]))
    refine OwnR.of (fun _ hr => XS.ifNo X20.here hx rfl (hb hby at_149) rfl ((if0 _ _).trans (teq ((own_lceq _ _).mpr rfl)).2) hr) ?_
    show OwnR _ _ _ _ _ _ _ (T20.setTop (mkF m 152 #[.val (.int p1), .val (.int p2), .val (.int p3), .val (.int p4), .val (.int p5), .val (.int (1 : Int32)), .val (.int ca), .val (.int cb), .val (.int cc), .val (.int cd), .val (.ref b15), .val (.ref b16), .val (.long ((0 : Int64) + (ca.toInt64))), .second, .val (.ref b18)] []))
    refine OwnR.of (fun _ hr => XS.iconst X20.here hx rfl (hb hby at_152) hr) ?_
    show OwnR _ _ _ _ _ _ _ (T20.setTop (mkF m 153 #[.val (.int p1), .val (.int p2), .val (.int p3), .val (.int p4), .val (.int p5), .val (.int (1 : Int32)), .val (.int ca), .val (.int cb), .val (.int cc), .val (.int cd), .val (.ref b15), .val (.ref b16), .val (.long ((0 : Int64) + (ca.toInt64))), .second, .val (.ref b18)] [(.int (1 : Int32))]))
    refine OwnR.of (fun _ hr => XS.goto X20.here hx rfl (pc0 := 153) (pc' := 157) rfl (hb hby at_153) (by decide) (by decide) hr) ?_
    show OwnR _ _ _ _ _ _ _ (T20.setTop (mkF m 157 #[.val (.int p1), .val (.int p2), .val (.int p3), .val (.int p4), .val (.int p5), .val (.int (1 : Int32)), .val (.int ca), .val (.int cb), .val (.int cc), .val (.int cd), .val (.ref b15), .val (.ref b16), .val (.long ((0 : Int64) + (ca.toInt64))), .second, .val (.ref b18)] [(.int (1 : Int32))]))
    refine own_leafN X20 hx hlk (t := .boolean) Bd.returns (by simp) (hb hby at_157) (z' := (1 : Int32)) rfl (by decide) (by decide) ?_
    show Q0 Z  h0 n0 _ T20.heap _
    rw [show T20.heap = T19.heap from e20]
    refine ⟨?_, N20⟩
    show (some (.int (1 : Int32)) : Option Value) = some (.int (1 : Int32))
    rfl
  · skip
    show OwnR _ _ _ _ _ _ _ (T9.setTop (mkF m 33 #[.val (.int p1), .val (.int p2), .val (.int p3), .val (.int p4), .val (.int p5), .val (.int (2 : Int32)), .val (.int ca), .val (.int cb), .val (.int cc), .val (.int cd), .unset, .unset, .unset, .unset, .unset] []))
    refine OwnR.of (fun _ hr => XS.iload X9.here hx rfl (hb hby at_33) rfl hr) ?_
    show OwnR _ _ _ _ _ _ _ (T9.setTop (mkF m 35 #[.val (.int p1), .val (.int p2), .val (.int p3), .val (.int p4), .val (.int p5), .val (.int (2 : Int32)), .val (.int ca), .val (.int cb), .val (.int cc), .val (.int cd), .unset, .unset, .unset, .unset, .unset] [(.int (2 : Int32))]))
    obtain ⟨T21, h21, k21, X21, e21, E21, A21, AE21, st21⟩ := newPE X9 hx hZ (hw _ (List.mem_of_getElem? (i := 9) rfl)) e9 (g := (mkF m 35 #[.val (.int p1), .val (.int p2), .val (.int p3), .val (.int p4), .val (.int p5), .val (.int (2 : Int32)), .val (.int ca), .val (.int cb), .val (.int cc), .val (.int cd), .unset, .unset, .unset, .unset, .unset] [(.int (2 : Int32))])) rfl (hb hby at_35) rfl (by decide) (cap := 2) (by decide) (by decide) (by decide) (by decide) (ad := "[I") rfl
    obtain ⟨b21, g21⟩ : ∃ z, z = h0.size := ⟨_, rfl⟩
    rw [← g21] at A21 AE21 st21
    refine OwnR.of (st21) ?_
    have gn_b21 : n0 ≤ b21 := Nat.le_trans (Nat.le_trans Z0 (Keep.refl h0 []).1) (Nat.le_of_eq g21.symm)
    have sz_b21 : h0.size ≤ b21 := Nat.le_trans (Keep.refl h0 []).1 (Nat.le_of_eq g21.symm)
    have K21 : Keep h0 h21 [] := Keep.ext (Keep.refl h0 []) E21
    have V21 : Arv Z h21 b21 k21 .int (2 : Int32) [(.int (0 : Int32)), (.int (0 : Int32))] (.int (0 : Int32)) := (Arv.new A21 (by decide)).pad (pad_rep [] (.int (0 : Int32)) 2)
    show OwnR _ _ _ _ _ _ _ (T21.setTop (mkF m 37 #[.val (.int p1), .val (.int p2), .val (.int p3), .val (.int p4), .val (.int p5), .val (.int (2 : Int32)), .val (.int ca), .val (.int cb), .val (.int cc), .val (.int cd), .unset, .unset, .unset, .unset, .unset] [(.ref b21)]))
    refine OwnR.of (fun _ hr => XS.astore X21.here hx rfl (hb hby at_37) rfl rfl (l' := #[.val (.int p1), .val (.int p2), .val (.int p3), .val (.int p4), .val (.int p5), .val (.int (2 : Int32)), .val (.int ca), .val (.int cb), .val (.int cc), .val (.int cd), .val (.ref b21), .unset, .unset, .unset, .unset]) rfl hr) ?_
    show OwnR _ _ _ _ _ _ _ (T21.setTop (mkF m 39 #[.val (.int p1), .val (.int p2), .val (.int p3), .val (.int p4), .val (.int p5), .val (.int (2 : Int32)), .val (.int ca), .val (.int cb), .val (.int cc), .val (.int cd), .val (.ref b21), .unset, .unset, .unset, .unset] []))
    refine OwnR.of (fun _ hr => XS.iload X21.here hx rfl (hb hby at_39) rfl hr) ?_
    show OwnR _ _ _ _ _ _ _ (T21.setTop (mkF m 41 #[.val (.int p1), .val (.int p2), .val (.int p3), .val (.int p4), .val (.int p5), .val (.int (2 : Int32)), .val (.int ca), .val (.int cb), .val (.int cc), .val (.int cd), .val (.ref b21), .unset, .unset, .unset, .unset] [(.int (2 : Int32))]))
    obtain ⟨T22, h22, k22, X22, e22, E22, A22, AE22, st22⟩ := newPE X21 hx hZ (hw _ (List.mem_of_getElem? (i := 10) rfl)) e21 (g := (mkF m 41 #[.val (.int p1), .val (.int p2), .val (.int p3), .val (.int p4), .val (.int p5), .val (.int (2 : Int32)), .val (.int ca), .val (.int cb), .val (.int cc), .val (.int cd), .val (.ref b21), .unset, .unset, .unset, .unset] [(.int (2 : Int32))])) rfl (hb hby at_41) rfl (by decide) (cap := 2) (by decide) (by decide) (by decide) (by decide) (ad := "[D") rfl
    obtain ⟨b22, g22⟩ : ∃ z, z = h21.size := ⟨_, rfl⟩
    rw [← g22] at A22 AE22 st22
    refine OwnR.of (st22) ?_
    have gn_b22 : n0 ≤ b22 := Nat.le_trans (Nat.le_trans Z0 K21.1) (Nat.le_of_eq g22.symm)
    have sz_b22 : h0.size ≤ b22 := Nat.le_trans K21.1 (Nat.le_of_eq g22.symm)
    have K22 : Keep h0 h22 [] := Keep.ext K21 E22
    have V22 : Arv Z h22 b22 k22 .double (2 : Int32) [(defaultValue .double), (defaultValue .double)] (defaultValue .double) := (Arv.new A22 (by decide)).pad (pad_rep [] (defaultValue .double) 2)
    show OwnR _ _ _ _ _ _ _ (T22.setTop (mkF m 43 #[.val (.int p1), .val (.int p2), .val (.int p3), .val (.int p4), .val (.int p5), .val (.int (2 : Int32)), .val (.int ca), .val (.int cb), .val (.int cc), .val (.int cd), .val (.ref b21), .unset, .unset, .unset, .unset] [(.ref b22)]))
    refine OwnR.of (fun _ hr => XS.astore X22.here hx rfl (hb hby at_43) rfl rfl (l' := #[.val (.int p1), .val (.int p2), .val (.int p3), .val (.int p4), .val (.int p5), .val (.int (2 : Int32)), .val (.int ca), .val (.int cb), .val (.int cc), .val (.int cd), .val (.ref b21), .val (.ref b22), .unset, .unset, .unset]) rfl hr) ?_
    show OwnR _ _ _ _ _ _ _ (T22.setTop (mkF m 45 #[.val (.int p1), .val (.int p2), .val (.int p3), .val (.int p4), .val (.int p5), .val (.int (2 : Int32)), .val (.int ca), .val (.int cb), .val (.int cc), .val (.int cd), .val (.ref b21), .val (.ref b22), .unset, .unset, .unset] []))
    refine OwnR.of (fun _ hr => XS.lconst X22.here hx rfl (hb hby at_45) hr) ?_
    show OwnR _ _ _ _ _ _ _ (T22.setTop (mkF m 46 #[.val (.int p1), .val (.int p2), .val (.int p3), .val (.int p4), .val (.int p5), .val (.int (2 : Int32)), .val (.int ca), .val (.int cb), .val (.int cc), .val (.int cd), .val (.ref b21), .val (.ref b22), .unset, .unset, .unset] [(.long (0 : Int64))]))
    refine OwnR.of (fun _ hr => XS.lstore X22.here hx rfl (hb hby at_46) rfl (l' := #[.val (.int p1), .val (.int p2), .val (.int p3), .val (.int p4), .val (.int p5), .val (.int (2 : Int32)), .val (.int ca), .val (.int cb), .val (.int cc), .val (.int cd), .val (.ref b21), .val (.ref b22), .val (.long (0 : Int64)), .second, .unset]) rfl hr) ?_
    show OwnR _ _ _ _ _ _ _ (T22.setTop (mkF m 48 #[.val (.int p1), .val (.int p2), .val (.int p3), .val (.int p4), .val (.int p5), .val (.int (2 : Int32)), .val (.int ca), .val (.int cb), .val (.int cc), .val (.int cd), .val (.ref b21), .val (.ref b22), .val (.long (0 : Int64)), .second, .unset] []))
    refine OwnR.of (fun _ hr => XS.iload X22.here hx rfl (hb hby at_48) rfl hr) ?_
    show OwnR _ _ _ _ _ _ _ (T22.setTop (mkF m 50 #[.val (.int p1), .val (.int p2), .val (.int p3), .val (.int p4), .val (.int p5), .val (.int (2 : Int32)), .val (.int ca), .val (.int cb), .val (.int cc), .val (.int cd), .val (.ref b21), .val (.ref b22), .val (.long (0 : Int64)), .second, .unset] [(.int (2 : Int32))]))
    refine OwnR.of (fun _ hr => XS.ifNo X22.here hx rfl (hb hby at_50) rfl ((if0 _ _).trans (tlt (by decide : (0 : Int32) < (2 : Int32))).2.2.2) hr) ?_
    show OwnR _ _ _ _ _ _ _ (T22.setTop (mkF m 53 #[.val (.int p1), .val (.int p2), .val (.int p3), .val (.int p4), .val (.int p5), .val (.int (2 : Int32)), .val (.int ca), .val (.int cb), .val (.int cc), .val (.int cd), .val (.ref b21), .val (.ref b22), .val (.long (0 : Int64)), .second, .unset] []))
    refine OwnR.of (fun _ hr => XS.aload X22.here hx rfl (hb hby at_53) rfl rfl hr) ?_
    show OwnR _ _ _ _ _ _ _ (T22.setTop (mkF m 55 #[.val (.int p1), .val (.int p2), .val (.int p3), .val (.int p4), .val (.int p5), .val (.int (2 : Int32)), .val (.int ca), .val (.int cb), .val (.int cc), .val (.int cd), .val (.ref b21), .val (.ref b22), .val (.long (0 : Int64)), .second, .unset] [(.ref b21)]))
    refine OwnR.of (fun _ hr => XS.iconst X22.here hx rfl (hb hby at_55) hr) ?_
    show OwnR _ _ _ _ _ _ _ (T22.setTop (mkF m 56 #[.val (.int p1), .val (.int p2), .val (.int p3), .val (.int p4), .val (.int p5), .val (.int (2 : Int32)), .val (.int ca), .val (.int cb), .val (.int cc), .val (.int cd), .val (.ref b21), .val (.ref b22), .val (.long (0 : Int64)), .second, .unset] [(.int (0 : Int32)), (.ref b21)]))
    refine OwnR.of (fun _ hr => XS.iload X22.here hx rfl (hb hby at_56) rfl hr) ?_
    show OwnR _ _ _ _ _ _ _ (T22.setTop (mkF m 58 #[.val (.int p1), .val (.int p2), .val (.int p3), .val (.int p4), .val (.int p5), .val (.int (2 : Int32)), .val (.int ca), .val (.int cb), .val (.int cc), .val (.int cd), .val (.ref b21), .val (.ref b22), .val (.long (0 : Int64)), .second, .unset] [(.int ca), (.int (0 : Int32)), (.ref b21)]))
    obtain ⟨cl23, Ar23, q23, S23, N23q, H23, G23⟩ := id (Arv.ext V21 E22)
    have hin23 : ¬ ((0 : Int32) < 0 ∨ cl23.slots.size ≤ ((0 : Int32)).toNatClampNeg) := (inb_of S23 ⟨by decide, by decide⟩)
    obtain ⟨T23, h23, X23, e23, W23, st23⟩ := stI X22 hx hZ e22 Ar23 (j := (0 : Int32)) hin23 (g := (mkF m 58 #[.val (.int p1), .val (.int p2), .val (.int p3), .val (.int p4), .val (.int p5), .val (.int (2 : Int32)), .val (.int ca), .val (.int cb), .val (.int cc), .val (.int cd), .val (.ref b21), .val (.ref b22), .val (.long (0 : Int64)), .second, .unset] [(.int ca), (.int (0 : Int32)), (.ref b21)])) rfl rfl (hb hby at_58)
    refine OwnR.of (st23) ?_
    have V23 := Arv.set Ar23 q23 S23 N23q H23 G23 rfl W23 0 rfl (Nat.le_of_ble_eq_true rfl)
    have V23 : Arv Z h23 b21 k21 .int (2 : Int32) [(.int ca), (.int (0 : Int32))] (.int (0 : Int32)) := V23
    have K23 : Keep h0 h23 [] := Keep.wr K22 W23 (Or.inr sz_b21)
    have N23 := Fr.snoc X23 N9 gn_b21
    show OwnR _ _ _ _ _ _ _ (T23.setTop (mkF m 59 #[.val (.int p1), .val (.int p2), .val (.int p3), .val (.int p4), .val (.int p5), .val (.int (2 : Int32)), .val (.int ca), .val (.int cb), .val (.int cc), .val (.int cd), .val (.ref b21), .val (.ref b22), .val (.long (0 : Int64)), .second, .unset] []))
    refine OwnR.of (fun _ hr => XS.lload X23.here hx rfl (hb hby at_59) rfl hr) ?_
    show OwnR _ _ _ _ _ _ _ (T23.setTop (mkF m 61 #[.val (.int p1), .val (.int p2), .val (.int p3), .val (.int p4), .val (.int p5), .val (.int (2 : Int32)), .val (.int ca), .val (.int cb), .val (.int cc), .val (.int cd), .val (.ref b21), .val (.ref b22), .val (.long (0 : Int64)), .second, .unset] [(.long (0 : Int64))]))
    refine OwnR.of (fun _ hr => XS.iload X23.here hx rfl (hb hby at_61) rfl hr) ?_
    show OwnR _ _ _ _ _ _ _ (T23.setTop (mkF m 63 #[.val (.int p1), .val (.int p2), .val (.int p3), .val (.int p4), .val (.int p5), .val (.int (2 : Int32)), .val (.int ca), .val (.int cb), .val (.int cc), .val (.int cd), .val (.ref b21), .val (.ref b22), .val (.long (0 : Int64)), .second, .unset] [(.int ca), (.long (0 : Int64))]))
    refine OwnR.of (fun _ hr => XS.i2l X23.here hx rfl (hb hby at_63) rfl hr) ?_
    show OwnR _ _ _ _ _ _ _ (T23.setTop (mkF m 64 #[.val (.int p1), .val (.int p2), .val (.int p3), .val (.int p4), .val (.int p5), .val (.int (2 : Int32)), .val (.int ca), .val (.int cb), .val (.int cc), .val (.int cd), .val (.ref b21), .val (.ref b22), .val (.long (0 : Int64)), .second, .unset] [(.long (ca.toInt64)), (.long (0 : Int64))]))
    refine OwnR.of (fun _ hr => XS.ladd X23.here hx rfl (hb hby at_64) rfl hr) ?_
    show OwnR _ _ _ _ _ _ _ (T23.setTop (mkF m 65 #[.val (.int p1), .val (.int p2), .val (.int p3), .val (.int p4), .val (.int p5), .val (.int (2 : Int32)), .val (.int ca), .val (.int cb), .val (.int cc), .val (.int cd), .val (.ref b21), .val (.ref b22), .val (.long (0 : Int64)), .second, .unset] [(.long ((0 : Int64) + (ca.toInt64)))]))
    refine OwnR.of (fun _ hr => XS.lstore X23.here hx rfl (hb hby at_65) rfl (l' := #[.val (.int p1), .val (.int p2), .val (.int p3), .val (.int p4), .val (.int p5), .val (.int (2 : Int32)), .val (.int ca), .val (.int cb), .val (.int cc), .val (.int cd), .val (.ref b21), .val (.ref b22), .val (.long ((0 : Int64) + (ca.toInt64))), .second, .unset]) rfl hr) ?_
    show OwnR _ _ _ _ _ _ _ (T23.setTop (mkF m 67 #[.val (.int p1), .val (.int p2), .val (.int p3), .val (.int p4), .val (.int p5), .val (.int (2 : Int32)), .val (.int ca), .val (.int cb), .val (.int cc), .val (.int cd), .val (.ref b21), .val (.ref b22), .val (.long ((0 : Int64) + (ca.toInt64))), .second, .unset] []))
    refine OwnR.of (fun _ hr => XS.iload X23.here hx rfl (hb hby at_67) rfl hr) ?_
    show OwnR _ _ _ _ _ _ _ (T23.setTop (mkF m 69 #[.val (.int p1), .val (.int p2), .val (.int p3), .val (.int p4), .val (.int p5), .val (.int (2 : Int32)), .val (.int ca), .val (.int cb), .val (.int cc), .val (.int cd), .val (.ref b21), .val (.ref b22), .val (.long ((0 : Int64) + (ca.toInt64))), .second, .unset] [(.int (2 : Int32))]))
    refine OwnR.of (fun _ hr => XS.iconst X23.here hx rfl (hb hby at_69) hr) ?_
    show OwnR _ _ _ _ _ _ _ (T23.setTop (mkF m 70 #[.val (.int p1), .val (.int p2), .val (.int p3), .val (.int p4), .val (.int p5), .val (.int (2 : Int32)), .val (.int ca), .val (.int cb), .val (.int cc), .val (.int cd), .val (.ref b21), .val (.ref b22), .val (.long ((0 : Int64) + (ca.toInt64))), .second, .unset] [(.int (1 : Int32)), (.int (2 : Int32))]))
    refine OwnR.of (fun _ hr => XS.icmpNo X23.here hx rfl (hb hby at_70) rfl (tlt (by decide : (1 : Int32) < (2 : Int32))).2.2.2 hr) ?_
    show OwnR _ _ _ _ _ _ _ (T23.setTop (mkF m 73 #[.val (.int p1), .val (.int p2), .val (.int p3), .val (.int p4), .val (.int p5), .val (.int (2 : Int32)), .val (.int ca), .val (.int cb), .val (.int cc), .val (.int cd), .val (.ref b21), .val (.ref b22), .val (.long ((0 : Int64) + (ca.toInt64))), .second, .unset] []))
    refine OwnR.of (fun _ hr => XS.aload X23.here hx rfl (hb hby at_73) rfl rfl hr) ?_
    show OwnR _ _ _ _ _ _ _ (T23.setTop (mkF m 75 #[.val (.int p1), .val (.int p2), .val (.int p3), .val (.int p4), .val (.int p5), .val (.int (2 : Int32)), .val (.int ca), .val (.int cb), .val (.int cc), .val (.int cd), .val (.ref b21), .val (.ref b22), .val (.long ((0 : Int64) + (ca.toInt64))), .second, .unset] [(.ref b21)]))
    refine OwnR.of (fun _ hr => XS.iconst X23.here hx rfl (hb hby at_75) hr) ?_
    show OwnR _ _ _ _ _ _ _ (T23.setTop (mkF m 76 #[.val (.int p1), .val (.int p2), .val (.int p3), .val (.int p4), .val (.int p5), .val (.int (2 : Int32)), .val (.int ca), .val (.int cb), .val (.int cc), .val (.int cd), .val (.ref b21), .val (.ref b22), .val (.long ((0 : Int64) + (ca.toInt64))), .second, .unset] [(.int (1 : Int32)), (.ref b21)]))
    refine OwnR.of (fun _ hr => XS.iload X23.here hx rfl (hb hby at_76) rfl hr) ?_
    show OwnR _ _ _ _ _ _ _ (T23.setTop (mkF m 78 #[.val (.int p1), .val (.int p2), .val (.int p3), .val (.int p4), .val (.int p5), .val (.int (2 : Int32)), .val (.int ca), .val (.int cb), .val (.int cc), .val (.int cd), .val (.ref b21), .val (.ref b22), .val (.long ((0 : Int64) + (ca.toInt64))), .second, .unset] [(.int cb), (.int (1 : Int32)), (.ref b21)]))
    obtain ⟨cl24, Ar24, q24, S24, N24q, H24, G24⟩ := id V23
    have hin24 : ¬ ((1 : Int32) < 0 ∨ cl24.slots.size ≤ ((1 : Int32)).toNatClampNeg) := (inb_of S24 ⟨by decide, by decide⟩)
    obtain ⟨T24, h24, X24, e24, W24, st24⟩ := stI X23 hx hZ e23 Ar24 (j := (1 : Int32)) hin24 (g := (mkF m 78 #[.val (.int p1), .val (.int p2), .val (.int p3), .val (.int p4), .val (.int p5), .val (.int (2 : Int32)), .val (.int ca), .val (.int cb), .val (.int cc), .val (.int cd), .val (.ref b21), .val (.ref b22), .val (.long ((0 : Int64) + (ca.toInt64))), .second, .unset] [(.int cb), (.int (1 : Int32)), (.ref b21)])) rfl rfl (hb hby at_78)
    refine OwnR.of (st24) ?_
    have V24 := Arv.set Ar24 q24 S24 N24q H24 G24 rfl W24 1 rfl (Nat.le_of_ble_eq_true rfl)
    have V24 : Arv Z h24 b21 k21 .int (2 : Int32) [(.int ca), (.int cb)] (.int (0 : Int32)) := V24
    have K24 : Keep h0 h24 [] := Keep.wr K23 W24 (Or.inr sz_b21)
    have N24 := Fr.snoc X24 N23 gn_b21
    show OwnR _ _ _ _ _ _ _ (T24.setTop (mkF m 79 #[.val (.int p1), .val (.int p2), .val (.int p3), .val (.int p4), .val (.int p5), .val (.int (2 : Int32)), .val (.int ca), .val (.int cb), .val (.int cc), .val (.int cd), .val (.ref b21), .val (.ref b22), .val (.long ((0 : Int64) + (ca.toInt64))), .second, .unset] []))
    refine OwnR.of (fun _ hr => XS.lload X24.here hx rfl (hb hby at_79) rfl hr) ?_
    show OwnR _ _ _ _ _ _ _ (T24.setTop (mkF m 81 #[.val (.int p1), .val (.int p2), .val (.int p3), .val (.int p4), .val (.int p5), .val (.int (2 : Int32)), .val (.int ca), .val (.int cb), .val (.int cc), .val (.int cd), .val (.ref b21), .val (.ref b22), .val (.long ((0 : Int64) + (ca.toInt64))), .second, .unset] [(.long ((0 : Int64) + (ca.toInt64)))]))
    refine OwnR.of (fun _ hr => XS.iload X24.here hx rfl (hb hby at_81) rfl hr) ?_
    show OwnR _ _ _ _ _ _ _ (T24.setTop (mkF m 83 #[.val (.int p1), .val (.int p2), .val (.int p3), .val (.int p4), .val (.int p5), .val (.int (2 : Int32)), .val (.int ca), .val (.int cb), .val (.int cc), .val (.int cd), .val (.ref b21), .val (.ref b22), .val (.long ((0 : Int64) + (ca.toInt64))), .second, .unset] [(.int cb), (.long ((0 : Int64) + (ca.toInt64)))]))
    refine OwnR.of (fun _ hr => XS.i2l X24.here hx rfl (hb hby at_83) rfl hr) ?_
    show OwnR _ _ _ _ _ _ _ (T24.setTop (mkF m 84 #[.val (.int p1), .val (.int p2), .val (.int p3), .val (.int p4), .val (.int p5), .val (.int (2 : Int32)), .val (.int ca), .val (.int cb), .val (.int cc), .val (.int cd), .val (.ref b21), .val (.ref b22), .val (.long ((0 : Int64) + (ca.toInt64))), .second, .unset] [(.long (cb.toInt64)), (.long ((0 : Int64) + (ca.toInt64)))]))
    refine OwnR.of (fun _ hr => XS.ladd X24.here hx rfl (hb hby at_84) rfl hr) ?_
    show OwnR _ _ _ _ _ _ _ (T24.setTop (mkF m 85 #[.val (.int p1), .val (.int p2), .val (.int p3), .val (.int p4), .val (.int p5), .val (.int (2 : Int32)), .val (.int ca), .val (.int cb), .val (.int cc), .val (.int cd), .val (.ref b21), .val (.ref b22), .val (.long ((0 : Int64) + (ca.toInt64))), .second, .unset] [(.long (((0 : Int64) + (ca.toInt64)) + (cb.toInt64)))]))
    refine OwnR.of (fun _ hr => XS.lstore X24.here hx rfl (hb hby at_85) rfl (l' := #[.val (.int p1), .val (.int p2), .val (.int p3), .val (.int p4), .val (.int p5), .val (.int (2 : Int32)), .val (.int ca), .val (.int cb), .val (.int cc), .val (.int cd), .val (.ref b21), .val (.ref b22), .val (.long (((0 : Int64) + (ca.toInt64)) + (cb.toInt64))), .second, .unset]) rfl hr) ?_
    show OwnR _ _ _ _ _ _ _ (T24.setTop (mkF m 87 #[.val (.int p1), .val (.int p2), .val (.int p3), .val (.int p4), .val (.int p5), .val (.int (2 : Int32)), .val (.int ca), .val (.int cb), .val (.int cc), .val (.int cd), .val (.ref b21), .val (.ref b22), .val (.long (((0 : Int64) + (ca.toInt64)) + (cb.toInt64))), .second, .unset] []))
    refine OwnR.of (fun _ hr => XS.iload X24.here hx rfl (hb hby at_87) rfl hr) ?_
    show OwnR _ _ _ _ _ _ _ (T24.setTop (mkF m 89 #[.val (.int p1), .val (.int p2), .val (.int p3), .val (.int p4), .val (.int p5), .val (.int (2 : Int32)), .val (.int ca), .val (.int cb), .val (.int cc), .val (.int cd), .val (.ref b21), .val (.ref b22), .val (.long (((0 : Int64) + (ca.toInt64)) + (cb.toInt64))), .second, .unset] [(.int (2 : Int32))]))
    refine OwnR.of (fun _ hr => XS.iconst X24.here hx rfl (hb hby at_89) hr) ?_
    show OwnR _ _ _ _ _ _ _ (T24.setTop (mkF m 90 #[.val (.int p1), .val (.int p2), .val (.int p3), .val (.int p4), .val (.int p5), .val (.int (2 : Int32)), .val (.int ca), .val (.int cb), .val (.int cc), .val (.int cd), .val (.ref b21), .val (.ref b22), .val (.long (((0 : Int64) + (ca.toInt64)) + (cb.toInt64))), .second, .unset] [(.int (2 : Int32)), (.int (2 : Int32))]))
    refine OwnR.of (fun _ hr => XS.icmpYes X24.here hx rfl (pc0 := 90) (pc' := 107) rfl (hb hby at_90) rfl (flt (by decide : ¬ ((2 : Int32) < (2 : Int32)))).2.2.2 (by decide) (by decide) hr) ?_
    show OwnR _ _ _ _ _ _ _ (T24.setTop (mkF m 107 #[.val (.int p1), .val (.int p2), .val (.int p3), .val (.int p4), .val (.int p5), .val (.int (2 : Int32)), .val (.int ca), .val (.int cb), .val (.int cc), .val (.int cd), .val (.ref b21), .val (.ref b22), .val (.long (((0 : Int64) + (ca.toInt64)) + (cb.toInt64))), .second, .unset] []))
    refine OwnR.of (fun _ hr => XS.iload X24.here hx rfl (hb hby at_107) rfl hr) ?_
    show OwnR _ _ _ _ _ _ _ (T24.setTop (mkF m 109 #[.val (.int p1), .val (.int p2), .val (.int p3), .val (.int p4), .val (.int p5), .val (.int (2 : Int32)), .val (.int ca), .val (.int cb), .val (.int cc), .val (.int cd), .val (.ref b21), .val (.ref b22), .val (.long (((0 : Int64) + (ca.toInt64)) + (cb.toInt64))), .second, .unset] [(.int (2 : Int32))]))
    refine OwnR.of (fun _ hr => XS.iconst X24.here hx rfl (hb hby at_109) hr) ?_
    show OwnR _ _ _ _ _ _ _ (T24.setTop (mkF m 110 #[.val (.int p1), .val (.int p2), .val (.int p3), .val (.int p4), .val (.int p5), .val (.int (2 : Int32)), .val (.int ca), .val (.int cb), .val (.int cc), .val (.int cd), .val (.ref b21), .val (.ref b22), .val (.long (((0 : Int64) + (ca.toInt64)) + (cb.toInt64))), .second, .unset] [(.int (3 : Int32)), (.int (2 : Int32))]))
    refine OwnR.of (fun _ hr => XS.icmpYes X24.here hx rfl (pc0 := 110) (pc' := 127) rfl (hb hby at_110) rfl (flt (by decide : ¬ ((3 : Int32) < (2 : Int32)))).2.2.2 (by decide) (by decide) hr) ?_
    show OwnR _ _ _ _ _ _ _ (T24.setTop (mkF m 127 #[.val (.int p1), .val (.int p2), .val (.int p3), .val (.int p4), .val (.int p5), .val (.int (2 : Int32)), .val (.int ca), .val (.int cb), .val (.int cc), .val (.int cd), .val (.ref b21), .val (.ref b22), .val (.long (((0 : Int64) + (ca.toInt64)) + (cb.toInt64))), .second, .unset] []))
    obtain ⟨T25, h25, X25, e25, E25, A25, D25, -, st25⟩ := newO X24 hx hZ hown (hw _ (List.mem_of_getElem? (i := 11) rfl)) (hw _ (List.mem_of_getElem? (i := 12) rfl)) (hw _ (List.mem_of_getElem? (i := 13) rfl)) e24 (g := (mkF m 127 #[.val (.int p1), .val (.int p2), .val (.int p3), .val (.int p4), .val (.int p5), .val (.int (2 : Int32)), .val (.int ca), .val (.int cb), .val (.int cc), .val (.int cd), .val (.ref b21), .val (.ref b22), .val (.long (((0 : Int64) + (ca.toInt64)) + (cb.toInt64))), .second, .unset] [])) rfl (hb hby at_127) (by decide) (by decide)
    obtain ⟨b25, g25⟩ : ∃ z, z = h24.size := ⟨_, rfl⟩
    rw [← g25] at A25 D25 st25
    refine OwnR.of (st25) ?_
    have gn_b25 : n0 ≤ b25 := Nat.le_trans (Nat.le_trans Z0 K24.1) (Nat.le_of_eq g25.symm)
    have sz_b25 : h0.size ≤ b25 := Nat.le_trans K24.1 (Nat.le_of_eq g25.symm)
    have K25 : Keep h0 h25 [] := Keep.ext K24 E25
    have F_branches_b25 : Fld Z h25 b25 "com/example/ramification/ramification/model/StrahlerOrders" "branches" "[I" .null := D25 (Or.inr (hw _ (List.mem_of_getElem? (i := 30) rfl))) (ty := (.array .int)) (by decide)
    have F_lengths_b25 : Fld Z h25 b25 "com/example/ramification/ramification/model/StrahlerOrders" "lengths" "[D" .null := D25 (Or.inr (hw _ (List.mem_of_getElem? (i := 38) rfl))) (ty := (.array .double)) (by decide)
    have F_unit_b25 : Fld Z h25 b25 "com/example/ramification/ramification/model/StrahlerOrders" "unit" "Ljava/util/Optional;" .null := D25 (Or.inr (hw _ (List.mem_of_getElem? (i := 40) rfl))) (ty := (.object "java/util/Optional")) (by decide)
    show OwnR _ _ _ _ _ _ _ (T25.setTop (mkF m 130 #[.val (.int p1), .val (.int p2), .val (.int p3), .val (.int p4), .val (.int p5), .val (.int (2 : Int32)), .val (.int ca), .val (.int cb), .val (.int cc), .val (.int cd), .val (.ref b21), .val (.ref b22), .val (.long (((0 : Int64) + (ca.toInt64)) + (cb.toInt64))), .second, .unset] [(.ref b25)]))
    refine OwnR.of (fun _ hr => XS.dup X25.here hx rfl (hb hby at_130) rfl rfl hr) ?_
    show OwnR _ _ _ _ _ _ _ (T25.setTop (mkF m 131 #[.val (.int p1), .val (.int p2), .val (.int p3), .val (.int p4), .val (.int p5), .val (.int (2 : Int32)), .val (.int ca), .val (.int cb), .val (.int cc), .val (.int cd), .val (.ref b21), .val (.ref b22), .val (.long (((0 : Int64) + (ca.toInt64)) + (cb.toInt64))), .second, .unset] [(.ref b25), (.ref b25)]))
    refine OwnR.of (fun _ hr => XS.aload X25.here hx rfl (hb hby at_131) rfl rfl hr) ?_
    show OwnR _ _ _ _ _ _ _ (T25.setTop (mkF m 133 #[.val (.int p1), .val (.int p2), .val (.int p3), .val (.int p4), .val (.int p5), .val (.int (2 : Int32)), .val (.int ca), .val (.int cb), .val (.int cc), .val (.int cd), .val (.ref b21), .val (.ref b22), .val (.long (((0 : Int64) + (ca.toInt64)) + (cb.toInt64))), .second, .unset] [(.ref b21), (.ref b25), (.ref b25)]))
    refine OwnR.of (fun _ hr => XS.aload X25.here hx rfl (hb hby at_133) rfl rfl hr) ?_
    show OwnR _ _ _ _ _ _ _ (T25.setTop (mkF m 135 #[.val (.int p1), .val (.int p2), .val (.int p3), .val (.int p4), .val (.int p5), .val (.int (2 : Int32)), .val (.int ca), .val (.int cb), .val (.int cc), .val (.int cd), .val (.ref b21), .val (.ref b22), .val (.long (((0 : Int64) + (ca.toInt64)) + (cb.toInt64))), .second, .unset] [(.ref b22), (.ref b21), (.ref b25), (.ref b25)]))
    refine OwnR.of (fun _ hr => XS.aconstNull X25.here hx rfl (hb hby at_135) hr) ?_
    show OwnR _ _ _ _ _ _ _ (T25.setTop (mkF m 136 #[.val (.int p1), .val (.int p2), .val (.int p3), .val (.int p4), .val (.int p5), .val (.int (2 : Int32)), .val (.int ca), .val (.int cb), .val (.int cc), .val (.int cd), .val (.ref b21), .val (.ref b22), .val (.long (((0 : Int64) + (ca.toInt64)) + (cb.toInt64))), .second, .unset] [.null, (.ref b22), (.ref b21), (.ref b25), (.ref b25)]))
    obtain ⟨_, _, ⟨T26, L26, kc26, ns26⟩, -, X26, ⟨Lc26, hQ26, l26, y26, z26⟩, st26⟩ := X25.specialBack hx (y := (⟨"com/example/ramification/ramification/model/StrahlerOrders", "<init>", "([I[DLjava/util/Optional;)V"⟩ : MethodName)) rfl hown (mvT hZ (hw _ (List.mem_of_getElem? (i := 14) rfl))) (mvT hZ (hw _ (List.mem_of_getElem? (i := 15) rfl))) (mvT hZ (hw _ (List.mem_of_getElem? (i := 16) rfl))) (by decide) (backOf (W := 1) (rm3_2 l Z a0 hw [] b25 b21 b22 k21 k22 ca cb h25 n0 (Nat.le_trans Z0 K25.1) A25 F_branches_b25 F_lengths_b25 F_unit_b25 (Arv.ext V24 E25) (Arv.ext (Arv.other (Arv.other V22 W23 (Ne.symm (Nat.ne_of_lt (Nat.lt_of_lt_of_le AE21.lt (Nat.le_of_eq g22.symm))))) W24 (Ne.symm (Nat.ne_of_lt (Nat.lt_of_lt_of_le AE21.lt (Nat.le_of_eq g22.symm))))) E25) (Exa.ext E25 (Exa.wr W24 (Exa.wr W23 (Exa.ext E22 AE21)))) (Exa.ext E25 (Exa.wr W24 (Exa.wr W23 AE22))) gn_b25 (Ne.symm (Nat.ne_of_lt (Nat.lt_of_lt_of_le (Exa.wr W24 (Exa.wr W23 (Exa.ext E22 AE21))).lt (Nat.le_of_eq g25.symm)))) (Ne.symm (Nat.ne_of_lt (Nat.lt_of_lt_of_le (Exa.wr W24 (Exa.wr W23 AE22)).lt (Nat.le_of_eq g25.symm)))) hca1 hcb1) hZ (hw _ (List.mem_of_getElem? (i := 16) rfl)) (hw _ (List.mem_of_getElem? (i := 13) rfl)) (by decide) (by decide)) (g := (mkF m 136 #[.val (.int p1), .val (.int p2), .val (.int p3), .val (.int p4), .val (.int p5), .val (.int (2 : Int32)), .val (.int ca), .val (.int cb), .val (.int cc), .val (.int cd), .val (.ref b21), .val (.ref b22), .val (.long (((0 : Int64) + (ca.toInt64)) + (cb.toInt64))), .second, .unset] [.null, (.ref b22), (.ref b21), (.ref b25), (.ref b25)])) rfl (by rw [hml]; rfl) (Steps.refl _) (a := b25) (argsL := [(.ref b21), (.ref b22), .null]) (rest := [(.ref b25)]) (lenOf pd___I_DLjava_util_Optional__V rfl) rfl (by show 2 * 0 + _ ≤ _; exact Nat.le_of_eq rfl) (hb hby at_136) (fun _ _ => ⟨rfl, e25, (by decide : 3 + 2 ≤ _), (by decide : 7 + 4 ≤ _)⟩)
    dsimp only [Pt.U, Pt.locs, Pt.cells, Pt.slots] at X26 l26 y26 z26 st26 hQ26
    subst l26 y26 z26
    obtain ⟨bI_26, rfl, N26q, P26_0, P26_1, P26_2, P26_3⟩ := hQ26
    have K26 : Keep h0 T26.heap [] := Keep.trans K25 P26_0 (allS (Or.inr sz_b25) all0)
    have N26 := Fr.app N24 N26q
    refine OwnR.of (fun _ hr => st26.trans hr) ?_
    show OwnR _ _ _ _ _ _ _ (T26.setTop (mkF m 139 #[.val (.int p1), .val (.int p2), .val (.int p3), .val (.int p4), .val (.int p5), .val (.int (2 : Int32)), .val (.int ca), .val (.int cb), .val (.int cc), .val (.int cd), .val (.ref b21), .val (.ref b22), .val (.long (((0 : Int64) + (ca.toInt64)) + (cb.toInt64))), .second, .unset] [(.ref b25)]))
    refine OwnR.of (fun _ hr => XS.astore X26.here hx rfl (hb hby at_139) rfl rfl (l' := #[.val (.int p1), .val (.int p2), .val (.int p3), .val (.int p4), .val (.int p5), .val (.int (2 : Int32)), .val (.int ca), .val (.int cb), .val (.int cc), .val (.int cd), .val (.ref b21), .val (.ref b22), .val (.long (((0 : Int64) + (ca.toInt64)) + (cb.toInt64))), .second, .val (.ref b25)]) rfl hr) ?_
    show OwnR _ _ _ _ _ _ _ (T26.setTop (mkF m 141 #[.val (.int p1), .val (.int p2), .val (.int p3), .val (.int p4), .val (.int p5), .val (.int (2 : Int32)), .val (.int ca), .val (.int cb), .val (.int cc), .val (.int cd), .val (.ref b21), .val (.ref b22), .val (.long (((0 : Int64) + (ca.toInt64)) + (cb.toInt64))), .second, .val (.ref b25)] []))
    refine OwnR.of (fun _ hr => XS.aload X26.here hx rfl (hb hby at_141) rfl rfl hr) ?_
    show OwnR _ _ _ _ _ _ _ (T26.setTop (mkF m 143 #[.val (.int p1), .val (.int p2), .val (.int p3), .val (.int p4), .val (.int p5), .val (.int (2 : Int32)), .val (.int ca), .val (.int cb), .val (.int cc), .val (.int cd), .val (.ref b21), .val (.ref b22), .val (.long (((0 : Int64) + (ca.toInt64)) + (cb.toInt64))), .second, .val (.ref b25)] [(.ref b25)]))
    obtain ⟨cq27, kq27, q27a, q27b, q27c⟩ := isOf hZ rfl P26_1
    obtain ⟨_, _, ⟨T27, L27, kc27, ns27⟩, -, X27, ⟨Lc27, hQ27, l27, y27, z27⟩, st27⟩ := X26.virtualBack hx (y := (⟨"com/example/ramification/ramification/model/StrahlerOrders", "getTotalBranches", "()J"⟩ : MethodName)) (z := (⟨"com/example/ramification/ramification/model/StrahlerOrders", "getTotalBranches", "()J"⟩ : MethodName)) hown (mvT hZ (hw _ (List.mem_of_getElem? (i := 41) rfl))) (mvT hZ (hw _ (List.mem_of_getElem? (i := 42) rfl))) (notFace_of_selects (args := #[]) (mvT hZ (hw _ (List.mem_of_getElem? (i := 44) rfl)))) (mvT hZ (hw _ (List.mem_of_getElem? (i := 44) rfl))) (mvT hZ (hw _ (List.mem_of_getElem? (i := 43) rfl))) (by decide) (backOf (W := 0) (rm5_2 l Z a0 hw [] b25 bI_26 k21 ca cb (T26.heap) n0 (Nat.le_trans Z0 K26.1) P26_1 P26_2 P26_3) hZ (hw _ (List.mem_of_getElem? (i := 45) rfl)) (hw _ (List.mem_of_getElem? (i := 13) rfl)) (by decide) (by decide)) q27a q27c (g := (mkF m 143 #[.val (.int p1), .val (.int p2), .val (.int p3), .val (.int p4), .val (.int p5), .val (.int (2 : Int32)), .val (.int ca), .val (.int cb), .val (.int cc), .val (.int cd), .val (.ref b21), .val (.ref b22), .val (.long (((0 : Int64) + (ca.toInt64)) + (cb.toInt64))), .second, .val (.ref b25)] [(.ref b25)])) rfl (by rw [hml]; rfl) (Steps.refl _) (argsL := []) (rest := []) (lenOf pd___J rfl) rfl (by show 2 * 0 + _ ≤ _; exact Nat.le_of_eq rfl) (hb hby at_143) (fun _ _ => ⟨rfl, rfl, (by decide : 5 + 0 ≤ _), (by decide : 11 + 0 ≤ _)⟩)
    dsimp only [Pt.U, Pt.locs, Pt.cells, Pt.slots] at X27 l27 y27 z27 st27 hQ27
    subst l27 y27 z27
    obtain ⟨rfl, N27q, e27⟩ := hQ27
    have N27 := Fr.app N26 N27q
    refine OwnR.of (fun _ hr => st27.trans hr) ?_
    show OwnR _ _ _ _ _ _ _ (T27.setTop (mkF m 146 #[.val (.int p1), .val (.int p2), .val (.int p3), .val (.int p4), .val (.int p5), .val (.int (2 : Int32)), .val (.int ca), .val (.int cb), .val (.int cc), .val (.int cd), .val (.ref b21), .val (.ref b22), .val (.long (((0 : Int64) + (ca.toInt64)) + (cb.toInt64))), .second, .val (.ref b25)] [(.long (((0 : Int64) + (ca.toInt64)) + (cb.toInt64)))]))
    refine OwnR.of (fun _ hr => XS.lload X27.here hx rfl (hb hby at_146) rfl hr) ?_
    show OwnR _ _ _ _ _ _ _ (T27.setTop (mkF m 148 #[.val (.int p1), .val (.int p2), .val (.int p3), .val (.int p4), .val (.int p5), .val (.int (2 : Int32)), .val (.int ca), .val (.int cb), .val (.int cc), .val (.int cd), .val (.ref b21), .val (.ref b22), .val (.long (((0 : Int64) + (ca.toInt64)) + (cb.toInt64))), .second, .val (.ref b25)] [(.long (((0 : Int64) + (ca.toInt64)) + (cb.toInt64))), (.long (((0 : Int64) + (ca.toInt64)) + (cb.toInt64)))]))
    refine OwnR.of (fun _ hr => XS.lcmp X27.here hx rfl (hb hby at_148) rfl hr) ?_
    show OwnR _ _ _ _ _ _ _ (T27.setTop (mkF m 149 #[.val (.int p1), .val (.int p2), .val (.int p3), .val (.int p4), .val (.int p5), .val (.int (2 : Int32)), .val (.int ca), .val (.int cb), .val (.int cc), .val (.int cd), .val (.ref b21), .val (.ref b22), .val (.long (((0 : Int64) + (ca.toInt64)) + (cb.toInt64))), .second, .val (.ref b25)] [(.int (lcmpW (((0 : Int64) + (ca.toInt64)) + (cb.toInt64)) (((0 : Int64) + (ca.toInt64)) + (cb.toInt64))))]))
    refine OwnR.of (fun _ hr => XS.ifNo X27.here hx rfl (hb hby at_149) rfl ((if0 _ _).trans (teq ((own_lceq _ _).mpr rfl)).2) hr) ?_
    show OwnR _ _ _ _ _ _ _ (T27.setTop (mkF m 152 #[.val (.int p1), .val (.int p2), .val (.int p3), .val (.int p4), .val (.int p5), .val (.int (2 : Int32)), .val (.int ca), .val (.int cb), .val (.int cc), .val (.int cd), .val (.ref b21), .val (.ref b22), .val (.long (((0 : Int64) + (ca.toInt64)) + (cb.toInt64))), .second, .val (.ref b25)] []))
    refine OwnR.of (fun _ hr => XS.iconst X27.here hx rfl (hb hby at_152) hr) ?_
    show OwnR _ _ _ _ _ _ _ (T27.setTop (mkF m 153 #[.val (.int p1), .val (.int p2), .val (.int p3), .val (.int p4), .val (.int p5), .val (.int (2 : Int32)), .val (.int ca), .val (.int cb), .val (.int cc), .val (.int cd), .val (.ref b21), .val (.ref b22), .val (.long (((0 : Int64) + (ca.toInt64)) + (cb.toInt64))), .second, .val (.ref b25)] [(.int (1 : Int32))]))
    refine OwnR.of (fun _ hr => XS.goto X27.here hx rfl (pc0 := 153) (pc' := 157) rfl (hb hby at_153) (by decide) (by decide) hr) ?_
    show OwnR _ _ _ _ _ _ _ (T27.setTop (mkF m 157 #[.val (.int p1), .val (.int p2), .val (.int p3), .val (.int p4), .val (.int p5), .val (.int (2 : Int32)), .val (.int ca), .val (.int cb), .val (.int cc), .val (.int cd), .val (.ref b21), .val (.ref b22), .val (.long (((0 : Int64) + (ca.toInt64)) + (cb.toInt64))), .second, .val (.ref b25)] [(.int (1 : Int32))]))
    refine own_leafN X27 hx hlk (t := .boolean) Bd.returns (by simp) (hb hby at_157) (z' := (1 : Int32)) rfl (by decide) (by decide) ?_
    show Q0 Z  h0 n0 _ T27.heap _
    rw [show T27.heap = T26.heap from e27]
    refine ⟨?_, N27⟩
    show (some (.int (1 : Int32)) : Option Value) = some (.int (1 : Int32))
    rfl
  · skip
    show OwnR _ _ _ _ _ _ _ (T9.setTop (mkF m 33 #[.val (.int p1), .val (.int p2), .val (.int p3), .val (.int p4), .val (.int p5), .val (.int (3 : Int32)), .val (.int ca), .val (.int cb), .val (.int cc), .val (.int cd), .unset, .unset, .unset, .unset, .unset] []))
    refine OwnR.of (fun _ hr => XS.iload X9.here hx rfl (hb hby at_33) rfl hr) ?_
    show OwnR _ _ _ _ _ _ _ (T9.setTop (mkF m 35 #[.val (.int p1), .val (.int p2), .val (.int p3), .val (.int p4), .val (.int p5), .val (.int (3 : Int32)), .val (.int ca), .val (.int cb), .val (.int cc), .val (.int cd), .unset, .unset, .unset, .unset, .unset] [(.int (3 : Int32))]))
    obtain ⟨T28, h28, k28, X28, e28, E28, A28, AE28, st28⟩ := newPE X9 hx hZ (hw _ (List.mem_of_getElem? (i := 9) rfl)) e9 (g := (mkF m 35 #[.val (.int p1), .val (.int p2), .val (.int p3), .val (.int p4), .val (.int p5), .val (.int (3 : Int32)), .val (.int ca), .val (.int cb), .val (.int cc), .val (.int cd), .unset, .unset, .unset, .unset, .unset] [(.int (3 : Int32))])) rfl (hb hby at_35) rfl (by decide) (cap := 3) (by decide) (by decide) (by decide) (by decide) (ad := "[I") rfl
    obtain ⟨b28, g28⟩ : ∃ z, z = h0.size := ⟨_, rfl⟩
    rw [← g28] at A28 AE28 st28
    refine OwnR.of (st28) ?_
    have gn_b28 : n0 ≤ b28 := Nat.le_trans (Nat.le_trans Z0 (Keep.refl h0 []).1) (Nat.le_of_eq g28.symm)
    have sz_b28 : h0.size ≤ b28 := Nat.le_trans (Keep.refl h0 []).1 (Nat.le_of_eq g28.symm)
    have K28 : Keep h0 h28 [] := Keep.ext (Keep.refl h0 []) E28
    have V28 : Arv Z h28 b28 k28 .int (3 : Int32) [(.int (0 : Int32)), (.int (0 : Int32)), (.int (0 : Int32))] (.int (0 : Int32)) := (Arv.new A28 (by decide)).pad (pad_rep [] (.int (0 : Int32)) 3)
    show OwnR _ _ _ _ _ _ _ (T28.setTop (mkF m 37 #[.val (.int p1), .val (.int p2), .val (.int p3), .val (.int p4), .val (.int p5), .val (.int (3 : Int32)), .val (.int ca), .val (.int cb), .val (.int cc), .val (.int cd), .unset, .unset, .unset, .unset, .unset] [(.ref b28)]))
    refine OwnR.of (fun _ hr => XS.astore X28.here hx rfl (hb hby at_37) rfl rfl (l' := #[.val (.int p1), .val (.int p2), .val (.int p3), .val (.int p4), .val (.int p5), .val (.int (3 : Int32)), .val (.int ca), .val (.int cb), .val (.int cc), .val (.int cd), .val (.ref b28), .unset, .unset, .unset, .unset]) rfl hr) ?_
    show OwnR _ _ _ _ _ _ _ (T28.setTop (mkF m 39 #[.val (.int p1), .val (.int p2), .val (.int p3), .val (.int p4), .val (.int p5), .val (.int (3 : Int32)), .val (.int ca), .val (.int cb), .val (.int cc), .val (.int cd), .val (.ref b28), .unset, .unset, .unset, .unset] []))
    refine OwnR.of (fun _ hr => XS.iload X28.here hx rfl (hb hby at_39) rfl hr) ?_
    show OwnR _ _ _ _ _ _ _ (T28.setTop (mkF m 41 #[.val (.int p1), .val (.int p2), .val (.int p3), .val (.int p4), .val (.int p5), .val (.int (3 : Int32)), .val (.int ca), .val (.int cb), .val (.int cc), .val (.int cd), .val (.ref b28), .unset, .unset, .unset, .unset] [(.int (3 : Int32))]))
    obtain ⟨T29, h29, k29, X29, e29, E29, A29, AE29, st29⟩ := newPE X28 hx hZ (hw _ (List.mem_of_getElem? (i := 10) rfl)) e28 (g := (mkF m 41 #[.val (.int p1), .val (.int p2), .val (.int p3), .val (.int p4), .val (.int p5), .val (.int (3 : Int32)), .val (.int ca), .val (.int cb), .val (.int cc), .val (.int cd), .val (.ref b28), .unset, .unset, .unset, .unset] [(.int (3 : Int32))])) rfl (hb hby at_41) rfl (by decide) (cap := 3) (by decide) (by decide) (by decide) (by decide) (ad := "[D") rfl
    obtain ⟨b29, g29⟩ : ∃ z, z = h28.size := ⟨_, rfl⟩
    rw [← g29] at A29 AE29 st29
    refine OwnR.of (st29) ?_
    have gn_b29 : n0 ≤ b29 := Nat.le_trans (Nat.le_trans Z0 K28.1) (Nat.le_of_eq g29.symm)
    have sz_b29 : h0.size ≤ b29 := Nat.le_trans K28.1 (Nat.le_of_eq g29.symm)
    have K29 : Keep h0 h29 [] := Keep.ext K28 E29
    have V29 : Arv Z h29 b29 k29 .double (3 : Int32) [(defaultValue .double), (defaultValue .double), (defaultValue .double)] (defaultValue .double) := (Arv.new A29 (by decide)).pad (pad_rep [] (defaultValue .double) 3)
    show OwnR _ _ _ _ _ _ _ (T29.setTop (mkF m 43 #[.val (.int p1), .val (.int p2), .val (.int p3), .val (.int p4), .val (.int p5), .val (.int (3 : Int32)), .val (.int ca), .val (.int cb), .val (.int cc), .val (.int cd), .val (.ref b28), .unset, .unset, .unset, .unset] [(.ref b29)]))
    refine OwnR.of (fun _ hr => XS.astore X29.here hx rfl (hb hby at_43) rfl rfl (l' := #[.val (.int p1), .val (.int p2), .val (.int p3), .val (.int p4), .val (.int p5), .val (.int (3 : Int32)), .val (.int ca), .val (.int cb), .val (.int cc), .val (.int cd), .val (.ref b28), .val (.ref b29), .unset, .unset, .unset]) rfl hr) ?_
    show OwnR _ _ _ _ _ _ _ (T29.setTop (mkF m 45 #[.val (.int p1), .val (.int p2), .val (.int p3), .val (.int p4), .val (.int p5), .val (.int (3 : Int32)), .val (.int ca), .val (.int cb), .val (.int cc), .val (.int cd), .val (.ref b28), .val (.ref b29), .unset, .unset, .unset] []))
    refine OwnR.of (fun _ hr => XS.lconst X29.here hx rfl (hb hby at_45) hr) ?_
    show OwnR _ _ _ _ _ _ _ (T29.setTop (mkF m 46 #[.val (.int p1), .val (.int p2), .val (.int p3), .val (.int p4), .val (.int p5), .val (.int (3 : Int32)), .val (.int ca), .val (.int cb), .val (.int cc), .val (.int cd), .val (.ref b28), .val (.ref b29), .unset, .unset, .unset] [(.long (0 : Int64))]))
    refine OwnR.of (fun _ hr => XS.lstore X29.here hx rfl (hb hby at_46) rfl (l' := #[.val (.int p1), .val (.int p2), .val (.int p3), .val (.int p4), .val (.int p5), .val (.int (3 : Int32)), .val (.int ca), .val (.int cb), .val (.int cc), .val (.int cd), .val (.ref b28), .val (.ref b29), .val (.long (0 : Int64)), .second, .unset]) rfl hr) ?_
    show OwnR _ _ _ _ _ _ _ (T29.setTop (mkF m 48 #[.val (.int p1), .val (.int p2), .val (.int p3), .val (.int p4), .val (.int p5), .val (.int (3 : Int32)), .val (.int ca), .val (.int cb), .val (.int cc), .val (.int cd), .val (.ref b28), .val (.ref b29), .val (.long (0 : Int64)), .second, .unset] []))
    refine OwnR.of (fun _ hr => XS.iload X29.here hx rfl (hb hby at_48) rfl hr) ?_
    show OwnR _ _ _ _ _ _ _ (T29.setTop (mkF m 50 #[.val (.int p1), .val (.int p2), .val (.int p3), .val (.int p4), .val (.int p5), .val (.int (3 : Int32)), .val (.int ca), .val (.int cb), .val (.int cc), .val (.int cd), .val (.ref b28), .val (.ref b29), .val (.long (0 : Int64)), .second, .unset] [(.int (3 : Int32))]))
    refine OwnR.of (fun _ hr => XS.ifNo X29.here hx rfl (hb hby at_50) rfl ((if0 _ _).trans (tlt (by decide : (0 : Int32) < (3 : Int32))).2.2.2) hr) ?_
    show OwnR _ _ _ _ _ _ _ (T29.setTop (mkF m 53 #[.val (.int p1), .val (.int p2), .val (.int p3), .val (.int p4), .val (.int p5), .val (.int (3 : Int32)), .val (.int ca), .val (.int cb), .val (.int cc), .val (.int cd), .val (.ref b28), .val (.ref b29), .val (.long (0 : Int64)), .second, .unset] []))
    refine OwnR.of (fun _ hr => XS.aload X29.here hx rfl (hb hby at_53) rfl rfl hr) ?_
    show OwnR _ _ _ _ _ _ _ (T29.setTop (mkF m 55 #[.val (.int p1), .val (.int p2), .val (.int p3), .val (.int p4), .val (.int p5), .val (.int (3 : Int32)), .val (.int ca), .val (.int cb), .val (.int cc), .val (.int cd), .val (.ref b28), .val (.ref b29), .val (.long (0 : Int64)), .second, .unset] [(.ref b28)]))
    refine OwnR.of (fun _ hr => XS.iconst X29.here hx rfl (hb hby at_55) hr) ?_
    show OwnR _ _ _ _ _ _ _ (T29.setTop (mkF m 56 #[.val (.int p1), .val (.int p2), .val (.int p3), .val (.int p4), .val (.int p5), .val (.int (3 : Int32)), .val (.int ca), .val (.int cb), .val (.int cc), .val (.int cd), .val (.ref b28), .val (.ref b29), .val (.long (0 : Int64)), .second, .unset] [(.int (0 : Int32)), (.ref b28)]))
    refine OwnR.of (fun _ hr => XS.iload X29.here hx rfl (hb hby at_56) rfl hr) ?_
    show OwnR _ _ _ _ _ _ _ (T29.setTop (mkF m 58 #[.val (.int p1), .val (.int p2), .val (.int p3), .val (.int p4), .val (.int p5), .val (.int (3 : Int32)), .val (.int ca), .val (.int cb), .val (.int cc), .val (.int cd), .val (.ref b28), .val (.ref b29), .val (.long (0 : Int64)), .second, .unset] [(.int ca), (.int (0 : Int32)), (.ref b28)]))
    obtain ⟨cl30, Ar30, q30, S30, N30q, H30, G30⟩ := id (Arv.ext V28 E29)
    have hin30 : ¬ ((0 : Int32) < 0 ∨ cl30.slots.size ≤ ((0 : Int32)).toNatClampNeg) := (inb_of S30 ⟨by decide, by decide⟩)
    obtain ⟨T30, h30, X30, e30, W30, st30⟩ := stI X29 hx hZ e29 Ar30 (j := (0 : Int32)) hin30 (g := (mkF m 58 #[.val (.int p1), .val (.int p2), .val (.int p3), .val (.int p4), .val (.int p5), .val (.int (3 : Int32)), .val (.int ca), .val (.int cb), .val (.int cc), .val (.int cd), .val (.ref b28), .val (.ref b29), .val (.long (0 : Int64)), .second, .unset] [(.int ca), (.int (0 : Int32)), (.ref b28)])) rfl rfl (hb hby at_58)
    refine OwnR.of (st30) ?_
    have V30 := Arv.set Ar30 q30 S30 N30q H30 G30 rfl W30 0 rfl (Nat.le_of_ble_eq_true rfl)
    have V30 : Arv Z h30 b28 k28 .int (3 : Int32) [(.int ca), (.int (0 : Int32)), (.int (0 : Int32))] (.int (0 : Int32)) := V30
    have K30 : Keep h0 h30 [] := Keep.wr K29 W30 (Or.inr sz_b28)
    have N30 := Fr.snoc X30 N9 gn_b28
    show OwnR _ _ _ _ _ _ _ (T30.setTop (mkF m 59 #[.val (.int p1), .val (.int p2), .val (.int p3), .val (.int p4), .val (.int p5), .val (.int (3 : Int32)), .val (.int ca), .val (.int cb), .val (.int cc), .val (.int cd), .val (.ref b28), .val (.ref b29), .val (.long (0 : Int64)), .second, .unset] []))
    refine OwnR.of (fun _ hr => XS.lload X30.here hx rfl (hb hby at_59) rfl hr) ?_
    show OwnR _ _ _ _ _ _ _ (T30.setTop (mkF m 61 #[.val (.int p1), .val (.int p2), .val (.int p3), .val (.int p4), .val (.int p5), .val (.int (3 : Int32)), .val (.int ca), .val (.int cb), .val (.int cc), .val (.int cd), .val (.ref b28), .val (.ref b29), .val (.long (0 : Int64)), .second, .unset] [(.long (0 : Int64))]))
    refine OwnR.of (fun _ hr => XS.iload X30.here hx rfl (hb hby at_61) rfl hr) ?_
    show OwnR _ _ _ _ _ _ _ (T30.setTop (mkF m 63 #[.val (.int p1), .val (.int p2), .val (.int p3), .val (.int p4), .val (.int p5), .val (.int (3 : Int32)), .val (.int ca), .val (.int cb), .val (.int cc), .val (.int cd), .val (.ref b28), .val (.ref b29), .val (.long (0 : Int64)), .second, .unset] [(.int ca), (.long (0 : Int64))]))
    refine OwnR.of (fun _ hr => XS.i2l X30.here hx rfl (hb hby at_63) rfl hr) ?_
    show OwnR _ _ _ _ _ _ _ (T30.setTop (mkF m 64 #[.val (.int p1), .val (.int p2), .val (.int p3), .val (.int p4), .val (.int p5), .val (.int (3 : Int32)), .val (.int ca), .val (.int cb), .val (.int cc), .val (.int cd), .val (.ref b28), .val (.ref b29), .val (.long (0 : Int64)), .second, .unset] [(.long (ca.toInt64)), (.long (0 : Int64))]))
    refine OwnR.of (fun _ hr => XS.ladd X30.here hx rfl (hb hby at_64) rfl hr) ?_
    show OwnR _ _ _ _ _ _ _ (T30.setTop (mkF m 65 #[.val (.int p1), .val (.int p2), .val (.int p3), .val (.int p4), .val (.int p5), .val (.int (3 : Int32)), .val (.int ca), .val (.int cb), .val (.int cc), .val (.int cd), .val (.ref b28), .val (.ref b29), .val (.long (0 : Int64)), .second, .unset] [(.long ((0 : Int64) + (ca.toInt64)))]))
    refine OwnR.of (fun _ hr => XS.lstore X30.here hx rfl (hb hby at_65) rfl (l' := #[.val (.int p1), .val (.int p2), .val (.int p3), .val (.int p4), .val (.int p5), .val (.int (3 : Int32)), .val (.int ca), .val (.int cb), .val (.int cc), .val (.int cd), .val (.ref b28), .val (.ref b29), .val (.long ((0 : Int64) + (ca.toInt64))), .second, .unset]) rfl hr) ?_
    show OwnR _ _ _ _ _ _ _ (T30.setTop (mkF m 67 #[.val (.int p1), .val (.int p2), .val (.int p3), .val (.int p4), .val (.int p5), .val (.int (3 : Int32)), .val (.int ca), .val (.int cb), .val (.int cc), .val (.int cd), .val (.ref b28), .val (.ref b29), .val (.long ((0 : Int64) + (ca.toInt64))), .second, .unset] []))
    refine OwnR.of (fun _ hr => XS.iload X30.here hx rfl (hb hby at_67) rfl hr) ?_
    show OwnR _ _ _ _ _ _ _ (T30.setTop (mkF m 69 #[.val (.int p1), .val (.int p2), .val (.int p3), .val (.int p4), .val (.int p5), .val (.int (3 : Int32)), .val (.int ca), .val (.int cb), .val (.int cc), .val (.int cd), .val (.ref b28), .val (.ref b29), .val (.long ((0 : Int64) + (ca.toInt64))), .second, .unset] [(.int (3 : Int32))]))
    refine OwnR.of (fun _ hr => XS.iconst X30.here hx rfl (hb hby at_69) hr) ?_
    show OwnR _ _ _ _ _ _ _ (T30.setTop (mkF m 70 #[.val (.int p1), .val (.int p2), .val (.int p3), .val (.int p4), .val (.int p5), .val (.int (3 : Int32)), .val (.int ca), .val (.int cb), .val (.int cc), .val (.int cd), .val (.ref b28), .val (.ref b29), .val (.long ((0 : Int64) + (ca.toInt64))), .second, .unset] [(.int (1 : Int32)), (.int (3 : Int32))]))
    refine OwnR.of (fun _ hr => XS.icmpNo X30.here hx rfl (hb hby at_70) rfl (tlt (by decide : (1 : Int32) < (3 : Int32))).2.2.2 hr) ?_
    show OwnR _ _ _ _ _ _ _ (T30.setTop (mkF m 73 #[.val (.int p1), .val (.int p2), .val (.int p3), .val (.int p4), .val (.int p5), .val (.int (3 : Int32)), .val (.int ca), .val (.int cb), .val (.int cc), .val (.int cd), .val (.ref b28), .val (.ref b29), .val (.long ((0 : Int64) + (ca.toInt64))), .second, .unset] []))
    refine OwnR.of (fun _ hr => XS.aload X30.here hx rfl (hb hby at_73) rfl rfl hr) ?_
    show OwnR _ _ _ _ _ _ _ (T30.setTop (mkF m 75 #[.val (.int p1), .val (.int p2), .val (.int p3), .val (.int p4), .val (.int p5), .val (.int (3 : Int32)), .val (.int ca), .val (.int cb), .val (.int cc), .val (.int cd), .val (.ref b28), .val (.ref b29), .val (.long ((0 : Int64) + (ca.toInt64))), .second, .unset] [(.ref b28)]))
    refine OwnR.of (fun _ hr => XS.iconst X30.here hx rfl (hb hby at_75) hr) ?_
    show OwnR _ _ _ _ _ _ _ (T30.setTop (mkF m 76 #[.val (.int p1), .val (.int p2), .val (.int p3), .val (.int p4), .val (.int p5), .val (.int (3 : Int32)), .val (.int ca), .val (.int cb), .val (.int cc), .val (.int cd), .val (.ref b28), .val (.ref b29), .val (.long ((0 : Int64) + (ca.toInt64))), .second, .unset] [(.int (1 : Int32)), (.ref b28)]))
    refine OwnR.of (fun _ hr => XS.iload X30.here hx rfl (hb hby at_76) rfl hr) ?_
    show OwnR _ _ _ _ _ _ _ (T30.setTop (mkF m 78 #[.val (.int p1), .val (.int p2), .val (.int p3), .val (.int p4), .val (.int p5), .val (.int (3 : Int32)), .val (.int ca), .val (.int cb), .val (.int cc), .val (.int cd), .val (.ref b28), .val (.ref b29), .val (.long ((0 : Int64) + (ca.toInt64))), .second, .unset] [(.int cb), (.int (1 : Int32)), (.ref b28)]))
    obtain ⟨cl31, Ar31, q31, S31, N31q, H31, G31⟩ := id V30
    have hin31 : ¬ ((1 : Int32) < 0 ∨ cl31.slots.size ≤ ((1 : Int32)).toNatClampNeg) := (inb_of S31 ⟨by decide, by decide⟩)
    obtain ⟨T31, h31, X31, e31, W31, st31⟩ := stI X30 hx hZ e30 Ar31 (j := (1 : Int32)) hin31 (g := (mkF m 78 #[.val (.int p1), .val (.int p2), .val (.int p3), .val (.int p4), .val (.int p5), .val (.int (3 : Int32)), .val (.int ca), .val (.int cb), .val (.int cc), .val (.int cd), .val (.ref b28), .val (.ref b29), .val (.long ((0 : Int64) + (ca.toInt64))), .second, .unset] [(.int cb), (.int (1 : Int32)), (.ref b28)])) rfl rfl (hb hby at_78)
    refine OwnR.of (st31) ?_
    have V31 := Arv.set Ar31 q31 S31 N31q H31 G31 rfl W31 1 rfl (Nat.le_of_ble_eq_true rfl)
    have V31 : Arv Z h31 b28 k28 .int (3 : Int32) [(.int ca), (.int cb), (.int (0 : Int32))] (.int (0 : Int32)) := V31
    have K31 : Keep h0 h31 [] := Keep.wr K30 W31 (Or.inr sz_b28)
    have N31 := Fr.snoc X31 N30 gn_b28
    show OwnR _ _ _ _ _ _ _ (T31.setTop (mkF m 79 #[.val (.int p1), .val (.int p2), .val (.int p3), .val (.int p4), .val (.int p5), .val (.int (3 : Int32)), .val (.int ca), .val (.int cb), .val (.int cc), .val (.int cd), .val (.ref b28), .val (.ref b29), .val (.long ((0 : Int64) + (ca.toInt64))), .second, .unset] []))
    refine OwnR.of (fun _ hr => XS.lload X31.here hx rfl (hb hby at_79) rfl hr) ?_
    show OwnR _ _ _ _ _ _ _ (T31.setTop (mkF m 81 #[.val (.int p1), .val (.int p2), .val (.int p3), .val (.int p4), .val (.int p5), .val (.int (3 : Int32)), .val (.int ca), .val (.int cb), .val (.int cc), .val (.int cd), .val (.ref b28), .val (.ref b29), .val (.long ((0 : Int64) + (ca.toInt64))), .second, .unset] [(.long ((0 : Int64) + (ca.toInt64)))]))
    refine OwnR.of (fun _ hr => XS.iload X31.here hx rfl (hb hby at_81) rfl hr) ?_
    show OwnR _ _ _ _ _ _ _ (T31.setTop (mkF m 83 #[.val (.int p1), .val (.int p2), .val (.int p3), .val (.int p4), .val (.int p5), .val (.int (3 : Int32)), .val (.int ca), .val (.int cb), .val (.int cc), .val (.int cd), .val (.ref b28), .val (.ref b29), .val (.long ((0 : Int64) + (ca.toInt64))), .second, .unset] [(.int cb), (.long ((0 : Int64) + (ca.toInt64)))]))
    refine OwnR.of (fun _ hr => XS.i2l X31.here hx rfl (hb hby at_83) rfl hr) ?_
    show OwnR _ _ _ _ _ _ _ (T31.setTop (mkF m 84 #[.val (.int p1), .val (.int p2), .val (.int p3), .val (.int p4), .val (.int p5), .val (.int (3 : Int32)), .val (.int ca), .val (.int cb), .val (.int cc), .val (.int cd), .val (.ref b28), .val (.ref b29), .val (.long ((0 : Int64) + (ca.toInt64))), .second, .unset] [(.long (cb.toInt64)), (.long ((0 : Int64) + (ca.toInt64)))]))
    refine OwnR.of (fun _ hr => XS.ladd X31.here hx rfl (hb hby at_84) rfl hr) ?_
    show OwnR _ _ _ _ _ _ _ (T31.setTop (mkF m 85 #[.val (.int p1), .val (.int p2), .val (.int p3), .val (.int p4), .val (.int p5), .val (.int (3 : Int32)), .val (.int ca), .val (.int cb), .val (.int cc), .val (.int cd), .val (.ref b28), .val (.ref b29), .val (.long ((0 : Int64) + (ca.toInt64))), .second, .unset] [(.long (((0 : Int64) + (ca.toInt64)) + (cb.toInt64)))]))
    refine OwnR.of (fun _ hr => XS.lstore X31.here hx rfl (hb hby at_85) rfl (l' := #[.val (.int p1), .val (.int p2), .val (.int p3), .val (.int p4), .val (.int p5), .val (.int (3 : Int32)), .val (.int ca), .val (.int cb), .val (.int cc), .val (.int cd), .val (.ref b28), .val (.ref b29), .val (.long (((0 : Int64) + (ca.toInt64)) + (cb.toInt64))), .second, .unset]) rfl hr) ?_
    show OwnR _ _ _ _ _ _ _ (T31.setTop (mkF m 87 #[.val (.int p1), .val (.int p2), .val (.int p3), .val (.int p4), .val (.int p5), .val (.int (3 : Int32)), .val (.int ca), .val (.int cb), .val (.int cc), .val (.int cd), .val (.ref b28), .val (.ref b29), .val (.long (((0 : Int64) + (ca.toInt64)) + (cb.toInt64))), .second, .unset] []))
    refine OwnR.of (fun _ hr => XS.iload X31.here hx rfl (hb hby at_87) rfl hr) ?_
    show OwnR _ _ _ _ _ _ _ (T31.setTop (mkF m 89 #[.val (.int p1), .val (.int p2), .val (.int p3), .val (.int p4), .val (.int p5), .val (.int (3 : Int32)), .val (.int ca), .val (.int cb), .val (.int cc), .val (.int cd), .val (.ref b28), .val (.ref b29), .val (.long (((0 : Int64) + (ca.toInt64)) + (cb.toInt64))), .second, .unset] [(.int (3 : Int32))]))
    refine OwnR.of (fun _ hr => XS.iconst X31.here hx rfl (hb hby at_89) hr) ?_
    show OwnR _ _ _ _ _ _ _ (T31.setTop (mkF m 90 #[.val (.int p1), .val (.int p2), .val (.int p3), .val (.int p4), .val (.int p5), .val (.int (3 : Int32)), .val (.int ca), .val (.int cb), .val (.int cc), .val (.int cd), .val (.ref b28), .val (.ref b29), .val (.long (((0 : Int64) + (ca.toInt64)) + (cb.toInt64))), .second, .unset] [(.int (2 : Int32)), (.int (3 : Int32))]))
    refine OwnR.of (fun _ hr => XS.icmpNo X31.here hx rfl (hb hby at_90) rfl (tlt (by decide : (2 : Int32) < (3 : Int32))).2.2.2 hr) ?_
    show OwnR _ _ _ _ _ _ _ (T31.setTop (mkF m 93 #[.val (.int p1), .val (.int p2), .val (.int p3), .val (.int p4), .val (.int p5), .val (.int (3 : Int32)), .val (.int ca), .val (.int cb), .val (.int cc), .val (.int cd), .val (.ref b28), .val (.ref b29), .val (.long (((0 : Int64) + (ca.toInt64)) + (cb.toInt64))), .second, .unset] []))
    refine OwnR.of (fun _ hr => XS.aload X31.here hx rfl (hb hby at_93) rfl rfl hr) ?_
    show OwnR _ _ _ _ _ _ _ (T31.setTop (mkF m 95 #[.val (.int p1), .val (.int p2), .val (.int p3), .val (.int p4), .val (.int p5), .val (.int (3 : Int32)), .val (.int ca), .val (.int cb), .val (.int cc), .val (.int cd), .val (.ref b28), .val (.ref b29), .val (.long (((0 : Int64) + (ca.toInt64)) + (cb.toInt64))), .second, .unset] [(.ref b28)]))
    refine OwnR.of (fun _ hr => XS.iconst X31.here hx rfl (hb hby at_95) hr) ?_
    show OwnR _ _ _ _ _ _ _ (T31.setTop (mkF m 96 #[.val (.int p1), .val (.int p2), .val (.int p3), .val (.int p4), .val (.int p5), .val (.int (3 : Int32)), .val (.int ca), .val (.int cb), .val (.int cc), .val (.int cd), .val (.ref b28), .val (.ref b29), .val (.long (((0 : Int64) + (ca.toInt64)) + (cb.toInt64))), .second, .unset] [(.int (2 : Int32)), (.ref b28)]))
    refine OwnR.of (fun _ hr => XS.iload X31.here hx rfl (hb hby at_96) rfl hr) ?_
    show OwnR _ _ _ _ _ _ _ (T31.setTop (mkF m 98 #[.val (.int p1), .val (.int p2), .val (.int p3), .val (.int p4), .val (.int p5), .val (.int (3 : Int32)), .val (.int ca), .val (.int cb), .val (.int cc), .val (.int cd), .val (.ref b28), .val (.ref b29), .val (.long (((0 : Int64) + (ca.toInt64)) + (cb.toInt64))), .second, .unset] [(.int cc), (.int (2 : Int32)), (.ref b28)]))
    obtain ⟨cl32, Ar32, q32, S32, N32q, H32, G32⟩ := id V31
    have hin32 : ¬ ((2 : Int32) < 0 ∨ cl32.slots.size ≤ ((2 : Int32)).toNatClampNeg) := (inb_of S32 ⟨by decide, by decide⟩)
    obtain ⟨T32, h32, X32, e32, W32, st32⟩ := stI X31 hx hZ e31 Ar32 (j := (2 : Int32)) hin32 (g := (mkF m 98 #[.val (.int p1), .val (.int p2), .val (.int p3), .val (.int p4), .val (.int p5), .val (.int (3 : Int32)), .val (.int ca), .val (.int cb), .val (.int cc), .val (.int cd), .val (.ref b28), .val (.ref b29), .val (.long (((0 : Int64) + (ca.toInt64)) + (cb.toInt64))), .second, .unset] [(.int cc), (.int (2 : Int32)), (.ref b28)])) rfl rfl (hb hby at_98)
    refine OwnR.of (st32) ?_
    have V32 := Arv.set Ar32 q32 S32 N32q H32 G32 rfl W32 2 rfl (Nat.le_of_ble_eq_true rfl)
    have V32 : Arv Z h32 b28 k28 .int (3 : Int32) [(.int ca), (.int cb), (.int cc)] (.int (0 : Int32)) := V32
    have K32 : Keep h0 h32 [] := Keep.wr K31 W32 (Or.inr sz_b28)
    have N32 := Fr.snoc X32 N31 gn_b28
    show OwnR _ _ _ _ _ _ _ (T32.setTop (mkF m 99 #[.val (.int p1), .val (.int p2), .val (.int p3), .val (.int p4), .val (.int p5), .val (.int (3 : Int32)), .val (.int ca), .val (.int cb), .val (.int cc), .val (.int cd), .val (.ref b28), .val (.ref b29), .val (.long (((0 : Int64) + (ca.toInt64)) + (cb.toInt64))), .second, .unset] []))
    refine OwnR.of (fun _ hr => XS.lload X32.here hx rfl (hb hby at_99) rfl hr) ?_
    show OwnR _ _ _ _ _ _ _ (T32.setTop (mkF m 101 #[.val (.int p1), .val (.int p2), .val (.int p3), .val (.int p4), .val (.int p5), .val (.int (3 : Int32)), .val (.int ca), .val (.int cb), .val (.int cc), .val (.int cd), .val (.ref b28), .val (.ref b29), .val (.long (((0 : Int64) + (ca.toInt64)) + (cb.toInt64))), .second, .unset] [(.long (((0 : Int64) + (ca.toInt64)) + (cb.toInt64)))]))
    refine OwnR.of (fun _ hr => XS.iload X32.here hx rfl (hb hby at_101) rfl hr) ?_
    show OwnR _ _ _ _ _ _ _ (T32.setTop (mkF m 103 #[.val (.int p1), .val (.int p2), .val (.int p3), .val (.int p4), .val (.int p5), .val (.int (3 : Int32)), .val (.int ca), .val (.int cb), .val (.int cc), .val (.int cd), .val (.ref b28), .val (.ref b29), .val (.long (((0 : Int64) + (ca.toInt64)) + (cb.toInt64))), .second, .unset] [(.int cc), (.long (((0 : Int64) + (ca.toInt64)) + (cb.toInt64)))]))
    refine OwnR.of (fun _ hr => XS.i2l X32.here hx rfl (hb hby at_103) rfl hr) ?_
    show OwnR _ _ _ _ _ _ _ (T32.setTop (mkF m 104 #[.val (.int p1), .val (.int p2), .val (.int p3), .val (.int p4), .val (.int p5), .val (.int (3 : Int32)), .val (.int ca), .val (.int cb), .val (.int cc), .val (.int cd), .val (.ref b28), .val (.ref b29), .val (.long (((0 : Int64) + (ca.toInt64)) + (cb.toInt64))), .second, .unset] [(.long (cc.toInt64)), (.long (((0 : Int64) + (ca.toInt64)) + (cb.toInt64)))]))
    refine OwnR.of (fun _ hr => XS.ladd X32.here hx rfl (hb hby at_104) rfl hr) ?_
    show OwnR _ _ _ _ _ _ _ (T32.setTop (mkF m 105 #[.val (.int p1), .val (.int p2), .val (.int p3), .val (.int p4), .val (.int p5), .val (.int (3 : Int32)), .val (.int ca), .val (.int cb), .val (.int cc), .val (.int cd), .val (.ref b28), .val (.ref b29), .val (.long (((0 : Int64) + (ca.toInt64)) + (cb.toInt64))), .second, .unset] [(.long ((((0 : Int64) + (ca.toInt64)) + (cb.toInt64)) + (cc.toInt64)))]))
    refine OwnR.of (fun _ hr => XS.lstore X32.here hx rfl (hb hby at_105) rfl (l' := #[.val (.int p1), .val (.int p2), .val (.int p3), .val (.int p4), .val (.int p5), .val (.int (3 : Int32)), .val (.int ca), .val (.int cb), .val (.int cc), .val (.int cd), .val (.ref b28), .val (.ref b29), .val (.long ((((0 : Int64) + (ca.toInt64)) + (cb.toInt64)) + (cc.toInt64))), .second, .unset]) rfl hr) ?_
    show OwnR _ _ _ _ _ _ _ (T32.setTop (mkF m 107 #[.val (.int p1), .val (.int p2), .val (.int p3), .val (.int p4), .val (.int p5), .val (.int (3 : Int32)), .val (.int ca), .val (.int cb), .val (.int cc), .val (.int cd), .val (.ref b28), .val (.ref b29), .val (.long ((((0 : Int64) + (ca.toInt64)) + (cb.toInt64)) + (cc.toInt64))), .second, .unset] []))
    refine OwnR.of (fun _ hr => XS.iload X32.here hx rfl (hb hby at_107) rfl hr) ?_
    show OwnR _ _ _ _ _ _ _ (T32.setTop (mkF m 109 #[.val (.int p1), .val (.int p2), .val (.int p3), .val (.int p4), .val (.int p5), .val (.int (3 : Int32)), .val (.int ca), .val (.int cb), .val (.int cc), .val (.int cd), .val (.ref b28), .val (.ref b29), .val (.long ((((0 : Int64) + (ca.toInt64)) + (cb.toInt64)) + (cc.toInt64))), .second, .unset] [(.int (3 : Int32))]))
    refine OwnR.of (fun _ hr => XS.iconst X32.here hx rfl (hb hby at_109) hr) ?_
    show OwnR _ _ _ _ _ _ _ (T32.setTop (mkF m 110 #[.val (.int p1), .val (.int p2), .val (.int p3), .val (.int p4), .val (.int p5), .val (.int (3 : Int32)), .val (.int ca), .val (.int cb), .val (.int cc), .val (.int cd), .val (.ref b28), .val (.ref b29), .val (.long ((((0 : Int64) + (ca.toInt64)) + (cb.toInt64)) + (cc.toInt64))), .second, .unset] [(.int (3 : Int32)), (.int (3 : Int32))]))
    refine OwnR.of (fun _ hr => XS.icmpYes X32.here hx rfl (pc0 := 110) (pc' := 127) rfl (hb hby at_110) rfl (flt (by decide : ¬ ((3 : Int32) < (3 : Int32)))).2.2.2 (by decide) (by decide) hr) ?_
    show OwnR _ _ _ _ _ _ _ (T32.setTop (mkF m 127 #[.val (.int p1), .val (.int p2), .val (.int p3), .val (.int p4), .val (.int p5), .val (.int (3 : Int32)), .val (.int ca), .val (.int cb), .val (.int cc), .val (.int cd), .val (.ref b28), .val (.ref b29), .val (.long ((((0 : Int64) + (ca.toInt64)) + (cb.toInt64)) + (cc.toInt64))), .second, .unset] []))
    obtain ⟨T33, h33, X33, e33, E33, A33, D33, -, st33⟩ := newO X32 hx hZ hown (hw _ (List.mem_of_getElem? (i := 11) rfl)) (hw _ (List.mem_of_getElem? (i := 12) rfl)) (hw _ (List.mem_of_getElem? (i := 13) rfl)) e32 (g := (mkF m 127 #[.val (.int p1), .val (.int p2), .val (.int p3), .val (.int p4), .val (.int p5), .val (.int (3 : Int32)), .val (.int ca), .val (.int cb), .val (.int cc), .val (.int cd), .val (.ref b28), .val (.ref b29), .val (.long ((((0 : Int64) + (ca.toInt64)) + (cb.toInt64)) + (cc.toInt64))), .second, .unset] [])) rfl (hb hby at_127) (by decide) (by decide)
    obtain ⟨b33, g33⟩ : ∃ z, z = h32.size := ⟨_, rfl⟩
    rw [← g33] at A33 D33 st33
    refine OwnR.of (st33) ?_
    have gn_b33 : n0 ≤ b33 := Nat.le_trans (Nat.le_trans Z0 K32.1) (Nat.le_of_eq g33.symm)
    have sz_b33 : h0.size ≤ b33 := Nat.le_trans K32.1 (Nat.le_of_eq g33.symm)
    have K33 : Keep h0 h33 [] := Keep.ext K32 E33
    have F_branches_b33 : Fld Z h33 b33 "com/example/ramification/ramification/model/StrahlerOrders" "branches" "[I" .null := D33 (Or.inr (hw _ (List.mem_of_getElem? (i := 30) rfl))) (ty := (.array .int)) (by decide)
    have F_lengths_b33 : Fld Z h33 b33 "com/example/ramification/ramification/model/StrahlerOrders" "lengths" "[D" .null := D33 (Or.inr (hw _ (List.mem_of_getElem? (i := 38) rfl))) (ty := (.array .double)) (by decide)
    have F_unit_b33 : Fld Z h33 b33 "com/example/ramification/ramification/model/StrahlerOrders" "unit" "Ljava/util/Optional;" .null := D33 (Or.inr (hw _ (List.mem_of_getElem? (i := 40) rfl))) (ty := (.object "java/util/Optional")) (by decide)
    show OwnR _ _ _ _ _ _ _ (T33.setTop (mkF m 130 #[.val (.int p1), .val (.int p2), .val (.int p3), .val (.int p4), .val (.int p5), .val (.int (3 : Int32)), .val (.int ca), .val (.int cb), .val (.int cc), .val (.int cd), .val (.ref b28), .val (.ref b29), .val (.long ((((0 : Int64) + (ca.toInt64)) + (cb.toInt64)) + (cc.toInt64))), .second, .unset] [(.ref b33)]))
    refine OwnR.of (fun _ hr => XS.dup X33.here hx rfl (hb hby at_130) rfl rfl hr) ?_
    show OwnR _ _ _ _ _ _ _ (T33.setTop (mkF m 131 #[.val (.int p1), .val (.int p2), .val (.int p3), .val (.int p4), .val (.int p5), .val (.int (3 : Int32)), .val (.int ca), .val (.int cb), .val (.int cc), .val (.int cd), .val (.ref b28), .val (.ref b29), .val (.long ((((0 : Int64) + (ca.toInt64)) + (cb.toInt64)) + (cc.toInt64))), .second, .unset] [(.ref b33), (.ref b33)]))
    refine OwnR.of (fun _ hr => XS.aload X33.here hx rfl (hb hby at_131) rfl rfl hr) ?_
    show OwnR _ _ _ _ _ _ _ (T33.setTop (mkF m 133 #[.val (.int p1), .val (.int p2), .val (.int p3), .val (.int p4), .val (.int p5), .val (.int (3 : Int32)), .val (.int ca), .val (.int cb), .val (.int cc), .val (.int cd), .val (.ref b28), .val (.ref b29), .val (.long ((((0 : Int64) + (ca.toInt64)) + (cb.toInt64)) + (cc.toInt64))), .second, .unset] [(.ref b28), (.ref b33), (.ref b33)]))
    refine OwnR.of (fun _ hr => XS.aload X33.here hx rfl (hb hby at_133) rfl rfl hr) ?_
    show OwnR _ _ _ _ _ _ _ (T33.setTop (mkF m 135 #[.val (.int p1), .val (.int p2), .val (.int p3), .val (.int p4), .val (.int p5), .val (.int (3 : Int32)), .val (.int ca), .val (.int cb), .val (.int cc), .val (.int cd), .val (.ref b28), .val (.ref b29), .val (.long ((((0 : Int64) + (ca.toInt64)) + (cb.toInt64)) + (cc.toInt64))), .second, .unset] [(.ref b29), (.ref b28), (.ref b33), (.ref b33)]))
    refine OwnR.of (fun _ hr => XS.aconstNull X33.here hx rfl (hb hby at_135) hr) ?_
    show OwnR _ _ _ _ _ _ _ (T33.setTop (mkF m 136 #[.val (.int p1), .val (.int p2), .val (.int p3), .val (.int p4), .val (.int p5), .val (.int (3 : Int32)), .val (.int ca), .val (.int cb), .val (.int cc), .val (.int cd), .val (.ref b28), .val (.ref b29), .val (.long ((((0 : Int64) + (ca.toInt64)) + (cb.toInt64)) + (cc.toInt64))), .second, .unset] [.null, (.ref b29), (.ref b28), (.ref b33), (.ref b33)]))
    obtain ⟨_, _, ⟨T34, L34, kc34, ns34⟩, -, X34, ⟨Lc34, hQ34, l34, y34, z34⟩, st34⟩ := X33.specialBack hx (y := (⟨"com/example/ramification/ramification/model/StrahlerOrders", "<init>", "([I[DLjava/util/Optional;)V"⟩ : MethodName)) rfl hown (mvT hZ (hw _ (List.mem_of_getElem? (i := 14) rfl))) (mvT hZ (hw _ (List.mem_of_getElem? (i := 15) rfl))) (mvT hZ (hw _ (List.mem_of_getElem? (i := 16) rfl))) (by decide) (backOf (W := 1) (rm3_3 l Z a0 hw [] b33 b28 b29 k28 k29 ca cb cc h33 n0 (Nat.le_trans Z0 K33.1) A33 F_branches_b33 F_lengths_b33 F_unit_b33 (Arv.ext V32 E33) (Arv.ext (Arv.other (Arv.other (Arv.other V29 W30 (Ne.symm (Nat.ne_of_lt (Nat.lt_of_lt_of_le AE28.lt (Nat.le_of_eq g29.symm))))) W31 (Ne.symm (Nat.ne_of_lt (Nat.lt_of_lt_of_le AE28.lt (Nat.le_of_eq g29.symm))))) W32 (Ne.symm (Nat.ne_of_lt (Nat.lt_of_lt_of_le AE28.lt (Nat.le_of_eq g29.symm))))) E33) (Exa.ext E33 (Exa.wr W32 (Exa.wr W31 (Exa.wr W30 (Exa.ext E29 AE28))))) (Exa.ext E33 (Exa.wr W32 (Exa.wr W31 (Exa.wr W30 AE29)))) gn_b33 (Ne.symm (Nat.ne_of_lt (Nat.lt_of_lt_of_le (Exa.wr W32 (Exa.wr W31 (Exa.wr W30 (Exa.ext E29 AE28)))).lt (Nat.le_of_eq g33.symm)))) (Ne.symm (Nat.ne_of_lt (Nat.lt_of_lt_of_le (Exa.wr W32 (Exa.wr W31 (Exa.wr W30 AE29))).lt (Nat.le_of_eq g33.symm)))) hca1 hcb1 hcc1) hZ (hw _ (List.mem_of_getElem? (i := 16) rfl)) (hw _ (List.mem_of_getElem? (i := 13) rfl)) (by decide) (by decide)) (g := (mkF m 136 #[.val (.int p1), .val (.int p2), .val (.int p3), .val (.int p4), .val (.int p5), .val (.int (3 : Int32)), .val (.int ca), .val (.int cb), .val (.int cc), .val (.int cd), .val (.ref b28), .val (.ref b29), .val (.long ((((0 : Int64) + (ca.toInt64)) + (cb.toInt64)) + (cc.toInt64))), .second, .unset] [.null, (.ref b29), (.ref b28), (.ref b33), (.ref b33)])) rfl (by rw [hml]; rfl) (Steps.refl _) (a := b33) (argsL := [(.ref b28), (.ref b29), .null]) (rest := [(.ref b33)]) (lenOf pd___I_DLjava_util_Optional__V rfl) rfl (by show 2 * 0 + _ ≤ _; exact Nat.le_of_eq rfl) (hb hby at_136) (fun _ _ => ⟨rfl, e33, (by decide : 3 + 2 ≤ _), (by decide : 9 + 6 ≤ _)⟩)
    dsimp only [Pt.U, Pt.locs, Pt.cells, Pt.slots] at X34 l34 y34 z34 st34 hQ34
    subst l34 y34 z34
    obtain ⟨bI_34, rfl, N34q, P34_0, P34_1, P34_2, P34_3⟩ := hQ34
    have K34 : Keep h0 T34.heap [] := Keep.trans K33 P34_0 (allS (Or.inr sz_b33) all0)
    have N34 := Fr.app N32 N34q
    refine OwnR.of (fun _ hr => st34.trans hr) ?_
    show OwnR _ _ _ _ _ _ _ (T34.setTop (mkF m 139 #[.val (.int p1), .val (.int p2), .val (.int p3), .val (.int p4), .val (.int p5), .val (.int (3 : Int32)), .val (.int ca), .val (.int cb), .val (.int cc), .val (.int cd), .val (.ref b28), .val (.ref b29), .val (.long ((((0 : Int64) + (ca.toInt64)) + (cb.toInt64)) + (cc.toInt64))), .second, .unset] [(.ref b33)]))
    refine OwnR.of (fun _ hr => XS.astore X34.here hx rfl (hb hby at_139) rfl rfl (l' := #[.val (.int p1), .val (.int p2), .val (.int p3), .val (.int p4), .val (.int p5), .val (.int (3 : Int32)), .val (.int ca), .val (.int cb), .val (.int cc), .val (.int cd), .val (.ref b28), .val (.ref b29), .val (.long ((((0 : Int64) + (ca.toInt64)) + (cb.toInt64)) + (cc.toInt64))), .second, .val (.ref b33)]) rfl hr) ?_
    show OwnR _ _ _ _ _ _ _ (T34.setTop (mkF m 141 #[.val (.int p1), .val (.int p2), .val (.int p3), .val (.int p4), .val (.int p5), .val (.int (3 : Int32)), .val (.int ca), .val (.int cb), .val (.int cc), .val (.int cd), .val (.ref b28), .val (.ref b29), .val (.long ((((0 : Int64) + (ca.toInt64)) + (cb.toInt64)) + (cc.toInt64))), .second, .val (.ref b33)] []))
    refine OwnR.of (fun _ hr => XS.aload X34.here hx rfl (hb hby at_141) rfl rfl hr) ?_
    show OwnR _ _ _ _ _ _ _ (T34.setTop (mkF m 143 #[.val (.int p1), .val (.int p2), .val (.int p3), .val (.int p4), .val (.int p5), .val (.int (3 : Int32)), .val (.int ca), .val (.int cb), .val (.int cc), .val (.int cd), .val (.ref b28), .val (.ref b29), .val (.long ((((0 : Int64) + (ca.toInt64)) + (cb.toInt64)) + (cc.toInt64))), .second, .val (.ref b33)] [(.ref b33)]))
    obtain ⟨cq35, kq35, q35a, q35b, q35c⟩ := isOf hZ rfl P34_1
    obtain ⟨_, _, ⟨T35, L35, kc35, ns35⟩, -, X35, ⟨Lc35, hQ35, l35, y35, z35⟩, st35⟩ := X34.virtualBack hx (y := (⟨"com/example/ramification/ramification/model/StrahlerOrders", "getTotalBranches", "()J"⟩ : MethodName)) (z := (⟨"com/example/ramification/ramification/model/StrahlerOrders", "getTotalBranches", "()J"⟩ : MethodName)) hown (mvT hZ (hw _ (List.mem_of_getElem? (i := 41) rfl))) (mvT hZ (hw _ (List.mem_of_getElem? (i := 42) rfl))) (notFace_of_selects (args := #[]) (mvT hZ (hw _ (List.mem_of_getElem? (i := 44) rfl)))) (mvT hZ (hw _ (List.mem_of_getElem? (i := 44) rfl))) (mvT hZ (hw _ (List.mem_of_getElem? (i := 43) rfl))) (by decide) (backOf (W := 0) (rm5_3 l Z a0 hw [] b33 bI_34 k28 ca cb cc (T34.heap) n0 (Nat.le_trans Z0 K34.1) P34_1 P34_2 P34_3) hZ (hw _ (List.mem_of_getElem? (i := 45) rfl)) (hw _ (List.mem_of_getElem? (i := 13) rfl)) (by decide) (by decide)) q35a q35c (g := (mkF m 143 #[.val (.int p1), .val (.int p2), .val (.int p3), .val (.int p4), .val (.int p5), .val (.int (3 : Int32)), .val (.int ca), .val (.int cb), .val (.int cc), .val (.int cd), .val (.ref b28), .val (.ref b29), .val (.long ((((0 : Int64) + (ca.toInt64)) + (cb.toInt64)) + (cc.toInt64))), .second, .val (.ref b33)] [(.ref b33)])) rfl (by rw [hml]; rfl) (Steps.refl _) (argsL := []) (rest := []) (lenOf pd___J rfl) rfl (by show 2 * 0 + _ ≤ _; exact Nat.le_of_eq rfl) (hb hby at_143) (fun _ _ => ⟨rfl, rfl, (by decide : 5 + 0 ≤ _), (by decide : 15 + 0 ≤ _)⟩)
    dsimp only [Pt.U, Pt.locs, Pt.cells, Pt.slots] at X35 l35 y35 z35 st35 hQ35
    subst l35 y35 z35
    obtain ⟨rfl, N35q, e35⟩ := hQ35
    have N35 := Fr.app N34 N35q
    refine OwnR.of (fun _ hr => st35.trans hr) ?_
    show OwnR _ _ _ _ _ _ _ (T35.setTop (mkF m 146 #[.val (.int p1), .val (.int p2), .val (.int p3), .val (.int p4), .val (.int p5), .val (.int (3 : Int32)), .val (.int ca), .val (.int cb), .val (.int cc), .val (.int cd), .val (.ref b28), .val (.ref b29), .val (.long ((((0 : Int64) + (ca.toInt64)) + (cb.toInt64)) + (cc.toInt64))), .second, .val (.ref b33)] [(.long ((((0 : Int64) + (ca.toInt64)) + (cb.toInt64)) + (cc.toInt64)))]))
    refine OwnR.of (fun _ hr => XS.lload X35.here hx rfl (hb hby at_146) rfl hr) ?_
    show OwnR _ _ _ _ _ _ _ (T35.setTop (mkF m 148 #[.val (.int p1), .val (.int p2), .val (.int p3), .val (.int p4), .val (.int p5), .val (.int (3 : Int32)), .val (.int ca), .val (.int cb), .val (.int cc), .val (.int cd), .val (.ref b28), .val (.ref b29), .val (.long ((((0 : Int64) + (ca.toInt64)) + (cb.toInt64)) + (cc.toInt64))), .second, .val (.ref b33)] [(.long ((((0 : Int64) + (ca.toInt64)) + (cb.toInt64)) + (cc.toInt64))), (.long ((((0 : Int64) + (ca.toInt64)) + (cb.toInt64)) + (cc.toInt64)))]))
    refine OwnR.of (fun _ hr => XS.lcmp X35.here hx rfl (hb hby at_148) rfl hr) ?_
    show OwnR _ _ _ _ _ _ _ (T35.setTop (mkF m 149 #[.val (.int p1), .val (.int p2), .val (.int p3), .val (.int p4), .val (.int p5), .val (.int (3 : Int32)), .val (.int ca), .val (.int cb), .val (.int cc), .val (.int cd), .val (.ref b28), .val (.ref b29), .val (.long ((((0 : Int64) + (ca.toInt64)) + (cb.toInt64)) + (cc.toInt64))), .second, .val (.ref b33)] [(.int (lcmpW ((((0 : Int64) + (ca.toInt64)) + (cb.toInt64)) + (cc.toInt64)) ((((0 : Int64) + (ca.toInt64)) + (cb.toInt64)) + (cc.toInt64))))]))
    refine OwnR.of (fun _ hr => XS.ifNo X35.here hx rfl (hb hby at_149) rfl ((if0 _ _).trans (teq ((own_lceq _ _).mpr rfl)).2) hr) ?_
    show OwnR _ _ _ _ _ _ _ (T35.setTop (mkF m 152 #[.val (.int p1), .val (.int p2), .val (.int p3), .val (.int p4), .val (.int p5), .val (.int (3 : Int32)), .val (.int ca), .val (.int cb), .val (.int cc), .val (.int cd), .val (.ref b28), .val (.ref b29), .val (.long ((((0 : Int64) + (ca.toInt64)) + (cb.toInt64)) + (cc.toInt64))), .second, .val (.ref b33)] []))
    refine OwnR.of (fun _ hr => XS.iconst X35.here hx rfl (hb hby at_152) hr) ?_
    show OwnR _ _ _ _ _ _ _ (T35.setTop (mkF m 153 #[.val (.int p1), .val (.int p2), .val (.int p3), .val (.int p4), .val (.int p5), .val (.int (3 : Int32)), .val (.int ca), .val (.int cb), .val (.int cc), .val (.int cd), .val (.ref b28), .val (.ref b29), .val (.long ((((0 : Int64) + (ca.toInt64)) + (cb.toInt64)) + (cc.toInt64))), .second, .val (.ref b33)] [(.int (1 : Int32))]))
    refine OwnR.of (fun _ hr => XS.goto X35.here hx rfl (pc0 := 153) (pc' := 157) rfl (hb hby at_153) (by decide) (by decide) hr) ?_
    show OwnR _ _ _ _ _ _ _ (T35.setTop (mkF m 157 #[.val (.int p1), .val (.int p2), .val (.int p3), .val (.int p4), .val (.int p5), .val (.int (3 : Int32)), .val (.int ca), .val (.int cb), .val (.int cc), .val (.int cd), .val (.ref b28), .val (.ref b29), .val (.long ((((0 : Int64) + (ca.toInt64)) + (cb.toInt64)) + (cc.toInt64))), .second, .val (.ref b33)] [(.int (1 : Int32))]))
    refine own_leafN X35 hx hlk (t := .boolean) Bd.returns (by simp) (hb hby at_157) (z' := (1 : Int32)) rfl (by decide) (by decide) ?_
    show Q0 Z  h0 n0 _ T35.heap _
    rw [show T35.heap = T34.heap from e35]
    refine ⟨?_, N35⟩
    show (some (.int (1 : Int32)) : Option Value) = some (.int (1 : Int32))
    rfl
  · skip
    show OwnR _ _ _ _ _ _ _ (T9.setTop (mkF m 33 #[.val (.int p1), .val (.int p2), .val (.int p3), .val (.int p4), .val (.int p5), .val (.int (4 : Int32)), .val (.int ca), .val (.int cb), .val (.int cc), .val (.int cd), .unset, .unset, .unset, .unset, .unset] []))
    refine OwnR.of (fun _ hr => XS.iload X9.here hx rfl (hb hby at_33) rfl hr) ?_
    show OwnR _ _ _ _ _ _ _ (T9.setTop (mkF m 35 #[.val (.int p1), .val (.int p2), .val (.int p3), .val (.int p4), .val (.int p5), .val (.int (4 : Int32)), .val (.int ca), .val (.int cb), .val (.int cc), .val (.int cd), .unset, .unset, .unset, .unset, .unset] [(.int (4 : Int32))]))
    obtain ⟨T36, h36, k36, X36, e36, E36, A36, AE36, st36⟩ := newPE X9 hx hZ (hw _ (List.mem_of_getElem? (i := 9) rfl)) e9 (g := (mkF m 35 #[.val (.int p1), .val (.int p2), .val (.int p3), .val (.int p4), .val (.int p5), .val (.int (4 : Int32)), .val (.int ca), .val (.int cb), .val (.int cc), .val (.int cd), .unset, .unset, .unset, .unset, .unset] [(.int (4 : Int32))])) rfl (hb hby at_35) rfl (by decide) (cap := 4) (by decide) (by decide) (by decide) (by decide) (ad := "[I") rfl
    obtain ⟨b36, g36⟩ : ∃ z, z = h0.size := ⟨_, rfl⟩
    rw [← g36] at A36 AE36 st36
    refine OwnR.of (st36) ?_
    have gn_b36 : n0 ≤ b36 := Nat.le_trans (Nat.le_trans Z0 (Keep.refl h0 []).1) (Nat.le_of_eq g36.symm)
    have sz_b36 : h0.size ≤ b36 := Nat.le_trans (Keep.refl h0 []).1 (Nat.le_of_eq g36.symm)
    have K36 : Keep h0 h36 [] := Keep.ext (Keep.refl h0 []) E36
    have V36 : Arv Z h36 b36 k36 .int (4 : Int32) [(.int (0 : Int32)), (.int (0 : Int32)), (.int (0 : Int32)), (.int (0 : Int32))] (.int (0 : Int32)) := (Arv.new A36 (by decide)).pad (pad_rep [] (.int (0 : Int32)) 4)
    show OwnR _ _ _ _ _ _ _ (T36.setTop (mkF m 37 #[.val (.int p1), .val (.int p2), .val (.int p3), .val (.int p4), .val (.int p5), .val (.int (4 : Int32)), .val (.int ca), .val (.int cb), .val (.int cc), .val (.int cd), .unset, .unset, .unset, .unset, .unset] [(.ref b36)]))
    refine OwnR.of (fun _ hr => XS.astore X36.here hx rfl (hb hby at_37) rfl rfl (l' := #[.val (.int p1), .val (.int p2), .val (.int p3), .val (.int p4), .val (.int p5), .val (.int (4 : Int32)), .val (.int ca), .val (.int cb), .val (.int cc), .val (.int cd), .val (.ref b36), .unset, .unset, .unset, .unset]) rfl hr) ?_
    show OwnR _ _ _ _ _ _ _ (T36.setTop (mkF m 39 #[.val (.int p1), .val (.int p2), .val (.int p3), .val (.int p4), .val (.int p5), .val (.int (4 : Int32)), .val (.int ca), .val (.int cb), .val (.int cc), .val (.int cd), .val (.ref b36), .unset, .unset, .unset, .unset] []))
    refine OwnR.of (fun _ hr => XS.iload X36.here hx rfl (hb hby at_39) rfl hr) ?_
    show OwnR _ _ _ _ _ _ _ (T36.setTop (mkF m 41 #[.val (.int p1), .val (.int p2), .val (.int p3), .val (.int p4), .val (.int p5), .val (.int (4 : Int32)), .val (.int ca), .val (.int cb), .val (.int cc), .val (.int cd), .val (.ref b36), .unset, .unset, .unset, .unset] [(.int (4 : Int32))]))
    obtain ⟨T37, h37, k37, X37, e37, E37, A37, AE37, st37⟩ := newPE X36 hx hZ (hw _ (List.mem_of_getElem? (i := 10) rfl)) e36 (g := (mkF m 41 #[.val (.int p1), .val (.int p2), .val (.int p3), .val (.int p4), .val (.int p5), .val (.int (4 : Int32)), .val (.int ca), .val (.int cb), .val (.int cc), .val (.int cd), .val (.ref b36), .unset, .unset, .unset, .unset] [(.int (4 : Int32))])) rfl (hb hby at_41) rfl (by decide) (cap := 4) (by decide) (by decide) (by decide) (by decide) (ad := "[D") rfl
    obtain ⟨b37, g37⟩ : ∃ z, z = h36.size := ⟨_, rfl⟩
    rw [← g37] at A37 AE37 st37
    refine OwnR.of (st37) ?_
    have gn_b37 : n0 ≤ b37 := Nat.le_trans (Nat.le_trans Z0 K36.1) (Nat.le_of_eq g37.symm)
    have sz_b37 : h0.size ≤ b37 := Nat.le_trans K36.1 (Nat.le_of_eq g37.symm)
    have K37 : Keep h0 h37 [] := Keep.ext K36 E37
    have V37 : Arv Z h37 b37 k37 .double (4 : Int32) [(defaultValue .double), (defaultValue .double), (defaultValue .double), (defaultValue .double)] (defaultValue .double) := (Arv.new A37 (by decide)).pad (pad_rep [] (defaultValue .double) 4)
    show OwnR _ _ _ _ _ _ _ (T37.setTop (mkF m 43 #[.val (.int p1), .val (.int p2), .val (.int p3), .val (.int p4), .val (.int p5), .val (.int (4 : Int32)), .val (.int ca), .val (.int cb), .val (.int cc), .val (.int cd), .val (.ref b36), .unset, .unset, .unset, .unset] [(.ref b37)]))
    refine OwnR.of (fun _ hr => XS.astore X37.here hx rfl (hb hby at_43) rfl rfl (l' := #[.val (.int p1), .val (.int p2), .val (.int p3), .val (.int p4), .val (.int p5), .val (.int (4 : Int32)), .val (.int ca), .val (.int cb), .val (.int cc), .val (.int cd), .val (.ref b36), .val (.ref b37), .unset, .unset, .unset]) rfl hr) ?_
    show OwnR _ _ _ _ _ _ _ (T37.setTop (mkF m 45 #[.val (.int p1), .val (.int p2), .val (.int p3), .val (.int p4), .val (.int p5), .val (.int (4 : Int32)), .val (.int ca), .val (.int cb), .val (.int cc), .val (.int cd), .val (.ref b36), .val (.ref b37), .unset, .unset, .unset] []))
    refine OwnR.of (fun _ hr => XS.lconst X37.here hx rfl (hb hby at_45) hr) ?_
    show OwnR _ _ _ _ _ _ _ (T37.setTop (mkF m 46 #[.val (.int p1), .val (.int p2), .val (.int p3), .val (.int p4), .val (.int p5), .val (.int (4 : Int32)), .val (.int ca), .val (.int cb), .val (.int cc), .val (.int cd), .val (.ref b36), .val (.ref b37), .unset, .unset, .unset] [(.long (0 : Int64))]))
    refine OwnR.of (fun _ hr => XS.lstore X37.here hx rfl (hb hby at_46) rfl (l' := #[.val (.int p1), .val (.int p2), .val (.int p3), .val (.int p4), .val (.int p5), .val (.int (4 : Int32)), .val (.int ca), .val (.int cb), .val (.int cc), .val (.int cd), .val (.ref b36), .val (.ref b37), .val (.long (0 : Int64)), .second, .unset]) rfl hr) ?_
    show OwnR _ _ _ _ _ _ _ (T37.setTop (mkF m 48 #[.val (.int p1), .val (.int p2), .val (.int p3), .val (.int p4), .val (.int p5), .val (.int (4 : Int32)), .val (.int ca), .val (.int cb), .val (.int cc), .val (.int cd), .val (.ref b36), .val (.ref b37), .val (.long (0 : Int64)), .second, .unset] []))
    refine OwnR.of (fun _ hr => XS.iload X37.here hx rfl (hb hby at_48) rfl hr) ?_
    show OwnR _ _ _ _ _ _ _ (T37.setTop (mkF m 50 #[.val (.int p1), .val (.int p2), .val (.int p3), .val (.int p4), .val (.int p5), .val (.int (4 : Int32)), .val (.int ca), .val (.int cb), .val (.int cc), .val (.int cd), .val (.ref b36), .val (.ref b37), .val (.long (0 : Int64)), .second, .unset] [(.int (4 : Int32))]))
    refine OwnR.of (fun _ hr => XS.ifNo X37.here hx rfl (hb hby at_50) rfl ((if0 _ _).trans (tlt (by decide : (0 : Int32) < (4 : Int32))).2.2.2) hr) ?_
    show OwnR _ _ _ _ _ _ _ (T37.setTop (mkF m 53 #[.val (.int p1), .val (.int p2), .val (.int p3), .val (.int p4), .val (.int p5), .val (.int (4 : Int32)), .val (.int ca), .val (.int cb), .val (.int cc), .val (.int cd), .val (.ref b36), .val (.ref b37), .val (.long (0 : Int64)), .second, .unset] []))
    refine OwnR.of (fun _ hr => XS.aload X37.here hx rfl (hb hby at_53) rfl rfl hr) ?_
    show OwnR _ _ _ _ _ _ _ (T37.setTop (mkF m 55 #[.val (.int p1), .val (.int p2), .val (.int p3), .val (.int p4), .val (.int p5), .val (.int (4 : Int32)), .val (.int ca), .val (.int cb), .val (.int cc), .val (.int cd), .val (.ref b36), .val (.ref b37), .val (.long (0 : Int64)), .second, .unset] [(.ref b36)]))
    refine OwnR.of (fun _ hr => XS.iconst X37.here hx rfl (hb hby at_55) hr) ?_
    show OwnR _ _ _ _ _ _ _ (T37.setTop (mkF m 56 #[.val (.int p1), .val (.int p2), .val (.int p3), .val (.int p4), .val (.int p5), .val (.int (4 : Int32)), .val (.int ca), .val (.int cb), .val (.int cc), .val (.int cd), .val (.ref b36), .val (.ref b37), .val (.long (0 : Int64)), .second, .unset] [(.int (0 : Int32)), (.ref b36)]))
    refine OwnR.of (fun _ hr => XS.iload X37.here hx rfl (hb hby at_56) rfl hr) ?_
    show OwnR _ _ _ _ _ _ _ (T37.setTop (mkF m 58 #[.val (.int p1), .val (.int p2), .val (.int p3), .val (.int p4), .val (.int p5), .val (.int (4 : Int32)), .val (.int ca), .val (.int cb), .val (.int cc), .val (.int cd), .val (.ref b36), .val (.ref b37), .val (.long (0 : Int64)), .second, .unset] [(.int ca), (.int (0 : Int32)), (.ref b36)]))
    obtain ⟨cl38, Ar38, q38, S38, N38q, H38, G38⟩ := id (Arv.ext V36 E37)
    have hin38 : ¬ ((0 : Int32) < 0 ∨ cl38.slots.size ≤ ((0 : Int32)).toNatClampNeg) := (inb_of S38 ⟨by decide, by decide⟩)
    obtain ⟨T38, h38, X38, e38, W38, st38⟩ := stI X37 hx hZ e37 Ar38 (j := (0 : Int32)) hin38 (g := (mkF m 58 #[.val (.int p1), .val (.int p2), .val (.int p3), .val (.int p4), .val (.int p5), .val (.int (4 : Int32)), .val (.int ca), .val (.int cb), .val (.int cc), .val (.int cd), .val (.ref b36), .val (.ref b37), .val (.long (0 : Int64)), .second, .unset] [(.int ca), (.int (0 : Int32)), (.ref b36)])) rfl rfl (hb hby at_58)
    refine OwnR.of (st38) ?_
    have V38 := Arv.set Ar38 q38 S38 N38q H38 G38 rfl W38 0 rfl (Nat.le_of_ble_eq_true rfl)
    have V38 : Arv Z h38 b36 k36 .int (4 : Int32) [(.int ca), (.int (0 : Int32)), (.int (0 : Int32)), (.int (0 : Int32))] (.int (0 : Int32)) := V38
    have K38 : Keep h0 h38 [] := Keep.wr K37 W38 (Or.inr sz_b36)
    have N38 := Fr.snoc X38 N9 gn_b36
    show OwnR _ _ _ _ _ _ _ (T38.setTop (mkF m 59 #[.val (.int p1), .val (.int p2), .val (.int p3), .val (.int p4), .val (.int p5), .val (.int (4 : Int32)), .val (.int ca), .val (.int cb), .val (.int cc), .val (.int cd), .val (.ref b36), .val (.ref b37), .val (.long (0 : Int64)), .second, .unset] []))
    refine OwnR.of (fun _ hr => XS.lload X38.here hx rfl (hb hby at_59) rfl hr) ?_
    show OwnR _ _ _ _ _ _ _ (T38.setTop (mkF m 61 #[.val (.int p1), .val (.int p2), .val (.int p3), .val (.int p4), .val (.int p5), .val (.int (4 : Int32)), .val (.int ca), .val (.int cb), .val (.int cc), .val (.int cd), .val (.ref b36), .val (.ref b37), .val (.long (0 : Int64)), .second, .unset] [(.long (0 : Int64))]))
    refine OwnR.of (fun _ hr => XS.iload X38.here hx rfl (hb hby at_61) rfl hr) ?_
    show OwnR _ _ _ _ _ _ _ (T38.setTop (mkF m 63 #[.val (.int p1), .val (.int p2), .val (.int p3), .val (.int p4), .val (.int p5), .val (.int (4 : Int32)), .val (.int ca), .val (.int cb), .val (.int cc), .val (.int cd), .val (.ref b36), .val (.ref b37), .val (.long (0 : Int64)), .second, .unset] [(.int ca), (.long (0 : Int64))]))
    refine OwnR.of (fun _ hr => XS.i2l X38.here hx rfl (hb hby at_63) rfl hr) ?_
    show OwnR _ _ _ _ _ _ _ (T38.setTop (mkF m 64 #[.val (.int p1), .val (.int p2), .val (.int p3), .val (.int p4), .val (.int p5), .val (.int (4 : Int32)), .val (.int ca), .val (.int cb), .val (.int cc), .val (.int cd), .val (.ref b36), .val (.ref b37), .val (.long (0 : Int64)), .second, .unset] [(.long (ca.toInt64)), (.long (0 : Int64))]))
    refine OwnR.of (fun _ hr => XS.ladd X38.here hx rfl (hb hby at_64) rfl hr) ?_
    show OwnR _ _ _ _ _ _ _ (T38.setTop (mkF m 65 #[.val (.int p1), .val (.int p2), .val (.int p3), .val (.int p4), .val (.int p5), .val (.int (4 : Int32)), .val (.int ca), .val (.int cb), .val (.int cc), .val (.int cd), .val (.ref b36), .val (.ref b37), .val (.long (0 : Int64)), .second, .unset] [(.long ((0 : Int64) + (ca.toInt64)))]))
    refine OwnR.of (fun _ hr => XS.lstore X38.here hx rfl (hb hby at_65) rfl (l' := #[.val (.int p1), .val (.int p2), .val (.int p3), .val (.int p4), .val (.int p5), .val (.int (4 : Int32)), .val (.int ca), .val (.int cb), .val (.int cc), .val (.int cd), .val (.ref b36), .val (.ref b37), .val (.long ((0 : Int64) + (ca.toInt64))), .second, .unset]) rfl hr) ?_
    show OwnR _ _ _ _ _ _ _ (T38.setTop (mkF m 67 #[.val (.int p1), .val (.int p2), .val (.int p3), .val (.int p4), .val (.int p5), .val (.int (4 : Int32)), .val (.int ca), .val (.int cb), .val (.int cc), .val (.int cd), .val (.ref b36), .val (.ref b37), .val (.long ((0 : Int64) + (ca.toInt64))), .second, .unset] []))
    refine OwnR.of (fun _ hr => XS.iload X38.here hx rfl (hb hby at_67) rfl hr) ?_
    show OwnR _ _ _ _ _ _ _ (T38.setTop (mkF m 69 #[.val (.int p1), .val (.int p2), .val (.int p3), .val (.int p4), .val (.int p5), .val (.int (4 : Int32)), .val (.int ca), .val (.int cb), .val (.int cc), .val (.int cd), .val (.ref b36), .val (.ref b37), .val (.long ((0 : Int64) + (ca.toInt64))), .second, .unset] [(.int (4 : Int32))]))
    refine OwnR.of (fun _ hr => XS.iconst X38.here hx rfl (hb hby at_69) hr) ?_
    show OwnR _ _ _ _ _ _ _ (T38.setTop (mkF m 70 #[.val (.int p1), .val (.int p2), .val (.int p3), .val (.int p4), .val (.int p5), .val (.int (4 : Int32)), .val (.int ca), .val (.int cb), .val (.int cc), .val (.int cd), .val (.ref b36), .val (.ref b37), .val (.long ((0 : Int64) + (ca.toInt64))), .second, .unset] [(.int (1 : Int32)), (.int (4 : Int32))]))
    refine OwnR.of (fun _ hr => XS.icmpNo X38.here hx rfl (hb hby at_70) rfl (tlt (by decide : (1 : Int32) < (4 : Int32))).2.2.2 hr) ?_
    show OwnR _ _ _ _ _ _ _ (T38.setTop (mkF m 73 #[.val (.int p1), .val (.int p2), .val (.int p3), .val (.int p4), .val (.int p5), .val (.int (4 : Int32)), .val (.int ca), .val (.int cb), .val (.int cc), .val (.int cd), .val (.ref b36), .val (.ref b37), .val (.long ((0 : Int64) + (ca.toInt64))), .second, .unset] []))
    refine OwnR.of (fun _ hr => XS.aload X38.here hx rfl (hb hby at_73) rfl rfl hr) ?_
    show OwnR _ _ _ _ _ _ _ (T38.setTop (mkF m 75 #[.val (.int p1), .val (.int p2), .val (.int p3), .val (.int p4), .val (.int p5), .val (.int (4 : Int32)), .val (.int ca), .val (.int cb), .val (.int cc), .val (.int cd), .val (.ref b36), .val (.ref b37), .val (.long ((0 : Int64) + (ca.toInt64))), .second, .unset] [(.ref b36)]))
    refine OwnR.of (fun _ hr => XS.iconst X38.here hx rfl (hb hby at_75) hr) ?_
    show OwnR _ _ _ _ _ _ _ (T38.setTop (mkF m 76 #[.val (.int p1), .val (.int p2), .val (.int p3), .val (.int p4), .val (.int p5), .val (.int (4 : Int32)), .val (.int ca), .val (.int cb), .val (.int cc), .val (.int cd), .val (.ref b36), .val (.ref b37), .val (.long ((0 : Int64) + (ca.toInt64))), .second, .unset] [(.int (1 : Int32)), (.ref b36)]))
    refine OwnR.of (fun _ hr => XS.iload X38.here hx rfl (hb hby at_76) rfl hr) ?_
    show OwnR _ _ _ _ _ _ _ (T38.setTop (mkF m 78 #[.val (.int p1), .val (.int p2), .val (.int p3), .val (.int p4), .val (.int p5), .val (.int (4 : Int32)), .val (.int ca), .val (.int cb), .val (.int cc), .val (.int cd), .val (.ref b36), .val (.ref b37), .val (.long ((0 : Int64) + (ca.toInt64))), .second, .unset] [(.int cb), (.int (1 : Int32)), (.ref b36)]))
    obtain ⟨cl39, Ar39, q39, S39, N39q, H39, G39⟩ := id V38
    have hin39 : ¬ ((1 : Int32) < 0 ∨ cl39.slots.size ≤ ((1 : Int32)).toNatClampNeg) := (inb_of S39 ⟨by decide, by decide⟩)
    obtain ⟨T39, h39, X39, e39, W39, st39⟩ := stI X38 hx hZ e38 Ar39 (j := (1 : Int32)) hin39 (g := (mkF m 78 #[.val (.int p1), .val (.int p2), .val (.int p3), .val (.int p4), .val (.int p5), .val (.int (4 : Int32)), .val (.int ca), .val (.int cb), .val (.int cc), .val (.int cd), .val (.ref b36), .val (.ref b37), .val (.long ((0 : Int64) + (ca.toInt64))), .second, .unset] [(.int cb), (.int (1 : Int32)), (.ref b36)])) rfl rfl (hb hby at_78)
    refine OwnR.of (st39) ?_
    have V39 := Arv.set Ar39 q39 S39 N39q H39 G39 rfl W39 1 rfl (Nat.le_of_ble_eq_true rfl)
    have V39 : Arv Z h39 b36 k36 .int (4 : Int32) [(.int ca), (.int cb), (.int (0 : Int32)), (.int (0 : Int32))] (.int (0 : Int32)) := V39
    have K39 : Keep h0 h39 [] := Keep.wr K38 W39 (Or.inr sz_b36)
    have N39 := Fr.snoc X39 N38 gn_b36
    show OwnR _ _ _ _ _ _ _ (T39.setTop (mkF m 79 #[.val (.int p1), .val (.int p2), .val (.int p3), .val (.int p4), .val (.int p5), .val (.int (4 : Int32)), .val (.int ca), .val (.int cb), .val (.int cc), .val (.int cd), .val (.ref b36), .val (.ref b37), .val (.long ((0 : Int64) + (ca.toInt64))), .second, .unset] []))
    refine OwnR.of (fun _ hr => XS.lload X39.here hx rfl (hb hby at_79) rfl hr) ?_
    show OwnR _ _ _ _ _ _ _ (T39.setTop (mkF m 81 #[.val (.int p1), .val (.int p2), .val (.int p3), .val (.int p4), .val (.int p5), .val (.int (4 : Int32)), .val (.int ca), .val (.int cb), .val (.int cc), .val (.int cd), .val (.ref b36), .val (.ref b37), .val (.long ((0 : Int64) + (ca.toInt64))), .second, .unset] [(.long ((0 : Int64) + (ca.toInt64)))]))
    refine OwnR.of (fun _ hr => XS.iload X39.here hx rfl (hb hby at_81) rfl hr) ?_
    show OwnR _ _ _ _ _ _ _ (T39.setTop (mkF m 83 #[.val (.int p1), .val (.int p2), .val (.int p3), .val (.int p4), .val (.int p5), .val (.int (4 : Int32)), .val (.int ca), .val (.int cb), .val (.int cc), .val (.int cd), .val (.ref b36), .val (.ref b37), .val (.long ((0 : Int64) + (ca.toInt64))), .second, .unset] [(.int cb), (.long ((0 : Int64) + (ca.toInt64)))]))
    refine OwnR.of (fun _ hr => XS.i2l X39.here hx rfl (hb hby at_83) rfl hr) ?_
    show OwnR _ _ _ _ _ _ _ (T39.setTop (mkF m 84 #[.val (.int p1), .val (.int p2), .val (.int p3), .val (.int p4), .val (.int p5), .val (.int (4 : Int32)), .val (.int ca), .val (.int cb), .val (.int cc), .val (.int cd), .val (.ref b36), .val (.ref b37), .val (.long ((0 : Int64) + (ca.toInt64))), .second, .unset] [(.long (cb.toInt64)), (.long ((0 : Int64) + (ca.toInt64)))]))
    refine OwnR.of (fun _ hr => XS.ladd X39.here hx rfl (hb hby at_84) rfl hr) ?_
    show OwnR _ _ _ _ _ _ _ (T39.setTop (mkF m 85 #[.val (.int p1), .val (.int p2), .val (.int p3), .val (.int p4), .val (.int p5), .val (.int (4 : Int32)), .val (.int ca), .val (.int cb), .val (.int cc), .val (.int cd), .val (.ref b36), .val (.ref b37), .val (.long ((0 : Int64) + (ca.toInt64))), .second, .unset] [(.long (((0 : Int64) + (ca.toInt64)) + (cb.toInt64)))]))
    refine OwnR.of (fun _ hr => XS.lstore X39.here hx rfl (hb hby at_85) rfl (l' := #[.val (.int p1), .val (.int p2), .val (.int p3), .val (.int p4), .val (.int p5), .val (.int (4 : Int32)), .val (.int ca), .val (.int cb), .val (.int cc), .val (.int cd), .val (.ref b36), .val (.ref b37), .val (.long (((0 : Int64) + (ca.toInt64)) + (cb.toInt64))), .second, .unset]) rfl hr) ?_
    show OwnR _ _ _ _ _ _ _ (T39.setTop (mkF m 87 #[.val (.int p1), .val (.int p2), .val (.int p3), .val (.int p4), .val (.int p5), .val (.int (4 : Int32)), .val (.int ca), .val (.int cb), .val (.int cc), .val (.int cd), .val (.ref b36), .val (.ref b37), .val (.long (((0 : Int64) + (ca.toInt64)) + (cb.toInt64))), .second, .unset] []))
    refine OwnR.of (fun _ hr => XS.iload X39.here hx rfl (hb hby at_87) rfl hr) ?_
    show OwnR _ _ _ _ _ _ _ (T39.setTop (mkF m 89 #[.val (.int p1), .val (.int p2), .val (.int p3), .val (.int p4), .val (.int p5), .val (.int (4 : Int32)), .val (.int ca), .val (.int cb), .val (.int cc), .val (.int cd), .val (.ref b36), .val (.ref b37), .val (.long (((0 : Int64) + (ca.toInt64)) + (cb.toInt64))), .second, .unset] [(.int (4 : Int32))]))
    refine OwnR.of (fun _ hr => XS.iconst X39.here hx rfl (hb hby at_89) hr) ?_
    show OwnR _ _ _ _ _ _ _ (T39.setTop (mkF m 90 #[.val (.int p1), .val (.int p2), .val (.int p3), .val (.int p4), .val (.int p5), .val (.int (4 : Int32)), .val (.int ca), .val (.int cb), .val (.int cc), .val (.int cd), .val (.ref b36), .val (.ref b37), .val (.long (((0 : Int64) + (ca.toInt64)) + (cb.toInt64))), .second, .unset] [(.int (2 : Int32)), (.int (4 : Int32))]))
    refine OwnR.of (fun _ hr => XS.icmpNo X39.here hx rfl (hb hby at_90) rfl (tlt (by decide : (2 : Int32) < (4 : Int32))).2.2.2 hr) ?_
    show OwnR _ _ _ _ _ _ _ (T39.setTop (mkF m 93 #[.val (.int p1), .val (.int p2), .val (.int p3), .val (.int p4), .val (.int p5), .val (.int (4 : Int32)), .val (.int ca), .val (.int cb), .val (.int cc), .val (.int cd), .val (.ref b36), .val (.ref b37), .val (.long (((0 : Int64) + (ca.toInt64)) + (cb.toInt64))), .second, .unset] []))
    refine OwnR.of (fun _ hr => XS.aload X39.here hx rfl (hb hby at_93) rfl rfl hr) ?_
    show OwnR _ _ _ _ _ _ _ (T39.setTop (mkF m 95 #[.val (.int p1), .val (.int p2), .val (.int p3), .val (.int p4), .val (.int p5), .val (.int (4 : Int32)), .val (.int ca), .val (.int cb), .val (.int cc), .val (.int cd), .val (.ref b36), .val (.ref b37), .val (.long (((0 : Int64) + (ca.toInt64)) + (cb.toInt64))), .second, .unset] [(.ref b36)]))
    refine OwnR.of (fun _ hr => XS.iconst X39.here hx rfl (hb hby at_95) hr) ?_
    show OwnR _ _ _ _ _ _ _ (T39.setTop (mkF m 96 #[.val (.int p1), .val (.int p2), .val (.int p3), .val (.int p4), .val (.int p5), .val (.int (4 : Int32)), .val (.int ca), .val (.int cb), .val (.int cc), .val (.int cd), .val (.ref b36), .val (.ref b37), .val (.long (((0 : Int64) + (ca.toInt64)) + (cb.toInt64))), .second, .unset] [(.int (2 : Int32)), (.ref b36)]))
    refine OwnR.of (fun _ hr => XS.iload X39.here hx rfl (hb hby at_96) rfl hr) ?_
    show OwnR _ _ _ _ _ _ _ (T39.setTop (mkF m 98 #[.val (.int p1), .val (.int p2), .val (.int p3), .val (.int p4), .val (.int p5), .val (.int (4 : Int32)), .val (.int ca), .val (.int cb), .val (.int cc), .val (.int cd), .val (.ref b36), .val (.ref b37), .val (.long (((0 : Int64) + (ca.toInt64)) + (cb.toInt64))), .second, .unset] [(.int cc), (.int (2 : Int32)), (.ref b36)]))
    obtain ⟨cl40, Ar40, q40, S40, N40q, H40, G40⟩ := id V39
    have hin40 : ¬ ((2 : Int32) < 0 ∨ cl40.slots.size ≤ ((2 : Int32)).toNatClampNeg) := (inb_of S40 ⟨by decide, by decide⟩)
    obtain ⟨T40, h40, X40, e40, W40, st40⟩ := stI X39 hx hZ e39 Ar40 (j := (2 : Int32)) hin40 (g := (mkF m 98 #[.val (.int p1), .val (.int p2), .val (.int p3), .val (.int p4), .val (.int p5), .val (.int (4 : Int32)), .val (.int ca), .val (.int cb), .val (.int cc), .val (.int cd), .val (.ref b36), .val (.ref b37), .val (.long (((0 : Int64) + (ca.toInt64)) + (cb.toInt64))), .second, .unset] [(.int cc), (.int (2 : Int32)), (.ref b36)])) rfl rfl (hb hby at_98)
    refine OwnR.of (st40) ?_
    have V40 := Arv.set Ar40 q40 S40 N40q H40 G40 rfl W40 2 rfl (Nat.le_of_ble_eq_true rfl)
    have V40 : Arv Z h40 b36 k36 .int (4 : Int32) [(.int ca), (.int cb), (.int cc), (.int (0 : Int32))] (.int (0 : Int32)) := V40
    have K40 : Keep h0 h40 [] := Keep.wr K39 W40 (Or.inr sz_b36)
    have N40 := Fr.snoc X40 N39 gn_b36
    show OwnR _ _ _ _ _ _ _ (T40.setTop (mkF m 99 #[.val (.int p1), .val (.int p2), .val (.int p3), .val (.int p4), .val (.int p5), .val (.int (4 : Int32)), .val (.int ca), .val (.int cb), .val (.int cc), .val (.int cd), .val (.ref b36), .val (.ref b37), .val (.long (((0 : Int64) + (ca.toInt64)) + (cb.toInt64))), .second, .unset] []))
    refine OwnR.of (fun _ hr => XS.lload X40.here hx rfl (hb hby at_99) rfl hr) ?_
    show OwnR _ _ _ _ _ _ _ (T40.setTop (mkF m 101 #[.val (.int p1), .val (.int p2), .val (.int p3), .val (.int p4), .val (.int p5), .val (.int (4 : Int32)), .val (.int ca), .val (.int cb), .val (.int cc), .val (.int cd), .val (.ref b36), .val (.ref b37), .val (.long (((0 : Int64) + (ca.toInt64)) + (cb.toInt64))), .second, .unset] [(.long (((0 : Int64) + (ca.toInt64)) + (cb.toInt64)))]))
    refine OwnR.of (fun _ hr => XS.iload X40.here hx rfl (hb hby at_101) rfl hr) ?_
    show OwnR _ _ _ _ _ _ _ (T40.setTop (mkF m 103 #[.val (.int p1), .val (.int p2), .val (.int p3), .val (.int p4), .val (.int p5), .val (.int (4 : Int32)), .val (.int ca), .val (.int cb), .val (.int cc), .val (.int cd), .val (.ref b36), .val (.ref b37), .val (.long (((0 : Int64) + (ca.toInt64)) + (cb.toInt64))), .second, .unset] [(.int cc), (.long (((0 : Int64) + (ca.toInt64)) + (cb.toInt64)))]))
    refine OwnR.of (fun _ hr => XS.i2l X40.here hx rfl (hb hby at_103) rfl hr) ?_
    show OwnR _ _ _ _ _ _ _ (T40.setTop (mkF m 104 #[.val (.int p1), .val (.int p2), .val (.int p3), .val (.int p4), .val (.int p5), .val (.int (4 : Int32)), .val (.int ca), .val (.int cb), .val (.int cc), .val (.int cd), .val (.ref b36), .val (.ref b37), .val (.long (((0 : Int64) + (ca.toInt64)) + (cb.toInt64))), .second, .unset] [(.long (cc.toInt64)), (.long (((0 : Int64) + (ca.toInt64)) + (cb.toInt64)))]))
    refine OwnR.of (fun _ hr => XS.ladd X40.here hx rfl (hb hby at_104) rfl hr) ?_
    show OwnR _ _ _ _ _ _ _ (T40.setTop (mkF m 105 #[.val (.int p1), .val (.int p2), .val (.int p3), .val (.int p4), .val (.int p5), .val (.int (4 : Int32)), .val (.int ca), .val (.int cb), .val (.int cc), .val (.int cd), .val (.ref b36), .val (.ref b37), .val (.long (((0 : Int64) + (ca.toInt64)) + (cb.toInt64))), .second, .unset] [(.long ((((0 : Int64) + (ca.toInt64)) + (cb.toInt64)) + (cc.toInt64)))]))
    refine OwnR.of (fun _ hr => XS.lstore X40.here hx rfl (hb hby at_105) rfl (l' := #[.val (.int p1), .val (.int p2), .val (.int p3), .val (.int p4), .val (.int p5), .val (.int (4 : Int32)), .val (.int ca), .val (.int cb), .val (.int cc), .val (.int cd), .val (.ref b36), .val (.ref b37), .val (.long ((((0 : Int64) + (ca.toInt64)) + (cb.toInt64)) + (cc.toInt64))), .second, .unset]) rfl hr) ?_
    show OwnR _ _ _ _ _ _ _ (T40.setTop (mkF m 107 #[.val (.int p1), .val (.int p2), .val (.int p3), .val (.int p4), .val (.int p5), .val (.int (4 : Int32)), .val (.int ca), .val (.int cb), .val (.int cc), .val (.int cd), .val (.ref b36), .val (.ref b37), .val (.long ((((0 : Int64) + (ca.toInt64)) + (cb.toInt64)) + (cc.toInt64))), .second, .unset] []))
    refine OwnR.of (fun _ hr => XS.iload X40.here hx rfl (hb hby at_107) rfl hr) ?_
    show OwnR _ _ _ _ _ _ _ (T40.setTop (mkF m 109 #[.val (.int p1), .val (.int p2), .val (.int p3), .val (.int p4), .val (.int p5), .val (.int (4 : Int32)), .val (.int ca), .val (.int cb), .val (.int cc), .val (.int cd), .val (.ref b36), .val (.ref b37), .val (.long ((((0 : Int64) + (ca.toInt64)) + (cb.toInt64)) + (cc.toInt64))), .second, .unset] [(.int (4 : Int32))]))
    refine OwnR.of (fun _ hr => XS.iconst X40.here hx rfl (hb hby at_109) hr) ?_
    show OwnR _ _ _ _ _ _ _ (T40.setTop (mkF m 110 #[.val (.int p1), .val (.int p2), .val (.int p3), .val (.int p4), .val (.int p5), .val (.int (4 : Int32)), .val (.int ca), .val (.int cb), .val (.int cc), .val (.int cd), .val (.ref b36), .val (.ref b37), .val (.long ((((0 : Int64) + (ca.toInt64)) + (cb.toInt64)) + (cc.toInt64))), .second, .unset] [(.int (3 : Int32)), (.int (4 : Int32))]))
    refine OwnR.of (fun _ hr => XS.icmpNo X40.here hx rfl (hb hby at_110) rfl (tlt (by decide : (3 : Int32) < (4 : Int32))).2.2.2 hr) ?_
    show OwnR _ _ _ _ _ _ _ (T40.setTop (mkF m 113 #[.val (.int p1), .val (.int p2), .val (.int p3), .val (.int p4), .val (.int p5), .val (.int (4 : Int32)), .val (.int ca), .val (.int cb), .val (.int cc), .val (.int cd), .val (.ref b36), .val (.ref b37), .val (.long ((((0 : Int64) + (ca.toInt64)) + (cb.toInt64)) + (cc.toInt64))), .second, .unset] []))
    refine OwnR.of (fun _ hr => XS.aload X40.here hx rfl (hb hby at_113) rfl rfl hr) ?_
    show OwnR _ _ _ _ _ _ _ (T40.setTop (mkF m 115 #[.val (.int p1), .val (.int p2), .val (.int p3), .val (.int p4), .val (.int p5), .val (.int (4 : Int32)), .val (.int ca), .val (.int cb), .val (.int cc), .val (.int cd), .val (.ref b36), .val (.ref b37), .val (.long ((((0 : Int64) + (ca.toInt64)) + (cb.toInt64)) + (cc.toInt64))), .second, .unset] [(.ref b36)]))
    refine OwnR.of (fun _ hr => XS.iconst X40.here hx rfl (hb hby at_115) hr) ?_
    show OwnR _ _ _ _ _ _ _ (T40.setTop (mkF m 116 #[.val (.int p1), .val (.int p2), .val (.int p3), .val (.int p4), .val (.int p5), .val (.int (4 : Int32)), .val (.int ca), .val (.int cb), .val (.int cc), .val (.int cd), .val (.ref b36), .val (.ref b37), .val (.long ((((0 : Int64) + (ca.toInt64)) + (cb.toInt64)) + (cc.toInt64))), .second, .unset] [(.int (3 : Int32)), (.ref b36)]))
    refine OwnR.of (fun _ hr => XS.iload X40.here hx rfl (hb hby at_116) rfl hr) ?_
    show OwnR _ _ _ _ _ _ _ (T40.setTop (mkF m 118 #[.val (.int p1), .val (.int p2), .val (.int p3), .val (.int p4), .val (.int p5), .val (.int (4 : Int32)), .val (.int ca), .val (.int cb), .val (.int cc), .val (.int cd), .val (.ref b36), .val (.ref b37), .val (.long ((((0 : Int64) + (ca.toInt64)) + (cb.toInt64)) + (cc.toInt64))), .second, .unset] [(.int cd), (.int (3 : Int32)), (.ref b36)]))
    obtain ⟨cl41, Ar41, q41, S41, N41q, H41, G41⟩ := id V40
    have hin41 : ¬ ((3 : Int32) < 0 ∨ cl41.slots.size ≤ ((3 : Int32)).toNatClampNeg) := (inb_of S41 ⟨by decide, by decide⟩)
    obtain ⟨T41, h41, X41, e41, W41, st41⟩ := stI X40 hx hZ e40 Ar41 (j := (3 : Int32)) hin41 (g := (mkF m 118 #[.val (.int p1), .val (.int p2), .val (.int p3), .val (.int p4), .val (.int p5), .val (.int (4 : Int32)), .val (.int ca), .val (.int cb), .val (.int cc), .val (.int cd), .val (.ref b36), .val (.ref b37), .val (.long ((((0 : Int64) + (ca.toInt64)) + (cb.toInt64)) + (cc.toInt64))), .second, .unset] [(.int cd), (.int (3 : Int32)), (.ref b36)])) rfl rfl (hb hby at_118)
    refine OwnR.of (st41) ?_
    have V41 := Arv.set Ar41 q41 S41 N41q H41 G41 rfl W41 3 rfl (Nat.le_of_ble_eq_true rfl)
    have V41 : Arv Z h41 b36 k36 .int (4 : Int32) [(.int ca), (.int cb), (.int cc), (.int cd)] (.int (0 : Int32)) := V41
    have K41 : Keep h0 h41 [] := Keep.wr K40 W41 (Or.inr sz_b36)
    have N41 := Fr.snoc X41 N40 gn_b36
    show OwnR _ _ _ _ _ _ _ (T41.setTop (mkF m 119 #[.val (.int p1), .val (.int p2), .val (.int p3), .val (.int p4), .val (.int p5), .val (.int (4 : Int32)), .val (.int ca), .val (.int cb), .val (.int cc), .val (.int cd), .val (.ref b36), .val (.ref b37), .val (.long ((((0 : Int64) + (ca.toInt64)) + (cb.toInt64)) + (cc.toInt64))), .second, .unset] []))
    refine OwnR.of (fun _ hr => XS.lload X41.here hx rfl (hb hby at_119) rfl hr) ?_
    show OwnR _ _ _ _ _ _ _ (T41.setTop (mkF m 121 #[.val (.int p1), .val (.int p2), .val (.int p3), .val (.int p4), .val (.int p5), .val (.int (4 : Int32)), .val (.int ca), .val (.int cb), .val (.int cc), .val (.int cd), .val (.ref b36), .val (.ref b37), .val (.long ((((0 : Int64) + (ca.toInt64)) + (cb.toInt64)) + (cc.toInt64))), .second, .unset] [(.long ((((0 : Int64) + (ca.toInt64)) + (cb.toInt64)) + (cc.toInt64)))]))
    refine OwnR.of (fun _ hr => XS.iload X41.here hx rfl (hb hby at_121) rfl hr) ?_
    show OwnR _ _ _ _ _ _ _ (T41.setTop (mkF m 123 #[.val (.int p1), .val (.int p2), .val (.int p3), .val (.int p4), .val (.int p5), .val (.int (4 : Int32)), .val (.int ca), .val (.int cb), .val (.int cc), .val (.int cd), .val (.ref b36), .val (.ref b37), .val (.long ((((0 : Int64) + (ca.toInt64)) + (cb.toInt64)) + (cc.toInt64))), .second, .unset] [(.int cd), (.long ((((0 : Int64) + (ca.toInt64)) + (cb.toInt64)) + (cc.toInt64)))]))
    refine OwnR.of (fun _ hr => XS.i2l X41.here hx rfl (hb hby at_123) rfl hr) ?_
    show OwnR _ _ _ _ _ _ _ (T41.setTop (mkF m 124 #[.val (.int p1), .val (.int p2), .val (.int p3), .val (.int p4), .val (.int p5), .val (.int (4 : Int32)), .val (.int ca), .val (.int cb), .val (.int cc), .val (.int cd), .val (.ref b36), .val (.ref b37), .val (.long ((((0 : Int64) + (ca.toInt64)) + (cb.toInt64)) + (cc.toInt64))), .second, .unset] [(.long (cd.toInt64)), (.long ((((0 : Int64) + (ca.toInt64)) + (cb.toInt64)) + (cc.toInt64)))]))
    refine OwnR.of (fun _ hr => XS.ladd X41.here hx rfl (hb hby at_124) rfl hr) ?_
    show OwnR _ _ _ _ _ _ _ (T41.setTop (mkF m 125 #[.val (.int p1), .val (.int p2), .val (.int p3), .val (.int p4), .val (.int p5), .val (.int (4 : Int32)), .val (.int ca), .val (.int cb), .val (.int cc), .val (.int cd), .val (.ref b36), .val (.ref b37), .val (.long ((((0 : Int64) + (ca.toInt64)) + (cb.toInt64)) + (cc.toInt64))), .second, .unset] [(.long (((((0 : Int64) + (ca.toInt64)) + (cb.toInt64)) + (cc.toInt64)) + (cd.toInt64)))]))
    refine OwnR.of (fun _ hr => XS.lstore X41.here hx rfl (hb hby at_125) rfl (l' := #[.val (.int p1), .val (.int p2), .val (.int p3), .val (.int p4), .val (.int p5), .val (.int (4 : Int32)), .val (.int ca), .val (.int cb), .val (.int cc), .val (.int cd), .val (.ref b36), .val (.ref b37), .val (.long (((((0 : Int64) + (ca.toInt64)) + (cb.toInt64)) + (cc.toInt64)) + (cd.toInt64))), .second, .unset]) rfl hr) ?_
    show OwnR _ _ _ _ _ _ _ (T41.setTop (mkF m 127 #[.val (.int p1), .val (.int p2), .val (.int p3), .val (.int p4), .val (.int p5), .val (.int (4 : Int32)), .val (.int ca), .val (.int cb), .val (.int cc), .val (.int cd), .val (.ref b36), .val (.ref b37), .val (.long (((((0 : Int64) + (ca.toInt64)) + (cb.toInt64)) + (cc.toInt64)) + (cd.toInt64))), .second, .unset] []))
    obtain ⟨T42, h42, X42, e42, E42, A42, D42, -, st42⟩ := newO X41 hx hZ hown (hw _ (List.mem_of_getElem? (i := 11) rfl)) (hw _ (List.mem_of_getElem? (i := 12) rfl)) (hw _ (List.mem_of_getElem? (i := 13) rfl)) e41 (g := (mkF m 127 #[.val (.int p1), .val (.int p2), .val (.int p3), .val (.int p4), .val (.int p5), .val (.int (4 : Int32)), .val (.int ca), .val (.int cb), .val (.int cc), .val (.int cd), .val (.ref b36), .val (.ref b37), .val (.long (((((0 : Int64) + (ca.toInt64)) + (cb.toInt64)) + (cc.toInt64)) + (cd.toInt64))), .second, .unset] [])) rfl (hb hby at_127) (by decide) (by decide)
    obtain ⟨b42, g42⟩ : ∃ z, z = h41.size := ⟨_, rfl⟩
    rw [← g42] at A42 D42 st42
    refine OwnR.of (st42) ?_
    have gn_b42 : n0 ≤ b42 := Nat.le_trans (Nat.le_trans Z0 K41.1) (Nat.le_of_eq g42.symm)
    have sz_b42 : h0.size ≤ b42 := Nat.le_trans K41.1 (Nat.le_of_eq g42.symm)
    have K42 : Keep h0 h42 [] := Keep.ext K41 E42
    have F_branches_b42 : Fld Z h42 b42 "com/example/ramification/ramification/model/StrahlerOrders" "branches" "[I" .null := D42 (Or.inr (hw _ (List.mem_of_getElem? (i := 30) rfl))) (ty := (.array .int)) (by decide)
    have F_lengths_b42 : Fld Z h42 b42 "com/example/ramification/ramification/model/StrahlerOrders" "lengths" "[D" .null := D42 (Or.inr (hw _ (List.mem_of_getElem? (i := 38) rfl))) (ty := (.array .double)) (by decide)
    have F_unit_b42 : Fld Z h42 b42 "com/example/ramification/ramification/model/StrahlerOrders" "unit" "Ljava/util/Optional;" .null := D42 (Or.inr (hw _ (List.mem_of_getElem? (i := 40) rfl))) (ty := (.object "java/util/Optional")) (by decide)
    show OwnR _ _ _ _ _ _ _ (T42.setTop (mkF m 130 #[.val (.int p1), .val (.int p2), .val (.int p3), .val (.int p4), .val (.int p5), .val (.int (4 : Int32)), .val (.int ca), .val (.int cb), .val (.int cc), .val (.int cd), .val (.ref b36), .val (.ref b37), .val (.long (((((0 : Int64) + (ca.toInt64)) + (cb.toInt64)) + (cc.toInt64)) + (cd.toInt64))), .second, .unset] [(.ref b42)]))
    refine OwnR.of (fun _ hr => XS.dup X42.here hx rfl (hb hby at_130) rfl rfl hr) ?_
    show OwnR _ _ _ _ _ _ _ (T42.setTop (mkF m 131 #[.val (.int p1), .val (.int p2), .val (.int p3), .val (.int p4), .val (.int p5), .val (.int (4 : Int32)), .val (.int ca), .val (.int cb), .val (.int cc), .val (.int cd), .val (.ref b36), .val (.ref b37), .val (.long (((((0 : Int64) + (ca.toInt64)) + (cb.toInt64)) + (cc.toInt64)) + (cd.toInt64))), .second, .unset] [(.ref b42), (.ref b42)]))
    refine OwnR.of (fun _ hr => XS.aload X42.here hx rfl (hb hby at_131) rfl rfl hr) ?_
    show OwnR _ _ _ _ _ _ _ (T42.setTop (mkF m 133 #[.val (.int p1), .val (.int p2), .val (.int p3), .val (.int p4), .val (.int p5), .val (.int (4 : Int32)), .val (.int ca), .val (.int cb), .val (.int cc), .val (.int cd), .val (.ref b36), .val (.ref b37), .val (.long (((((0 : Int64) + (ca.toInt64)) + (cb.toInt64)) + (cc.toInt64)) + (cd.toInt64))), .second, .unset] [(.ref b36), (.ref b42), (.ref b42)]))
    refine OwnR.of (fun _ hr => XS.aload X42.here hx rfl (hb hby at_133) rfl rfl hr) ?_
    show OwnR _ _ _ _ _ _ _ (T42.setTop (mkF m 135 #[.val (.int p1), .val (.int p2), .val (.int p3), .val (.int p4), .val (.int p5), .val (.int (4 : Int32)), .val (.int ca), .val (.int cb), .val (.int cc), .val (.int cd), .val (.ref b36), .val (.ref b37), .val (.long (((((0 : Int64) + (ca.toInt64)) + (cb.toInt64)) + (cc.toInt64)) + (cd.toInt64))), .second, .unset] [(.ref b37), (.ref b36), (.ref b42), (.ref b42)]))
    refine OwnR.of (fun _ hr => XS.aconstNull X42.here hx rfl (hb hby at_135) hr) ?_
    show OwnR _ _ _ _ _ _ _ (T42.setTop (mkF m 136 #[.val (.int p1), .val (.int p2), .val (.int p3), .val (.int p4), .val (.int p5), .val (.int (4 : Int32)), .val (.int ca), .val (.int cb), .val (.int cc), .val (.int cd), .val (.ref b36), .val (.ref b37), .val (.long (((((0 : Int64) + (ca.toInt64)) + (cb.toInt64)) + (cc.toInt64)) + (cd.toInt64))), .second, .unset] [.null, (.ref b37), (.ref b36), (.ref b42), (.ref b42)]))
    obtain ⟨_, _, ⟨T43, L43, kc43, ns43⟩, -, X43, ⟨Lc43, hQ43, l43, y43, z43⟩, st43⟩ := X42.specialBack hx (y := (⟨"com/example/ramification/ramification/model/StrahlerOrders", "<init>", "([I[DLjava/util/Optional;)V"⟩ : MethodName)) rfl hown (mvT hZ (hw _ (List.mem_of_getElem? (i := 14) rfl))) (mvT hZ (hw _ (List.mem_of_getElem? (i := 15) rfl))) (mvT hZ (hw _ (List.mem_of_getElem? (i := 16) rfl))) (by decide) (backOf (W := 1) (rm3_4 l Z a0 hw [] b42 b36 b37 k36 k37 ca cb cc cd h42 n0 (Nat.le_trans Z0 K42.1) A42 F_branches_b42 F_lengths_b42 F_unit_b42 (Arv.ext V41 E42) (Arv.ext (Arv.other (Arv.other (Arv.other (Arv.other V37 W38 (Ne.symm (Nat.ne_of_lt (Nat.lt_of_lt_of_le AE36.lt (Nat.le_of_eq g37.symm))))) W39 (Ne.symm (Nat.ne_of_lt (Nat.lt_of_lt_of_le AE36.lt (Nat.le_of_eq g37.symm))))) W40 (Ne.symm (Nat.ne_of_lt (Nat.lt_of_lt_of_le AE36.lt (Nat.le_of_eq g37.symm))))) W41 (Ne.symm (Nat.ne_of_lt (Nat.lt_of_lt_of_le AE36.lt (Nat.le_of_eq g37.symm))))) E42) (Exa.ext E42 (Exa.wr W41 (Exa.wr W40 (Exa.wr W39 (Exa.wr W38 (Exa.ext E37 AE36)))))) (Exa.ext E42 (Exa.wr W41 (Exa.wr W40 (Exa.wr W39 (Exa.wr W38 AE37))))) gn_b42 (Ne.symm (Nat.ne_of_lt (Nat.lt_of_lt_of_le (Exa.wr W41 (Exa.wr W40 (Exa.wr W39 (Exa.wr W38 (Exa.ext E37 AE36))))).lt (Nat.le_of_eq g42.symm)))) (Ne.symm (Nat.ne_of_lt (Nat.lt_of_lt_of_le (Exa.wr W41 (Exa.wr W40 (Exa.wr W39 (Exa.wr W38 AE37)))).lt (Nat.le_of_eq g42.symm)))) hca1 hcb1 hcc1 hcd1) hZ (hw _ (List.mem_of_getElem? (i := 16) rfl)) (hw _ (List.mem_of_getElem? (i := 13) rfl)) (by decide) (by decide)) (g := (mkF m 136 #[.val (.int p1), .val (.int p2), .val (.int p3), .val (.int p4), .val (.int p5), .val (.int (4 : Int32)), .val (.int ca), .val (.int cb), .val (.int cc), .val (.int cd), .val (.ref b36), .val (.ref b37), .val (.long (((((0 : Int64) + (ca.toInt64)) + (cb.toInt64)) + (cc.toInt64)) + (cd.toInt64))), .second, .unset] [.null, (.ref b37), (.ref b36), (.ref b42), (.ref b42)])) rfl (by rw [hml]; rfl) (Steps.refl _) (a := b42) (argsL := [(.ref b36), (.ref b37), .null]) (rest := [(.ref b42)]) (lenOf pd___I_DLjava_util_Optional__V rfl) rfl (by show 2 * 0 + _ ≤ _; exact Nat.le_of_eq rfl) (hb hby at_136) (fun _ _ => ⟨rfl, e42, (by decide : 3 + 2 ≤ _), (by decide : 11 + 8 ≤ _)⟩)
    dsimp only [Pt.U, Pt.locs, Pt.cells, Pt.slots] at X43 l43 y43 z43 st43 hQ43
    subst l43 y43 z43
    obtain ⟨bI_43, rfl, N43q, P43_0, P43_1, P43_2, P43_3⟩ := hQ43
    have K43 : Keep h0 T43.heap [] := Keep.trans K42 P43_0 (allS (Or.inr sz_b42) all0)
    have N43 := Fr.app N41 N43q
    refine OwnR.of (fun _ hr => st43.trans hr) ?_
    show OwnR _ _ _ _ _ _ _ (T43.setTop (mkF m 139 #[.val (.int p1), .val (.int p2), .val (.int p3), .val (.int p4), .val (.int p5), .val (.int (4 : Int32)), .val (.int ca), .val (.int cb), .val (.int cc), .val (.int cd), .val (.ref b36), .val (.ref b37), .val (.long (((((0 : Int64) + (ca.toInt64)) + (cb.toInt64)) + (cc.toInt64)) + (cd.toInt64))), .second, .unset] [(.ref b42)]))
    refine OwnR.of (fun _ hr => XS.astore X43.here hx rfl (hb hby at_139) rfl rfl (l' := #[.val (.int p1), .val (.int p2), .val (.int p3), .val (.int p4), .val (.int p5), .val (.int (4 : Int32)), .val (.int ca), .val (.int cb), .val (.int cc), .val (.int cd), .val (.ref b36), .val (.ref b37), .val (.long (((((0 : Int64) + (ca.toInt64)) + (cb.toInt64)) + (cc.toInt64)) + (cd.toInt64))), .second, .val (.ref b42)]) rfl hr) ?_
    show OwnR _ _ _ _ _ _ _ (T43.setTop (mkF m 141 #[.val (.int p1), .val (.int p2), .val (.int p3), .val (.int p4), .val (.int p5), .val (.int (4 : Int32)), .val (.int ca), .val (.int cb), .val (.int cc), .val (.int cd), .val (.ref b36), .val (.ref b37), .val (.long (((((0 : Int64) + (ca.toInt64)) + (cb.toInt64)) + (cc.toInt64)) + (cd.toInt64))), .second, .val (.ref b42)] []))
    refine OwnR.of (fun _ hr => XS.aload X43.here hx rfl (hb hby at_141) rfl rfl hr) ?_
    show OwnR _ _ _ _ _ _ _ (T43.setTop (mkF m 143 #[.val (.int p1), .val (.int p2), .val (.int p3), .val (.int p4), .val (.int p5), .val (.int (4 : Int32)), .val (.int ca), .val (.int cb), .val (.int cc), .val (.int cd), .val (.ref b36), .val (.ref b37), .val (.long (((((0 : Int64) + (ca.toInt64)) + (cb.toInt64)) + (cc.toInt64)) + (cd.toInt64))), .second, .val (.ref b42)] [(.ref b42)]))
    obtain ⟨cq44, kq44, q44a, q44b, q44c⟩ := isOf hZ rfl P43_1
    obtain ⟨_, _, ⟨T44, L44, kc44, ns44⟩, -, X44, ⟨Lc44, hQ44, l44, y44, z44⟩, st44⟩ := X43.virtualBack hx (y := (⟨"com/example/ramification/ramification/model/StrahlerOrders", "getTotalBranches", "()J"⟩ : MethodName)) (z := (⟨"com/example/ramification/ramification/model/StrahlerOrders", "getTotalBranches", "()J"⟩ : MethodName)) hown (mvT hZ (hw _ (List.mem_of_getElem? (i := 41) rfl))) (mvT hZ (hw _ (List.mem_of_getElem? (i := 42) rfl))) (notFace_of_selects (args := #[]) (mvT hZ (hw _ (List.mem_of_getElem? (i := 44) rfl)))) (mvT hZ (hw _ (List.mem_of_getElem? (i := 44) rfl))) (mvT hZ (hw _ (List.mem_of_getElem? (i := 43) rfl))) (by decide) (backOf (W := 0) (rm5_4 l Z a0 hw [] b42 bI_43 k36 ca cb cc cd (T43.heap) n0 (Nat.le_trans Z0 K43.1) P43_1 P43_2 P43_3) hZ (hw _ (List.mem_of_getElem? (i := 45) rfl)) (hw _ (List.mem_of_getElem? (i := 13) rfl)) (by decide) (by decide)) q44a q44c (g := (mkF m 143 #[.val (.int p1), .val (.int p2), .val (.int p3), .val (.int p4), .val (.int p5), .val (.int (4 : Int32)), .val (.int ca), .val (.int cb), .val (.int cc), .val (.int cd), .val (.ref b36), .val (.ref b37), .val (.long (((((0 : Int64) + (ca.toInt64)) + (cb.toInt64)) + (cc.toInt64)) + (cd.toInt64))), .second, .val (.ref b42)] [(.ref b42)])) rfl (by rw [hml]; rfl) (Steps.refl _) (argsL := []) (rest := []) (lenOf pd___J rfl) rfl (by show 2 * 0 + _ ≤ _; exact Nat.le_of_eq rfl) (hb hby at_143) (fun _ _ => ⟨rfl, rfl, (by decide : 5 + 0 ≤ _), (by decide : 19 + 0 ≤ _)⟩)
    dsimp only [Pt.U, Pt.locs, Pt.cells, Pt.slots] at X44 l44 y44 z44 st44 hQ44
    subst l44 y44 z44
    obtain ⟨rfl, N44q, e44⟩ := hQ44
    have N44 := Fr.app N43 N44q
    refine OwnR.of (fun _ hr => st44.trans hr) ?_
    show OwnR _ _ _ _ _ _ _ (T44.setTop (mkF m 146 #[.val (.int p1), .val (.int p2), .val (.int p3), .val (.int p4), .val (.int p5), .val (.int (4 : Int32)), .val (.int ca), .val (.int cb), .val (.int cc), .val (.int cd), .val (.ref b36), .val (.ref b37), .val (.long (((((0 : Int64) + (ca.toInt64)) + (cb.toInt64)) + (cc.toInt64)) + (cd.toInt64))), .second, .val (.ref b42)] [(.long (((((0 : Int64) + (ca.toInt64)) + (cb.toInt64)) + (cc.toInt64)) + (cd.toInt64)))]))
    refine OwnR.of (fun _ hr => XS.lload X44.here hx rfl (hb hby at_146) rfl hr) ?_
    show OwnR _ _ _ _ _ _ _ (T44.setTop (mkF m 148 #[.val (.int p1), .val (.int p2), .val (.int p3), .val (.int p4), .val (.int p5), .val (.int (4 : Int32)), .val (.int ca), .val (.int cb), .val (.int cc), .val (.int cd), .val (.ref b36), .val (.ref b37), .val (.long (((((0 : Int64) + (ca.toInt64)) + (cb.toInt64)) + (cc.toInt64)) + (cd.toInt64))), .second, .val (.ref b42)] [(.long (((((0 : Int64) + (ca.toInt64)) + (cb.toInt64)) + (cc.toInt64)) + (cd.toInt64))), (.long (((((0 : Int64) + (ca.toInt64)) + (cb.toInt64)) + (cc.toInt64)) + (cd.toInt64)))]))
    refine OwnR.of (fun _ hr => XS.lcmp X44.here hx rfl (hb hby at_148) rfl hr) ?_
    show OwnR _ _ _ _ _ _ _ (T44.setTop (mkF m 149 #[.val (.int p1), .val (.int p2), .val (.int p3), .val (.int p4), .val (.int p5), .val (.int (4 : Int32)), .val (.int ca), .val (.int cb), .val (.int cc), .val (.int cd), .val (.ref b36), .val (.ref b37), .val (.long (((((0 : Int64) + (ca.toInt64)) + (cb.toInt64)) + (cc.toInt64)) + (cd.toInt64))), .second, .val (.ref b42)] [(.int (lcmpW (((((0 : Int64) + (ca.toInt64)) + (cb.toInt64)) + (cc.toInt64)) + (cd.toInt64)) (((((0 : Int64) + (ca.toInt64)) + (cb.toInt64)) + (cc.toInt64)) + (cd.toInt64))))]))
    refine OwnR.of (fun _ hr => XS.ifNo X44.here hx rfl (hb hby at_149) rfl ((if0 _ _).trans (teq ((own_lceq _ _).mpr rfl)).2) hr) ?_
    show OwnR _ _ _ _ _ _ _ (T44.setTop (mkF m 152 #[.val (.int p1), .val (.int p2), .val (.int p3), .val (.int p4), .val (.int p5), .val (.int (4 : Int32)), .val (.int ca), .val (.int cb), .val (.int cc), .val (.int cd), .val (.ref b36), .val (.ref b37), .val (.long (((((0 : Int64) + (ca.toInt64)) + (cb.toInt64)) + (cc.toInt64)) + (cd.toInt64))), .second, .val (.ref b42)] []))
    refine OwnR.of (fun _ hr => XS.iconst X44.here hx rfl (hb hby at_152) hr) ?_
    show OwnR _ _ _ _ _ _ _ (T44.setTop (mkF m 153 #[.val (.int p1), .val (.int p2), .val (.int p3), .val (.int p4), .val (.int p5), .val (.int (4 : Int32)), .val (.int ca), .val (.int cb), .val (.int cc), .val (.int cd), .val (.ref b36), .val (.ref b37), .val (.long (((((0 : Int64) + (ca.toInt64)) + (cb.toInt64)) + (cc.toInt64)) + (cd.toInt64))), .second, .val (.ref b42)] [(.int (1 : Int32))]))
    refine OwnR.of (fun _ hr => XS.goto X44.here hx rfl (pc0 := 153) (pc' := 157) rfl (hb hby at_153) (by decide) (by decide) hr) ?_
    show OwnR _ _ _ _ _ _ _ (T44.setTop (mkF m 157 #[.val (.int p1), .val (.int p2), .val (.int p3), .val (.int p4), .val (.int p5), .val (.int (4 : Int32)), .val (.int ca), .val (.int cb), .val (.int cc), .val (.int cd), .val (.ref b36), .val (.ref b37), .val (.long (((((0 : Int64) + (ca.toInt64)) + (cb.toInt64)) + (cc.toInt64)) + (cd.toInt64))), .second, .val (.ref b42)] [(.int (1 : Int32))]))
    refine own_leafN X44 hx hlk (t := .boolean) Bd.returns (by simp) (hb hby at_157) (z' := (1 : Int32)) rfl (by decide) (by decide) ?_
    show Q0 Z  h0 n0 _ T44.heap _
    rw [show T44.heap = T43.heap from e44]
    refine ⟨?_, N44⟩
    show (some (.int (1 : Int32)) : Option Value) = some (.int (1 : Int32))
    rfl
set_option maxRecDepth 65536 in
set_option maxHeartbeats 40000000 in
theorem comes_1 {Post : Tables → Env → Array Value → State → Outcome → State → Prop} (hpost : ∀ tb e args s v u, (limb_1_1.after args s (.returned v) u = true ∧ limb_1_2.after args s (.returned v) u = true ∧ True) → FrameEnd s (.returned v) u (Jvm.fieldLocs frame_1_writes args s ++ Jvm.arrayLocs frame_1_arrays args s ++ Jvm.staticLocs frame_1_statics s) 24 128 → Post tb e args s (.returned v) u) :
    ArmFor flags0 classFile x code maxLocals ret World_1 tables_1 room_1 Calls_1 rest_1 Pre_1 Post := by
  intro l hfl _ _ p e ha hc hk s m args below hf hA hF happ hP
  obtain ⟨hcalls, hrest, hpre⟩ := hP
  obtain ⟨-, -, -, hnamed, -, -, -, hat⟩ := (Spec.applies_iff hf).mp happ
  obtain ⟨hg, hn⟩ := and_e (Cond.before_iff.mp (show (Jvm.Cond.and given_1 narrow_1).before args s = true from hpre))
  obtain ⟨ga1, gb1⟩ := and_e hg
  obtain ⟨ga2, gb2⟩ := and_e gb1
  obtain ⟨ga3, gb3⟩ := and_e gb2
  obtain ⟨ga4, gb4⟩ := and_e gb3
  obtain ⟨ga5, gb5⟩ := and_e gb4
  obtain ⟨w0, w1, w2, w3, w4, rfl⟩ : ∃ w0 w1 w2 w3 w4 : Value, args = #[w0, w1, w2, w3, w4] := by
    have hs : args.size = 5 := by simpa [Cond.value, given_1] using ga1
    obtain ⟨L⟩ := args
    match L, hs with
    | [w0, w1, w2, w3, w4], _ => exact ⟨w0, w1, w2, w3, w4, rfl⟩
  have hw := fun d (hd : d ∈ tables_1) => atoms_spec (ws := Jvm.Cond.code x code maxLocals ret :: tables_1) hat d (List.mem_cons_of_mem _ hd)
  have hfit : Fit s := fun {y c} hc i hi => by
    obtain ⟨ha, rfl⟩ := Array.getElem?_eq_some_iff.mp hc
    have q := List.all_eq_true.mp ((Array.all_eq_true_iff_forall_mem.mp hF) _ (Array.getElem_mem ha)) i (List.mem_range.mpr hi)
    simpa [Array.getElem?_eq_getElem hi] using q
  obtain ⟨i0, ei0⟩ := is_v ga2
  obtain rfl : w0 = (.int i0) := Option.some.inj ei0
  obtain ⟨i1, ei1⟩ := is_v ga3
  obtain rfl : w1 = (.int i1) := Option.some.inj ei1
  obtain ⟨i2, ei2⟩ := is_v ga4
  obtain rfl : w2 = (.int i2) := Option.some.inj ei2
  obtain ⟨i3, ei3⟩ := is_v ga5
  obtain rfl : w3 = (.int i3) := Option.some.inj ei3
  obtain ⟨i4, ei4⟩ := is_v gb5
  obtain rfl : w4 = (.int i4) := Option.some.inj ei4
  obtain ⟨n, o, h1, h2, h3, _, L, rfl, ⟨rfl, N⟩, hq⟩ := rm0 l s _ hw tables_1 i0 i1 i2 i3 i4 s.heap s.heap.size (Nat.le_refl _) p e ha hc hk s m _ below hf ((Spec.applies_iff_loose hf).mp happ).1 ⟨rfl, State.Warmed39.refl s, rfl⟩ trivial
  refine ⟨n, _, h1, h2, h3, hpost _ _ _ _ _ _ ⟨Cond.after_iff.mpr rfl, Cond.after_iff.mpr (eq_i res_at (Term.int_eval (1)) rfl), trivial⟩ ⟨hq.1, hq.2.1, (hq.2.2.sift fun y hy => Or.inr (N y hy)).mono (by decide) (by decide)⟩⟩
theorem main_1_1 : Claimed_1_1 := comes_1 fun _ _ _ _ _ _ h hF => ⟨h.1, hF⟩
theorem main_1_2 : Claimed_1_2 := comes_1 fun _ _ _ _ _ _ h hF => ⟨h.2.1, hF⟩
end Jvm.Pilot.@@N@@
namespace Jvm.Pilot.@@N@@
open Jvm Jvm.ClassFile Sem Op Lib Jvm.Free Jvm.Stand Jvm.Pilot.@@N@@.Jvm.D
/-! MADE BY PROGRAM (witnessworld.py) out of the Statement's table words and the real class files: 10 classes; the members and pool entries that the words name. The judged class is class 1, her method 2. -/
namespace start1
open Jvm.ClassFile
def u (s : String) : CpInfo := .utf8 (stringToUtf16 s)
/-- a pool by its gaps: so many unusable entries, then the entry; so many at the end -/
def gap : Nat → List CpInfo → List CpInfo
  | 0, r => r
  | n + 1, r => .unusable :: gap n r
def poolList (es : List (Nat × CpInfo)) (last : Nat) : List CpInfo := es.foldr (fun e r => gap e.1 (e.2 :: r)) (gap last [])
def pool (es : List (Nat × CpInfo)) (last : Nat) : Array CpInfo := ⟨poolList es last⟩
def fileOf (pool : Array CpInfo) (this : Nat) (attrs : Array Attribute := #[]) (ms : Array MethodInfo := #[]) (fl : Nat := 33) (sup : Nat := 0) (ifs : Array Nat := #[]) (fds : Array FieldInfo := #[]) : ClassFile where
  minorVersion := 0
  majorVersion := 65
  constantPool := pool
  accessFlags := fl
  thisClass := this
  superClass := sup
  interfaces := ifs
  fields := fds
  methods := ms
  attributes := attrs
def plain (name : String) (sup : Option ClassId) : Class where
  name := name
  kind := .ordinary
  loader := none
  accessFlags := 33
  super := sup
  interfaces := #[]
  cf := none
  fields := #[]
  methods := #[]
  instanceTypes := #[]
  staticTypes := #[]
  resolved := #[]
  callSites := []
  init := .initialized
  statics := none
  mirror := none

def pool0 : Array CpInfo := pool [(5, u "<init>"), (0, u "()V"), (1, .class_ 10), (1, u "java/lang/Object"), (85, u "clone"), (0, u "()Ljava/lang/Object;")] 26

def k0c0 : Code := { maxStack := 0, maxLocals := 1, code := object_method_1_code, exceptionTable := #[], attributes := #[] }
def k0m0 : Method := { name := "<init>", desc := "()V", sig := { parameters := [], returnType := none }, accessFlags := 1, code := some k0c0 }
def k0m1 : Method := { name := "clone", desc := "()Ljava/lang/Object;", sig := { parameters := [], returnType := some (.object "java/lang/Object") }, accessFlags := 260, code := none }
/-- java/lang/Object -/
def k0 : Class := { plain "java/lang/Object" none with
  accessFlags := 33
  interfaces := #[]
  cf := some (fileOf pool0 8 #[] #[{ accessFlags := 1, nameIndex := 5, descriptorIndex := 6, attributes := #[] }, { accessFlags := 260, nameIndex := 96, descriptorIndex := 97, attributes := #[] }] 33 0 #[] #[])
  fields := #[]
  methods := #[k0m0, k0m1]
  instanceTypes := #[]
  staticTypes := #[]
  resolved := Array.replicate 124 none
  statics := none }

def pool1 : Array CpInfo := pool [(2, .class_ 4), (1, u "java/lang/Object"), (0, u "<init>"), (0, u "()V"), (0, .integer 2147483647), (0, .methodref 9 10), (0, .class_ 11), (0, .nameAndType 12 13), (0, u "java/lang/Math"), (0, u "max"), (0, u "(II)I"), (0, .methodref 15 16), (0, .class_ 17), (0, .nameAndType 18 19), (0, u "com/example/ramification/ramification/model/StrahlerOrdersGetTotalBranchesPinLaw"), (0, u "count"), (0, u "(I)I"), (0, .class_ 21), (0, u "com/example/ramification/ramification/model/StrahlerOrders"), (0, .methodref 20 23), (0, .nameAndType 5 24), (0, u "([I[DLjava/util/Optional;)V"), (0, .methodref 20 26), (0, .nameAndType 27 28), (0, u "getTotalBranches"), (0, u "()J"), (2, u "law"), (0, u "(IIIII)Z")] 7

def k1m0 : Method := { name := "<init>", desc := "()V", sig := { parameters := [], returnType := none }, accessFlags := 1, code := none }
def k1c1 : Code := { maxStack := 3, maxLocals := 1, code := method_2_code, exceptionTable := #[], attributes := #[] }
def k1m1 : Method := { name := "count", desc := "(I)I", sig := { parameters := [.int], returnType := some .int }, accessFlags := 10, code := some k1c1 }
def k1c2 : Code := { maxStack := 5, maxLocals := 15, code := code, exceptionTable := #[], attributes := #[] }
def k1m2 : Method := { name := "law", desc := "(IIIII)Z", sig := { parameters := [.int, .int, .int, .int, .int], returnType := some .boolean }, accessFlags := 9, code := some k1c2 }
/-- com/example/ramification/ramification/model/StrahlerOrdersGetTotalBranchesPinLaw -/
def k1 : Class := { plain "com/example/ramification/ramification/model/StrahlerOrdersGetTotalBranchesPinLaw" (some 0) with
  accessFlags := 49
  interfaces := #[]
  cf := some (fileOf pool1 15 #[] #[{ accessFlags := 1, nameIndex := 5, descriptorIndex := 6, attributes := #[] }, { accessFlags := 10, nameIndex := 18, descriptorIndex := 19, attributes := #[] }, { accessFlags := 9, nameIndex := 31, descriptorIndex := 32, attributes := #[] }] 49 2 #[] #[])
  fields := #[]
  methods := #[k1m0, k1m1, k1m2]
  instanceTypes := #[]
  staticTypes := #[]
  resolved := Array.replicate 40 none
  statics := none }

def pool2 : Array CpInfo := pool [(1, .class_ 2), (0, u "java/lang/Math"), (1, .class_ 6), (1, u "java/lang/Object"), (0, u "<init>"), (0, u "()V"), (89, .class_ 100), (1, u "java/lang/Math$RandomNumberGeneratorHolder"), (71, u "negativeZeroFloatBits"), (0, u "J"), (2, u "negativeZeroDoubleBits"), (21, u "max"), (46, u "$assertionsDisabled"), (0, u "Z"), (88, u "(II)I"), (2, u "twoToTheDoubleScaleDown"), (0, u "D"), (4, u "twoToTheDoubleScaleUp"), (9, u "E"), (3, u "PI"), (2, u "TAU"), (2, u "DEGREES_TO_RADIANS"), (0, u "RADIANS_TO_DEGREES")] 94

def k2m0 : Method := { name := "<init>", desc := "()V", sig := { parameters := [], returnType := none }, accessFlags := 2, code := none }
def k2c1 : Code := { maxStack := 2, maxLocals := 2, code := jdk_29_method_65_code, exceptionTable := #[], attributes := #[] }
def k2m1 : Method := { name := "max", desc := "(II)I", sig := { parameters := [.int, .int], returnType := some .int }, accessFlags := 9, code := some k2c1 }
/-- java/lang/Math -/
def k2 : Class := { plain "java/lang/Math" (some 0) with
  accessFlags := 49
  interfaces := #[]
  cf := some (fileOf pool2 1 #[.nestMembers #[98]] #[{ accessFlags := 2, nameIndex := 7, descriptorIndex := 8, attributes := #[] }, { accessFlags := 9, nameIndex := 198, descriptorIndex := 335, attributes := #[] }] 49 4 #[] #[{ accessFlags := 25, nameIndex := 354, descriptorIndex := 339, attributes := #[] }, { accessFlags := 25, nameIndex := 358, descriptorIndex := 339, attributes := #[] }, { accessFlags := 25, nameIndex := 361, descriptorIndex := 339, attributes := #[] }, { accessFlags := 26, nameIndex := 364, descriptorIndex := 339, attributes := #[] }, { accessFlags := 26, nameIndex := 365, descriptorIndex := 339, attributes := #[] }, { accessFlags := 26, nameIndex := 172, descriptorIndex := 173, attributes := #[] }, { accessFlags := 26, nameIndex := 176, descriptorIndex := 173, attributes := #[] }, { accessFlags := 8, nameIndex := 344, descriptorIndex := 339, attributes := #[] }, { accessFlags := 8, nameIndex := 338, descriptorIndex := 339, attributes := #[] }, { accessFlags := 4120, nameIndex := 245, descriptorIndex := 246, attributes := #[] }])
  fields := #[{ name := "E", type := .double, accessFlags := 25, slot := 0, constantValue := 0 }, { name := "PI", type := .double, accessFlags := 25, slot := 1, constantValue := 0 }, { name := "TAU", type := .double, accessFlags := 25, slot := 2, constantValue := 0 }, { name := "DEGREES_TO_RADIANS", type := .double, accessFlags := 26, slot := 3, constantValue := 0 }, { name := "RADIANS_TO_DEGREES", type := .double, accessFlags := 26, slot := 4, constantValue := 0 }, { name := "negativeZeroFloatBits", type := .long, accessFlags := 26, slot := 5, constantValue := 0 }, { name := "negativeZeroDoubleBits", type := .long, accessFlags := 26, slot := 6, constantValue := 0 }, { name := "twoToTheDoubleScaleUp", type := .double, accessFlags := 8, slot := 7, constantValue := 0 }, { name := "twoToTheDoubleScaleDown", type := .double, accessFlags := 8, slot := 8, constantValue := 0 }, { name := "$assertionsDisabled", type := .boolean, accessFlags := 4120, slot := 9, constantValue := 0 }]
  methods := #[k2m0, k2m1]
  instanceTypes := #[]
  staticTypes := #[.double, .double, .double, .double, .double, .long, .long, .double, .double, .boolean]
  resolved := Array.replicate 460 none
  statics := none }

def pool3 : Array CpInfo := pool [(1, .methodref 2 3), (0, .class_ 4), (0, .nameAndType 5 6), (0, u "java/lang/Object"), (0, u "<init>"), (0, u "()V"), (10, .methodref 18 19), (0, .class_ 20), (0, .nameAndType 21 22), (0, u "[I"), (0, u "clone"), (0, u "()Ljava/lang/Object;"), (0, .fieldref 24 25), (0, .class_ 26), (0, .nameAndType 27 20), (0, u "com/example/ramification/ramification/model/StrahlerOrders"), (0, u "branches"), (0, .methodref 29 19), (0, .class_ 30), (0, u "[D"), (0, .fieldref 24 32), (0, .nameAndType 33 30), (0, u "lengths"), (0, .fieldref 24 35), (0, .nameAndType 36 37), (0, u "unit"), (0, u "Ljava/util/Optional;"), (10, u "([I[DLjava/util/Optional;)V"), (14, u "getTotalBranches"), (0, u "()J")] 22

def k3c0 : Code := { maxStack := 5, maxLocals := 5, code := prog_88_method_1_code, exceptionTable := #[], attributes := #[] }
def k3m0 : Method := { name := "<init>", desc := "([I[DLjava/util/Optional;)V", sig := { parameters := [(.array .int), (.array .double), (.object "java/util/Optional")], returnType := none }, accessFlags := 1, code := some k3c0 }
def k3c1 : Code := { maxStack := 4, maxLocals := 7, code := prog_88_method_7_code, exceptionTable := #[], attributes := #[] }
def k3m1 : Method := { name := "getTotalBranches", desc := "()J", sig := { parameters := [], returnType := some .long }, accessFlags := 1, code := some k3c1 }
/-- com/example/ramification/ramification/model/StrahlerOrders -/
def k3 : Class := { plain "com/example/ramification/ramification/model/StrahlerOrders" (some 0) with
  accessFlags := 33
  interfaces := #[]
  cf := some (fileOf pool3 24 #[] #[{ accessFlags := 1, nameIndex := 5, descriptorIndex := 48, attributes := #[] }, { accessFlags := 1, nameIndex := 63, descriptorIndex := 64, attributes := #[] }] 33 2 #[] #[{ accessFlags := 18, nameIndex := 27, descriptorIndex := 20, attributes := #[] }, { accessFlags := 18, nameIndex := 33, descriptorIndex := 30, attributes := #[] }, { accessFlags := 18, nameIndex := 36, descriptorIndex := 37, attributes := #[] }])
  fields := #[{ name := "branches", type := (.array .int), accessFlags := 18, slot := 0, constantValue := 0 }, { name := "lengths", type := (.array .double), accessFlags := 18, slot := 1, constantValue := 0 }, { name := "unit", type := (.object "java/util/Optional"), accessFlags := 18, slot := 2, constantValue := 0 }]
  methods := #[k3m0, k3m1]
  instanceTypes := #[(.array .int), (.array .double), (.object "java/util/Optional")]
  staticTypes := #[]
  resolved := Array.replicate 87 none
  statics := none }

def pool4 : Array CpInfo := pool [(1, .class_ 2), (0, u "java/lang/Cloneable"), (0, .class_ 4), (0, u "java/lang/Object")] 2

/-- java/lang/Cloneable -/
def k4 : Class := { plain "java/lang/Cloneable" (some 0) with
  accessFlags := 1537
  interfaces := #[]
  cf := some (fileOf pool4 1 #[] #[] 1537 3 #[] #[])
  fields := #[]
  methods := #[]
  instanceTypes := #[]
  staticTypes := #[]
  resolved := Array.replicate 7 none
  statics := none }

def pool5 : Array CpInfo := pool [(1, u "java/io/Serializable"), (0, .class_ 1), (0, u "java/lang/Object"), (0, .class_ 3)] 3

/-- java/io/Serializable -/
def k5 : Class := { plain "java/io/Serializable" (some 0) with
  accessFlags := 1537
  interfaces := #[]
  cf := some (fileOf pool5 2 #[] #[] 1537 4 #[] #[])
  fields := #[]
  methods := #[]
  instanceTypes := #[]
  staticTypes := #[]
  resolved := Array.replicate 8 none
  statics := none }

/-- the primitive byte -/
def k6 : Class := { plain "byte" none with kind := .primitive 'B', accessFlags := 0x411 }
/-- [B -/
def k7 : Class := { plain "[B" (some 0) with kind := .array 6 .byte, interfaces := #[4, 5], accessFlags := 1041 }

/-- the primitive int -/
def k8 : Class := { plain "int" none with kind := .primitive 'I', accessFlags := 0x411 }
/-- [I -/
def k9 : Class := { plain "[I" (some 0) with kind := .array 8 .int, interfaces := #[4, 5], accessFlags := 1041 }

/-- the primitive double -/
def k10 : Class := { plain "double" none with kind := .primitive 'D', accessFlags := 0x411 }
/-- [D -/
def k11 : Class := { plain "[D" (some 0) with kind := .array 10 .double, interfaces := #[4, 5], accessFlags := 1041 }

def heap : Heap := #[]
def classes : Array Class := #[k0, k1, k2, k3, k4, k5, k6, k7, k8, k9, k10, k11]
def interned : List (Array UInt16 × Addr) := []
def slotsUsed : Nat := 0
def theMethod : MethodId := ⟨1, 2⟩
def args0 : Array Value := #[.int 5, .int 7, .int 9, .int 3, .int 2]
def aboutOver (below : List Frame) : State where
  vm := { classes := classes, interned := interned.toArray }
  heap := heap
  slotsUsed := slotsUsed
  threads := #[{ frames := .invoking theMethod args0 :: below }]
def below0 : List Frame := [.native { method := ⟨0, 0⟩, args := #[] }]
def about1 : State := aboutOver below0
def p0 : Program := .bare "" "" ""
def e0 : Env := launch0.env 0 0 0
theorem w_frames : about1.frames = Frame.invoking theMethod args0 :: below0 := rfl
set_option maxRecDepth 65536 in
theorem w_args : argsFit about1.vm theMethod args0 = true := by decide +kernel
set_option maxRecDepth 65536 in
theorem w_heap : heapFits about1 = true := by decide +kernel
set_option maxRecDepth 65536 in
theorem w_runnable : about1.curStatus? = some .runnable := by decide +kernel
set_option maxRecDepth 65536 in
theorem w_alone : about1.alone = true := by decide +kernel
set_option maxRecDepth 65536 in
theorem w_named : about1.methodNamed? x = some theMethod := by decide +kernel
set_option maxRecDepth 65536 in
theorem w_hears : about1.hears theMethod below0 = true := by decide +kernel
set_option maxRecDepth 65536 in
theorem w_ripe : about1.ripe theMethod args0 below0 = true := by decide +kernel
theorem w_running : about1.status = .running := rfl
set_option maxRecDepth 65536 in
theorem w_room : about1.hasRoom e0.platform room_1 = true :=
  launch0.hasRoom_least _ room_1 (by decide +kernel) (by decide +kernel) (by decide +kernel) (by decide +kernel) (by decide +kernel) (by decide +kernel)
theorem allAtoms_all (ts : List Jvm.Cond) (a : Array Jvm.Value) (st : Jvm.State) : (allAtoms ts).before a st = ts.all (fun c => c.before a st) := by
  induction ts with
  | nil => rfl
  | cons c t ih =>
    show (Jvm.Cond.and c (allAtoms t)).before a st = _
    rw [Jvm.Cond.before_and, ih, List.all_cons]
def words1 : List Jvm.Cond := Jvm.Cond.code x code maxLocals ret :: tables_1
/-- a 'code' word, met by the world's own term for the bytes: nothing is compared byte by byte -/
theorem code_word {y : MethodName} {bytes : ByteArray} {mx : Nat} {rt : Option FieldType} {a : Array Value} {s : State} {m : MethodId} {meth : Method} {c : Code} (h1 : s.methodNamed? y = some m) (h2 : s.vm.method? m = some meth) (h3 : meth.code = some c) (h4 : c.code = bytes)
    (h5 : (c.maxLocals == mx && c.exceptionTable.isEmpty && decide (c.maxStack ≤ mostOperands) && decide (meth.sig.returnType = rt) && !meth.locks && decide (parseMethodDescriptor y.desc = some meth.sig)) = true) : (Jvm.Cond.code y bytes mx rt).before a s = true := by
  simp only [Bool.and_eq_true, beq_iff_eq, Bool.not_eq_true', decide_eq_true_eq] at h5
  obtain ⟨⟨⟨⟨⟨g1, g2⟩, g3⟩, g4⟩, g5⟩, g6⟩ := h5
  simp [Cond.before, Cond.holds, Cond.value, h1, h2, h3, h4, g1, g2, g3, g4, g5, g6]
def isCode : Jvm.Cond → Bool
  | .code _ _ _ _ => true
  | _ => false
theorem all_split {L : List Jvm.Cond} {P : Jvm.Cond → Bool} (h1 : L.all (fun c => isCode c || P c) = true) (h2 : ∀ c ∈ L.filter isCode, P c = true) : L.all P = true := by
  refine List.all_eq_true.mpr fun c hc => ?_
  have h := List.all_eq_true.mp h1 c hc
  rcases Bool.eq_false_or_eq_true (isCode c) with hi | hi
  · exact h2 c (List.mem_filter.mpr ⟨hc, hi⟩)
  · simpa [hi] using h
set_option maxRecDepth 65536 in
theorem w_c0 : (Jvm.Cond.code x code maxLocals ret).before args0 about1 = true := code_word (m := ⟨1, 2⟩) (meth := k1m2) (c := k1c2) (by decide +kernel) rfl rfl rfl (by decide +kernel)
set_option maxRecDepth 65536 in
theorem w_c1 : (Jvm.Cond.code ({ cls := "com/example/ramification/ramification/model/StrahlerOrdersGetTotalBranchesPinLaw", name := "count", desc := "(I)I" } : Jvm.MethodName) method_2_code (1 : Nat) (Option.some Jvm.ClassFile.FieldType.int)).before args0 about1 = true := code_word (m := ⟨1, 1⟩) (meth := k1m1) (c := k1c1) (by decide +kernel) rfl rfl rfl (by decide +kernel)
set_option maxRecDepth 65536 in
theorem w_c2 : (Jvm.Cond.code ({ cls := "java/lang/Math", name := "max", desc := "(II)I" } : Jvm.MethodName) jdk_29_method_65_code (2 : Nat) (Option.some Jvm.ClassFile.FieldType.int)).before args0 about1 = true := code_word (m := ⟨2, 1⟩) (meth := k2m1) (c := k2c1) (by decide +kernel) rfl rfl rfl (by decide +kernel)
set_option maxRecDepth 65536 in
theorem w_c3 : (Jvm.Cond.code ({ cls := "com/example/ramification/ramification/model/StrahlerOrders", name := "<init>", desc := "([I[DLjava/util/Optional;)V" } : Jvm.MethodName) prog_88_method_1_code (5 : Nat) (Option.none : Option Jvm.ClassFile.FieldType)).before args0 about1 = true := code_word (m := ⟨3, 0⟩) (meth := k3m0) (c := k3c0) (by decide +kernel) rfl rfl rfl (by decide +kernel)
set_option maxRecDepth 65536 in
theorem w_c4 : (Jvm.Cond.code ({ cls := "java/lang/Object", name := "<init>", desc := "()V" } : Jvm.MethodName) object_method_1_code (1 : Nat) (Option.none : Option Jvm.ClassFile.FieldType)).before args0 about1 = true := code_word (m := ⟨0, 0⟩) (meth := k0m0) (c := k0c0) (by decide +kernel) rfl rfl rfl (by decide +kernel)
set_option maxRecDepth 65536 in
theorem w_c5 : (Jvm.Cond.code ({ cls := "com/example/ramification/ramification/model/StrahlerOrders", name := "getTotalBranches", desc := "()J" } : Jvm.MethodName) prog_88_method_7_code (7 : Nat) (Option.some Jvm.ClassFile.FieldType.long)).before args0 about1 = true := code_word (m := ⟨3, 1⟩) (meth := k3m1) (c := k3c1) (by decide +kernel) rfl rfl rfl (by decide +kernel)
def codes1 : List Jvm.Cond := [Jvm.Cond.code x code maxLocals ret, Jvm.Cond.code ({ cls := "com/example/ramification/ramification/model/StrahlerOrdersGetTotalBranchesPinLaw", name := "count", desc := "(I)I" } : Jvm.MethodName) method_2_code (1 : Nat) (Option.some Jvm.ClassFile.FieldType.int), Jvm.Cond.code ({ cls := "java/lang/Math", name := "max", desc := "(II)I" } : Jvm.MethodName) jdk_29_method_65_code (2 : Nat) (Option.some Jvm.ClassFile.FieldType.int), Jvm.Cond.code ({ cls := "com/example/ramification/ramification/model/StrahlerOrders", name := "<init>", desc := "([I[DLjava/util/Optional;)V" } : Jvm.MethodName) prog_88_method_1_code (5 : Nat) (Option.none : Option Jvm.ClassFile.FieldType), Jvm.Cond.code ({ cls := "java/lang/Object", name := "<init>", desc := "()V" } : Jvm.MethodName) object_method_1_code (1 : Nat) (Option.none : Option Jvm.ClassFile.FieldType), Jvm.Cond.code ({ cls := "com/example/ramification/ramification/model/StrahlerOrders", name := "getTotalBranches", desc := "()J" } : Jvm.MethodName) prog_88_method_7_code (7 : Nat) (Option.some Jvm.ClassFile.FieldType.long)]
set_option maxRecDepth 65536 in
theorem codes_eq : words1.filter isCode = codes1 := rfl
theorem w_codes : ∀ c ∈ words1.filter isCode, c.before args0 about1 = true := by
  rw [codes_eq]
  intro c hc
  simp only [codes1, List.mem_cons, List.not_mem_nil, or_false] at hc
  rcases hc with rfl | rfl | rfl | rfl | rfl | rfl
  · exact w_c0
  · exact w_c1
  · exact w_c2
  · exact w_c3
  · exact w_c4
  · exact w_c5
set_option maxRecDepth 65536 in
theorem w_t1 : (words1.take 24).all (fun c => isCode c || c.before args0 about1) = true := by decide +kernel
set_option maxRecDepth 65536 in
theorem w_t2 : (words1.drop 24).all (fun c => isCode c || c.before args0 about1) = true := by decide +kernel
theorem w_tables : (allAtoms (Jvm.Cond.code x code maxLocals ret :: tables_1)).before args0 about1 = true := by
  rw [allAtoms_all]
  show words1.all (fun c => c.before args0 about1) = true
  refine all_split ?_ w_codes
  rw [← List.take_append_drop 24 words1, List.all_append, w_t1, w_t2]
  rfl
set_option maxRecDepth 65536 in
theorem w_case : (Jvm.Cond.and given_1 narrow_1).before args0 about1 = true := by decide +kernel
theorem w_applies : (headSpec (Jvm.Cond.code x code maxLocals ret :: tables_1) room_1).applies x e0.platform about1 = true :=
  (Spec.applies_iff w_frames).mpr ⟨w_running, w_runnable, w_alone, w_named, w_hears, w_ripe, w_room, w_tables⟩
theorem atStart : AtStart classFile x code maxLocals ret World_1 tables_1 room_1 Calls_1 rest_1 Pre_1 launch0 p0 e0 about1 theMethod args0 below0 :=
  ⟨lists_1, trivial, launch0.admits_env _ _ _, launch0.least_env, fairChoices_fair.cas, fairChoices_fair.clock, w_frames, w_args, w_heap, w_applies, trivial, trivial, w_case⟩
end start1
theorem witness_1 : WitnessClaimed_1 := ⟨start1.p0, start1.e0, start1.about1, start1.theMethod, start1.args0, start1.below0, start1.atStart⟩
end Jvm.Pilot.@@N@@
