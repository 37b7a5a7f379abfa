import JvmDerived
import JvmDerived.Pilot.@@N@@Statement
import JvmDerived.Pilot.@@N@@Code
set_option linter.unusedVariables false
set_option linter.unusedSimpArgs false
namespace Jvm.Pilot.@@N@@
open Jvm Jvm.ClassFile Sem Op Lib Jvm.Free Jvm.Stand Jvm.LawKit Jvm.RoadKit Bundle Jvm.Pilot.@@N@@.Jvm.D
section OwnKit
variable {p : Program} {l : Launch} {e : Env} {R : Room} {s : State} {m : MethodId} {args : Array Value} {below : List Frame} {meth : Method} {c : Code} {T : State} {locs : List Loc} {cells slots : Nat}
theorem own_retI (X : Stand p l e R s m args below meth c T locs cells slots) (hx : p.tables.exec = Jvm.exec) {pc : Nat} {Ls : Array Slot} {z : Int32} {rest : List Value} (hret : meth.sig.returnType = some .int) (hd : decode c.code pc = .ok (.ireturn, 1)) {fs : List Frame}
    (hl : ∀ (f : JFrame) (acts : List Action), f.method = m → f.locked = none → f.entered = [] → (doReturn e (T.setTop f) acts (some (.int z))).1 = T.setFrames fs) : Steps p.tables e below (T.setTop (mkF m pc Ls (.int z :: rest))) (T.setFrames fs) := by
  have hm' : T.vm.method? m = some meth := X.method'
  have hn : narrow .int (.int z) = .int z := rfl
  show Steps p.tables e below (T.setTop { method := m, pc := pc, locals := Ls, stack := _ :: rest, locked := none }) _
  jvm_step X.here [X.here.top, hx, hd, hm', hret, hn]
  first | (intro acts; rw [hl _ acts rfl rfl rfl]) | rw [hl _ _ rfl rfl rfl]
  exact Steps.refl _
theorem own_retJ (X : Stand p l e R s m args below meth c T locs cells slots) (hx : p.tables.exec = Jvm.exec) {pc : Nat} {Ls : Array Slot} {z : Int64} {rest : List Value} (hret : meth.sig.returnType = some .long) (hd : decode c.code pc = .ok (.lreturn, 1)) {fs : List Frame}
    (hl : ∀ (f : JFrame) (acts : List Action), f.method = m → f.locked = none → f.entered = [] → (doReturn e (T.setTop f) acts (some (.long z))).1 = T.setFrames fs) : Steps p.tables e below (T.setTop (mkF m pc Ls (.long z :: rest))) (T.setFrames fs) := by
  have hm' : T.vm.method? m = some meth := X.method'
  have hn : narrow .long (.long z) = .long z := rfl
  show Steps p.tables e below (T.setTop { method := m, pc := pc, locals := Ls, stack := _ :: rest, locked := none }) _
  jvm_step X.here [X.here.top, hx, hd, hm', hret, hn]
  first | (intro acts; rw [hl _ acts rfl rfl rfl]) | rw [hl _ _ rfl rfl rfl]
  exact Steps.refl _
theorem own_retA (X : Stand p l e R s m args below meth c T locs cells slots) (hx : p.tables.exec = Jvm.exec) {pc : Nat} {Ls : Array Slot} {w : Value} {t : FieldType} {rest : List Value} (hret : meth.sig.returnType = some t) (ht : t.isReference = true) (hw : w.isRef = true) (hd : decode c.code pc = .ok (.areturn, 1)) {fs : List Frame}
    (hl : ∀ (f : JFrame) (acts : List Action), f.method = m → f.locked = none → f.entered = [] → (doReturn e (T.setTop f) acts (some w)).1 = T.setFrames fs) : Steps p.tables e below (T.setTop (mkF m pc Ls (w :: rest))) (T.setFrames fs) :=
  retOut X hx hret (by cases t <;> first | (cases ht; done) | (cases w <;> first | rfl | (cases hw; done))) (Or.inr (Or.inr (Or.inr (Or.inr ⟨rfl, ht, hw⟩)))) hd hl
/-- the run from S ends, returned, as Q says -/
def OwnR (p : Program) (e : Env) (below : List Frame) (s : State) (Q : Option Value → Heap → List Loc → Prop) (kc ks : Nat) (S : State) : Prop :=
  ∃ s₂ o, Steps p.tables e below S s₂ ∧ s₂.status = .running ∧ Ended s₂ below o ∧ ∃ v L, o = .returned v ∧ Q v s₂.heap L ∧ FrameEnd s o s₂ L kc ks
theorem OwnR.of {Q : Option Value → Heap → List Loc → Prop} {kc ks : Nat} {S S' : State} (k : ∀ t, Steps p.tables e below S' t → Steps p.tables e below S t) (h : OwnR p e below s Q kc ks S') : OwnR p e below s Q kc ks S := by
  obtain ⟨a, o, h1, h2⟩ := h
  exact ⟨a, o, k a h1, h2⟩
theorem own_leafI (X : Stand p l e R s m args below meth c T locs cells slots) (hx : p.tables.exec = Jvm.exec) (hlk : meth.locks = false) (hret : meth.sig.returnType = some .int) {Q : Option Value → Heap → List Loc → Prop} {kc ks pc : Nat} {Ls : Array Slot} {z : Int32} {rest : List Value} (hd : decode c.code pc = .ok (.ireturn, 1)) (hk : cells ≤ kc) (hs : slots ≤ ks) (hQ : Q (some (.int z)) T.heap locs) :
    OwnR p e below s Q kc ks (T.setTop (mkF m pc Ls (.int z :: rest))) := by
  obtain ⟨fs, hr, hrun, hended, hW, hsame⟩ := X.leave (v := some (.int z)) (fun h => by rw [hret] at h; cases h) hlk
  exact ⟨_, _, own_retI X hx hret hd hr, hrun, hended, _, _, rfl, hQ, ⟨_, rfl⟩, hW, hsame.mono hk hs⟩
theorem own_leafN (X : Stand p l e R s m args below meth c T locs cells slots) (hx : p.tables.exec = Jvm.exec) (hlk : meth.locks = false) {t : FieldType} (hret : meth.sig.returnType = some t) (ht : t = .boolean ∨ t = .byte ∨ t = .char ∨ t = .short) {Q : Option Value → Heap → List Loc → Prop} {kc ks pc : Nat} {Ls : Array Slot} {z z' : Int32} {rest : List Value} (hd : decode c.code pc = .ok (.ireturn, 1)) (hz : nar t z = z') (hk : cells ≤ kc) (hs : slots ≤ ks) (hQ : Q (some (.int z')) T.heap locs) :
    OwnR p e below s Q kc ks (T.setTop (mkF m pc Ls (.int z :: rest))) := by
  subst hz
  obtain ⟨fs, hr, hrun, hended, hW, hsame⟩ := X.leave (v := some (.int (nar t z))) (fun h => by rw [hret] at h; cases h) hlk
  exact ⟨_, _, retN X hx hret ht hd hr, hrun, hended, _, _, rfl, hQ, ⟨_, rfl⟩, hW, hsame.mono hk hs⟩
theorem own_leafJ (X : Stand p l e R s m args below meth c T locs cells slots) (hx : p.tables.exec = Jvm.exec) (hlk : meth.locks = false) (hret : meth.sig.returnType = some .long) {Q : Option Value → Heap → List Loc → Prop} {kc ks pc : Nat} {Ls : Array Slot} {z : Int64} {rest : List Value} (hd : decode c.code pc = .ok (.lreturn, 1)) (hk : cells ≤ kc) (hs : slots ≤ ks) (hQ : Q (some (.long z)) T.heap locs) :
    OwnR p e below s Q kc ks (T.setTop (mkF m pc Ls (.long z :: rest))) := by
  obtain ⟨fs, hr, hrun, hended, hW, hsame⟩ := X.leave (v := some (.long z)) (fun h => by rw [hret] at h; cases h) hlk
  exact ⟨_, _, own_retJ X hx hret hd hr, hrun, hended, _, _, rfl, hQ, ⟨_, rfl⟩, hW, hsame.mono hk hs⟩
theorem own_leafA (X : Stand p l e R s m args below meth c T locs cells slots) (hx : p.tables.exec = Jvm.exec) (hlk : meth.locks = false) {t : FieldType} (hret : meth.sig.returnType = some t) (ht : t.isReference = true) {Q : Option Value → Heap → List Loc → Prop} {kc ks pc : Nat} {Ls : Array Slot} {w : Value} (hw : w.isRef = true) {rest : List Value} (hd : decode c.code pc = .ok (.areturn, 1)) (hk : cells ≤ kc) (hs : slots ≤ ks) (hQ : Q (some w) T.heap locs) :
    OwnR p e below s Q kc ks (T.setTop (mkF m pc Ls (w :: rest))) := by
  obtain ⟨fs, hr, hrun, hended, hW, hsame⟩ := X.leave (v := some w) (fun h => by rw [hret] at h; cases h) hlk
  exact ⟨_, _, own_retA X hx hret ht hw hd hr, hrun, hended, _, _, rfl, hQ, ⟨_, rfl⟩, hW, hsame.mono hk hs⟩
theorem own_leafV (X : Stand p l e R s m args below meth c T locs cells slots) (hx : p.tables.exec = Jvm.exec) (hlk : meth.locks = false) (hret : meth.sig.returnType = none) {Q : Option Value → Heap → List Loc → Prop} {kc ks pc : Nat} {Ls : Array Slot} (hd : decode c.code pc = .ok (.return_, 1)) (hk : cells ≤ kc) (hs : slots ≤ ks) (hQ : Q none T.heap locs) :
    OwnR p e below s Q kc ks (T.setTop (mkF m pc Ls [])) := by
  obtain ⟨fs, hr, hrun, hended, hW, hsame⟩ := X.leave (v := none) (fun _ => rfl) hlk
  exact ⟨_, _, X.returnOut hx hret hd hr, hrun, hended, _, _, rfl, hQ, ⟨_, rfl⟩, hW, hsame.mono hk hs⟩
theorem own_sta {Z : State} {h h' : Heap} {C n d : String} {v : Value} (F : Sta Z h C n d v) (K : Keep h h' []) : Sta Z h' C n d v := by
  obtain ⟨cf, i, k, f, st, cell, h1, h2, h3, h4, h5, r⟩ := F
  exact ⟨cf, i, k, f, st, cell, h1, h2, h3, h4, K.2.1 _ _ h5 nin0, r⟩
theorem own_arr {Z : State} {h h' : Heap} {a : Addr} {c : Cell} {ty : FieldType} {ws : List Addr} (A : Arr Z h a c ty) (K : Keep h h' ws) (q : a ∉ ws) : Arr Z h' a c ty := ⟨K.2.1 _ _ A.1 q, A.2⟩
theorem own_lclt (a b : Int64) : lcmpW a b < 0 ↔ a < b := by
  obtain ⟨h1, h2, h3⟩ := c_lcmp a b
  have e1 := @Int64.lt_iff_toInt_lt a b
  have e2 := @Int32.lt_iff_toInt_lt (lcmpW a b) 0
  have e0 : (0 : Int32).toInt = 0 := by decide
  rw [e1, e2, e0]; omega
theorem own_lcgt (a b : Int64) : 0 < lcmpW a b ↔ b < a := by
  obtain ⟨h1, h2, h3⟩ := c_lcmp a b
  have e1 := @Int64.lt_iff_toInt_lt b a
  have e2 := @Int32.lt_iff_toInt_lt 0 (lcmpW a b)
  have e0 : (0 : Int32).toInt = 0 := by decide
  rw [e1, e2, e0]; omega
theorem own_lceq (a b : Int64) : lcmpW a b = 0 ↔ a = b := by
  obtain ⟨h1, h2, h3⟩ := c_lcmp a b
  have e0 : (0 : Int32).toInt = 0 := by decide
  rw [← Int64.toInt_inj, ← Int32.toInt_inj, e0]; omega
end OwnKit
theorem own_nar {z : Int32} (h : z = 0 ∨ z = 1) : nar .boolean z = z := by rcases h with rfl | rfl <;> rfl
theorem own_mod (x y : Int32) (hy : 0 < y.toInt) : 0 ≤ ((x &&& 2147483647) % y).toInt ∧ ((x &&& 2147483647) % y).toInt < y.toInt := by
  have h := (c_and x 2147483647 (by decide)).1
  have q := (c_iremV (x &&& 2147483647) y).1 h hy
  exact ⟨q.1, q.2.1⟩
theorem own_three (x : Int32) : (x &&& 2147483647) % 3 = 0 ∨ (x &&& 2147483647) % 3 = 1 ∨ (x &&& 2147483647) % 3 = 2 := by
  obtain ⟨h1, h2⟩ := own_mod x 3 (by decide)
  have e : (3 : Int32).toInt = 3 := by decide
  rw [e] at h2
  have e0 : (0 : Int32).toInt = 0 := by decide
  have e1 : (1 : Int32).toInt = 1 := by decide
  have e2 : (2 : Int32).toInt = 2 := by decide
  simp only [← Int32.toInt_inj, e0, e1, e2]
  omega
theorem own_law (t f g : Int32) (h : t = 0 ∨ t = 1 ∨ t = 2) : ((t ||| (if f = 0 then 0 else 4)) ||| (if g = 0 then 0 else 8)) = (if g = 0 then (if f = 0 then t else t + 4) else (if f = 0 then t else t + 4) + 8) := by
  by_cases hf : f = 0 <;> by_cases hg : g = 0 <;> simp only [hf, hg, if_true, if_false] <;> rcases h with rfl | rfl | rfl <;> decide
theorem pn_java_lang_Record : plainName "java/lang/Record" = true := by first | (simp [plainName, overriddenIn]; done) | decide +kernel
theorem ef_rm2 (m : MethodId) (x0 : Addr) : entryFrame m #[(.ref x0)] 1 = mkF m 0 #[.val (.ref x0)] [] := by first | (simp [entryFrame, mkF, argsToLocals, Value.category]; done) | rfl
theorem d2_0 : decode jdk_30_method_1_code 0 = .ok (.aload_n 0, 1) := by decide +kernel
theorem d2_1 : decode jdk_30_method_1_code 1 = .ok (.invokespecial 1, 3) := by decide +kernel
theorem d2_4 : decode jdk_30_method_1_code 4 = .ok (.return_, 1) := by decide +kernel
def Q2 (Z : State)  (h0 : Heap) (n0 : Nat) (v : Option Value) (h : Heap) (L : List Loc) : Prop := v = none ∧ Fr n0 L ∧ h = h0
set_option maxRecDepth 65536 in
set_option maxHeartbeats 40000000 in
theorem rm2 (l : Launch) (Z : State) (a0 : Array Value) (hw : ∀ d ∈ tables_1, d.before a0 Z = true) (ws : List Jvm.Cond) (a1 : Addr) (h0 : Heap) (n0 : Nat) (Z0 : n0 ≤ h0.size) :
    MetFree l (⟨"java/lang/Record", "<init>", "()V"⟩ : MethodName) (head1 (Jvm.Cond.code (⟨"java/lang/Record", "<init>", "()V"⟩ : MethodName) jdk_30_method_1_code 1 none :: ws) ({ frames := 1, cells := 0, slots := 0, locals := 12 } : Room)) (fun a U => a = #[(.ref a1)] ∧ Z.Warmed39 U.vm ∧ U.heap = h0) (fun _ _ _ _ _ => True) (fun _ U o U' => ∃ v L, o = .returned v ∧ Q2 Z  h0 n0 v U'.heap L ∧ FrameEnd U o U' L ({ frames := 1, cells := 0, slots := 0, locals := 12 } : Room).cells ({ frames := 1, cells := 0, slots := 0, locals := 12 } : Room).slots) := by
  refine MetFree.of_bodySF (plainFor_of_name pn_java_lang_Record) hisR ?_
  intro p e s m args below meth c s₁ Bd hml0 hP hK
  obtain ⟨rfl, hZ, hh⟩ := hP
  have hx := Bd.exec
  have hby := Bd.bytes
  have hlk := BodyLoose.notSynchronized Bd
  have hml : c.maxLocals = 1 := hml0
  have hown : s.vm.findClass "java/lang/Record" = some m.cls := findClass_of_methodNamed Bd.named
  have hnm := (name_of_methodNamed Bd.named Bd.method).1
  have X0 : Stand p l e ({ frames := 1, cells := 0, slots := 0, locals := 12 } : Room) s m #[(.ref a1)] below meth c s₁ [] 0 0 := Stand.of_body Bd
  have e0 : s₁.heap = h0 := by rw [← hh, Bd.state]; rfl
  have N0 := Fr.nil n0
  refine OwnR.of (s := s) (Q := Q2 Z  h0 n0) (fun t k => castTop (ef_rm2 m a1) k) ?_
  show OwnR _ _ _ _ _ _ _ (s₁.setTop (mkF m 0 #[.val (.ref a1)] []))
  refine OwnR.of (fun _ hr => XS.aloadN X0.here hx rfl (hb hby d2_0) rfl rfl hr) ?_
  show OwnR _ _ _ _ _ _ _ (s₁.setTop (mkF m 1 #[.val (.ref a1)] [(.ref a1)]))
  obtain ⟨T2, X2, e2, st2⟩ := initO X0 hx hZ hown (hw _ (List.mem_of_getElem? (i := 12) rfl)) (hw _ (List.mem_of_getElem? (i := 13) rfl)) (hw _ (List.mem_of_getElem? (i := 14) rfl)) e0 (g := (mkF m 1 #[.val (.ref a1)] [(.ref a1)])) rfl (by rw [hml]; rfl) rfl (hb hby d2_1) (by decide) (W := 0) (by show 2 * 0 + _ ≤ _; exact Nat.le_of_eq rfl) (by decide)
  refine OwnR.of (st2) ?_
  show OwnR _ _ _ _ _ _ _ (T2.setTop (mkF m 4 #[.val (.ref a1)] []))
  refine own_leafV X2 hx hlk Bd.returns (hb hby d2_4) (by decide) (by decide) ?_
  show Q2 Z  h0 n0 _ T2.heap _
  rw [show T2.heap = h0 from e2]
  refine ⟨rfl, N0, rfl⟩
theorem pn_com_example_kurir_kurir_routing_SubscriptionOptions : plainName "com/example/kurir/kurir/routing/SubscriptionOptions" = true := by first | (simp [plainName, overriddenIn]; done) | decide +kernel
theorem ef_rm1 (m : MethodId) (x0 : Addr) (x1 : Int32) (x2 : Int32) (x3 : Int32) : entryFrame m #[(.ref x0), (.int x1), (.int x2), (.int x3)] 4 = mkF m 0 #[.val (.ref x0), .val (.int x1), .val (.int x2), .val (.int x3)] [] := by first | (simp [entryFrame, mkF, argsToLocals, Value.category]; done) | rfl
theorem d1_0 : decode prog_70_method_1_code 0 = .ok (.aload_n 0, 1) := by decide +kernel
theorem d1_1 : decode prog_70_method_1_code 1 = .ok (.invokespecial 1, 3) := by decide +kernel
theorem pd___V : parseMethodDescriptor "()V" = some ⟨[], none⟩ := by decide +kernel
theorem d1_4 : decode prog_70_method_1_code 4 = .ok (.aload_n 0, 1) := by decide +kernel
theorem d1_5 : decode prog_70_method_1_code 5 = .ok (.iload_n 1, 1) := by decide +kernel
theorem d1_6 : decode prog_70_method_1_code 6 = .ok (.putfield 7, 3) := by decide +kernel
theorem d1_9 : decode prog_70_method_1_code 9 = .ok (.aload_n 0, 1) := by decide +kernel
theorem d1_10 : decode prog_70_method_1_code 10 = .ok (.iload_n 2, 1) := by decide +kernel
theorem d1_11 : decode prog_70_method_1_code 11 = .ok (.putfield 13, 3) := by decide +kernel
theorem d1_14 : decode prog_70_method_1_code 14 = .ok (.aload_n 0, 1) := by decide +kernel
theorem d1_15 : decode prog_70_method_1_code 15 = .ok (.iload_n 3, 1) := by decide +kernel
theorem d1_16 : decode prog_70_method_1_code 16 = .ok (.putfield 17, 3) := by decide +kernel
theorem d1_19 : decode prog_70_method_1_code 19 = .ok (.return_, 1) := by decide +kernel
def Q1 (Z : State) (a1 : Addr) (p2 : Int32) (p3 : Int32) (p4 : Int32) (h0 : Heap) (n0 : Nat) (v : Option Value) (h : Heap) (L : List Loc) : Prop := v = none ∧ Fr n0 L ∧ Keep h0 h [a1] ∧ Exa Z h a1 "com/example/kurir/kurir/routing/SubscriptionOptions" ∧ Fld Z h a1 "com/example/kurir/kurir/routing/SubscriptionOptions" "qos" "I" (.int p2) ∧ Fld Z h a1 "com/example/kurir/kurir/routing/SubscriptionOptions" "noLocal" "Z" (.int p3) ∧ Fld Z h a1 "com/example/kurir/kurir/routing/SubscriptionOptions" "retainAsPublished" "Z" (.int p4)
set_option maxRecDepth 65536 in
set_option maxHeartbeats 40000000 in
theorem rm1 (l : Launch) (Z : State) (a0 : Array Value) (hw : ∀ d ∈ tables_1, d.before a0 Z = true) (ws : List Jvm.Cond) (a1 : Addr) (p2 : Int32) (p3 : Int32) (p4 : Int32) (h0 : Heap) (n0 : Nat) (Z0 : n0 ≤ h0.size) (E_a1 : Exa Z h0 a1 "com/example/kurir/kurir/routing/SubscriptionOptions") (F_qos_a1 : Fld Z h0 a1 "com/example/kurir/kurir/routing/SubscriptionOptions" "qos" "I" (.int (0 : Int32))) (F_noLocal_a1 : Fld Z h0 a1 "com/example/kurir/kurir/routing/SubscriptionOptions" "noLocal" "Z" (.int (0 : Int32))) (F_retainAsPublished_a1 : Fld Z h0 a1 "com/example/kurir/kurir/routing/SubscriptionOptions" "retainAsPublished" "Z" (.int (0 : Int32))) (g_a1 : n0 ≤ a1) (hz3 : p3 = 0 ∨ p3 = 1) (hz4 : p4 = 0 ∨ p4 = 1) :
    MetFree l (⟨"com/example/kurir/kurir/routing/SubscriptionOptions", "<init>", "(IZZ)V"⟩ : MethodName) (head1 (Jvm.Cond.code (⟨"com/example/kurir/kurir/routing/SubscriptionOptions", "<init>", "(IZZ)V"⟩ : MethodName) prog_70_method_1_code 4 none :: ws) ({ frames := 2, cells := 0, slots := 0, locals := 24 } : Room)) (fun a U => a = #[(.ref a1), (.int p2), (.int p3), (.int p4)] ∧ Z.Warmed39 U.vm ∧ U.heap = h0) (fun _ _ _ _ _ => True) (fun _ U o U' => ∃ v L, o = .returned v ∧ Q1 Z a1 p2 p3 p4 h0 n0 v U'.heap L ∧ FrameEnd U o U' L ({ frames := 2, cells := 0, slots := 0, locals := 24 } : Room).cells ({ frames := 2, cells := 0, slots := 0, locals := 24 } : Room).slots) := by
  refine MetFree.of_bodySF (plainFor_of_name pn_com_example_kurir_kurir_routing_SubscriptionOptions) hisR ?_
  intro p e s m args below meth c s₁ Bd hml0 hP hK
  obtain ⟨rfl, hZ, hh⟩ := hP
  have hx := Bd.exec
  have hby := Bd.bytes
  have hlk := BodyLoose.notSynchronized Bd
  have hml : c.maxLocals = 4 := hml0
  have hown : s.vm.findClass "com/example/kurir/kurir/routing/SubscriptionOptions" = some m.cls := findClass_of_methodNamed Bd.named
  have hnm := (name_of_methodNamed Bd.named Bd.method).1
  have X0 : Stand p l e ({ frames := 2, cells := 0, slots := 0, locals := 24 } : Room) s m #[(.ref a1), (.int p2), (.int p3), (.int p4)] below meth c s₁ [] 0 0 := Stand.of_body Bd
  have e0 : s₁.heap = h0 := by rw [← hh, Bd.state]; rfl
  have N0 := Fr.nil n0
  refine OwnR.of (s := s) (Q := Q1 Z a1 p2 p3 p4 h0 n0) (fun t k => castTop (ef_rm1 m a1 p2 p3 p4) k) ?_
  show OwnR _ _ _ _ _ _ _ (s₁.setTop (mkF m 0 #[.val (.ref a1), .val (.int p2), .val (.int p3), .val (.int p4)] []))
  refine OwnR.of (fun _ hr => XS.aloadN X0.here hx rfl (hb hby d1_0) rfl rfl hr) ?_
  show OwnR _ _ _ _ _ _ _ (s₁.setTop (mkF m 1 #[.val (.ref a1), .val (.int p2), .val (.int p3), .val (.int p4)] [(.ref a1)]))
  obtain ⟨_, _, ⟨T1, L1, kc1, ns1⟩, -, X1, ⟨Lc1, hQ1, l1, y1, z1⟩, st1⟩ := X0.specialBack hx (y := (⟨"java/lang/Record", "<init>", "()V"⟩ : MethodName)) rfl hown (mvT hZ (hw _ (List.mem_of_getElem? (i := 7) rfl))) (mvT hZ (hw _ (List.mem_of_getElem? (i := 8) rfl))) (mvT hZ (hw _ (List.mem_of_getElem? (i := 11) rfl))) (by decide) (backOf (W := 0) (rm2 l Z a0 hw [] a1 h0 n0 (Nat.le_trans Z0 (Keep.refl h0 [a1]).1) ) hZ (hw _ (List.mem_of_getElem? (i := 11) rfl)) (hw _ (List.mem_of_getElem? (i := 10) rfl)) (by decide) (by decide)) (g := (mkF m 1 #[.val (.ref a1), .val (.int p2), .val (.int p3), .val (.int p4)] [(.ref a1)])) rfl (by rw [hml]; rfl) (Steps.refl _) (a := a1) (argsL := []) (rest := []) (lenOf pd___V rfl) rfl (by show 2 * 0 + _ ≤ _; exact Nat.le_of_eq rfl) (hb hby d1_1) (fun _ _ => ⟨rfl, e0, (by decide : 0 + 0 ≤ _), (by decide : 0 + 0 ≤ _)⟩)
  dsimp only [Pt.U, Pt.locs, Pt.cells, Pt.slots] at X1 l1 y1 z1 st1 hQ1
  subst l1 y1 z1
  obtain ⟨rfl, N1q, e1⟩ := hQ1
  have N1 := Fr.app N0 N1q
  refine OwnR.of (fun _ hr => st1.trans hr) ?_
  show OwnR _ _ _ _ _ _ _ (T1.setTop (mkF m 4 #[.val (.ref a1), .val (.int p2), .val (.int p3), .val (.int p4)] []))
  refine OwnR.of (fun _ hr => XS.aloadN X1.here hx rfl (hb hby d1_4) rfl rfl hr) ?_
  show OwnR _ _ _ _ _ _ _ (T1.setTop (mkF m 5 #[.val (.ref a1), .val (.int p2), .val (.int p3), .val (.int p4)] [(.ref a1)]))
  refine OwnR.of (fun _ hr => XS.iloadN X1.here hx rfl (hb hby d1_5) rfl hr) ?_
  show OwnR _ _ _ _ _ _ _ (T1.setTop (mkF m 6 #[.val (.ref a1), .val (.int p2), .val (.int p3), .val (.int p4)] [(.int p2), (.ref a1)]))
  obtain ⟨T2, h2, X2, e2, W2, st2⟩ := putF X1 hx hZ hown (host := "") (Or.inl (hw _ (List.mem_of_getElem? (i := 15) rfl))) Via.refl e1 F_qos_a1 E_a1 (Or.inr ⟨(hw _ (List.mem_of_getElem? (i := 16) rfl)), rfl, hnm⟩) (hw _ (List.mem_of_getElem? (i := 2) rfl)) (ty := .int) (by decide) rfl rfl (g := (mkF m 6 #[.val (.ref a1), .val (.int p2), .val (.int p3), .val (.int p4)] [(.int p2), (.ref a1)])) rfl rfl (hb hby d1_6)
  refine OwnR.of (st2) ?_
  have F2 := Fld.same W2 F_qos_a1
  have K2 : Keep h0 h2 [a1] := Keep.wr (Keep.refl h0 [a1]) W2 (Or.inl (List.mem_of_getElem? (i := 0) rfl))
  have N2 := Fr.snoc X2 N1 g_a1
  show OwnR _ _ _ _ _ _ _ (T2.setTop (mkF m 9 #[.val (.ref a1), .val (.int p2), .val (.int p3), .val (.int p4)] []))
  refine OwnR.of (fun _ hr => XS.aloadN X2.here hx rfl (hb hby d1_9) rfl rfl hr) ?_
  show OwnR _ _ _ _ _ _ _ (T2.setTop (mkF m 10 #[.val (.ref a1), .val (.int p2), .val (.int p3), .val (.int p4)] [(.ref a1)]))
  refine OwnR.of (fun _ hr => XS.iloadN X2.here hx rfl (hb hby d1_10) rfl hr) ?_
  show OwnR _ _ _ _ _ _ _ (T2.setTop (mkF m 11 #[.val (.ref a1), .val (.int p2), .val (.int p3), .val (.int p4)] [(.int p3), (.ref a1)]))
  obtain ⟨T3, h3, X3, e3, W3, st3⟩ := putFN (v := (.int p3)) X2 hx hZ hown (hw _ (List.mem_of_getElem? (i := 17) rfl)) Via.refl e2 (Fld.other W2 F_noLocal_a1 (Or.inr (slot_ne (Or.inr (hw _ (List.mem_of_getElem? (i := 18) rfl))) (Or.inr (hw _ (List.mem_of_getElem? (i := 16) rfl))) (by decide) (t := .boolean) (t' := .int) (by decide) (by decide)))) (Exa.keep E_a1 K2) (Or.inr ⟨(hw _ (List.mem_of_getElem? (i := 18) rfl)), rfl, hnm⟩) (hw _ (List.mem_of_getElem? (i := 2) rfl)) (ty := .boolean) (v' := (.int p3)) (by decide) (congrArg Value.int (own_nar hz3)) ((own_nar hz3) ▸ fits_nar_bool _) (g := (mkF m 11 #[.val (.ref a1), .val (.int p2), .val (.int p3), .val (.int p4)] [(.int p3), (.ref a1)])) rfl rfl (hb hby d1_11)
  refine OwnR.of (st3) ?_
  have F3 := Fld.same W3 (Fld.other W2 F_noLocal_a1 (Or.inr (slot_ne (Or.inr (hw _ (List.mem_of_getElem? (i := 18) rfl))) (Or.inr (hw _ (List.mem_of_getElem? (i := 16) rfl))) (by decide) (t := .boolean) (t' := .int) (by decide) (by decide))))
  have K3 : Keep h0 h3 [a1] := Keep.wr K2 W3 (Or.inl (List.mem_of_getElem? (i := 0) rfl))
  have N3 := Fr.snoc X3 N2 g_a1
  show OwnR _ _ _ _ _ _ _ (T3.setTop (mkF m 14 #[.val (.ref a1), .val (.int p2), .val (.int p3), .val (.int p4)] []))
  refine OwnR.of (fun _ hr => XS.aloadN X3.here hx rfl (hb hby d1_14) rfl rfl hr) ?_
  show OwnR _ _ _ _ _ _ _ (T3.setTop (mkF m 15 #[.val (.ref a1), .val (.int p2), .val (.int p3), .val (.int p4)] [(.ref a1)]))
  refine OwnR.of (fun _ hr => XS.iloadN X3.here hx rfl (hb hby d1_15) rfl hr) ?_
  show OwnR _ _ _ _ _ _ _ (T3.setTop (mkF m 16 #[.val (.ref a1), .val (.int p2), .val (.int p3), .val (.int p4)] [(.int p4), (.ref a1)]))
  obtain ⟨T4, h4, X4, e4, W4, st4⟩ := putFN (v := (.int p4)) X3 hx hZ hown (hw _ (List.mem_of_getElem? (i := 19) rfl)) Via.refl e3 (Fld.other W3 (Fld.other W2 F_retainAsPublished_a1 (Or.inr (slot_ne (Or.inr (hw _ (List.mem_of_getElem? (i := 20) rfl))) (Or.inr (hw _ (List.mem_of_getElem? (i := 16) rfl))) (by decide) (t := .boolean) (t' := .int) (by decide) (by decide)))) (Or.inr (slot_ne (Or.inr (hw _ (List.mem_of_getElem? (i := 20) rfl))) (Or.inr (hw _ (List.mem_of_getElem? (i := 18) rfl))) (by decide) (t := .boolean) (t' := .boolean) (by decide) (by decide)))) (Exa.keep E_a1 K3) (Or.inr ⟨(hw _ (List.mem_of_getElem? (i := 20) rfl)), rfl, hnm⟩) (hw _ (List.mem_of_getElem? (i := 2) rfl)) (ty := .boolean) (v' := (.int p4)) (by decide) (congrArg Value.int (own_nar hz4)) ((own_nar hz4) ▸ fits_nar_bool _) (g := (mkF m 16 #[.val (.ref a1), .val (.int p2), .val (.int p3), .val (.int p4)] [(.int p4), (.ref a1)])) rfl rfl (hb hby d1_16)
  refine OwnR.of (st4) ?_
  have F4 := Fld.same W4 (Fld.other W3 (Fld.other W2 F_retainAsPublished_a1 (Or.inr (slot_ne (Or.inr (hw _ (List.mem_of_getElem? (i := 20) rfl))) (Or.inr (hw _ (List.mem_of_getElem? (i := 16) rfl))) (by decide) (t := .boolean) (t' := .int) (by decide) (by decide)))) (Or.inr (slot_ne (Or.inr (hw _ (List.mem_of_getElem? (i := 20) rfl))) (Or.inr (hw _ (List.mem_of_getElem? (i := 18) rfl))) (by decide) (t := .boolean) (t' := .boolean) (by decide) (by decide))))
  have K4 : Keep h0 h4 [a1] := Keep.wr K3 W4 (Or.inl (List.mem_of_getElem? (i := 0) rfl))
  have N4 := Fr.snoc X4 N3 g_a1
  show OwnR _ _ _ _ _ _ _ (T4.setTop (mkF m 19 #[.val (.ref a1), .val (.int p2), .val (.int p3), .val (.int p4)] []))
  refine own_leafV X4 hx hlk Bd.returns (hb hby d1_19) (by decide) (by decide) ?_
  show Q1 Z a1 p2 p3 p4 h0 n0 _ T4.heap _
  rw [show T4.heap = h4 from e4]
  refine ⟨rfl, N4, ⟨K4, (Exa.keep E_a1 K4), (Fld.other W4 (Fld.other W3 F2 (Or.inr (slot_ne (Or.inr (hw _ (List.mem_of_getElem? (i := 16) rfl))) (Or.inr (hw _ (List.mem_of_getElem? (i := 18) rfl))) (by decide) (t := .int) (t' := .boolean) (by decide) (by decide)))) (Or.inr (slot_ne (Or.inr (hw _ (List.mem_of_getElem? (i := 16) rfl))) (Or.inr (hw _ (List.mem_of_getElem? (i := 20) rfl))) (by decide) (t := .int) (t' := .boolean) (by decide) (by decide)))), (Fld.other W4 F3 (Or.inr (slot_ne (Or.inr (hw _ (List.mem_of_getElem? (i := 18) rfl))) (Or.inr (hw _ (List.mem_of_getElem? (i := 20) rfl))) (by decide) (t := .boolean) (t' := .boolean) (by decide) (by decide)))), F4⟩⟩
theorem ef_rm4 (m : MethodId) (x0 : Addr) : entryFrame m #[(.ref x0)] 1 = mkF m 0 #[.val (.ref x0)] [] := by first | (simp [entryFrame, mkF, argsToLocals, Value.category]; done) | rfl
theorem d4_0 : decode prog_70_method_4_code 0 = .ok (.aload_n 0, 1) := by decide +kernel
theorem d4_1 : decode prog_70_method_4_code 1 = .ok (.getfield 7, 3) := by decide +kernel
theorem d4_4 : decode prog_70_method_4_code 4 = .ok (.aload_n 0, 1) := by decide +kernel
theorem d4_5 : decode prog_70_method_4_code 5 = .ok (.getfield 13, 3) := by decide +kernel
theorem d4_8 : decode prog_70_method_4_code 8 = .ok (.ifCond .eq 7, 3) := by decide +kernel
theorem d4_15 : decode prog_70_method_4_code 15 = .ok (.iconst 0, 1) := by decide +kernel
theorem d4_11 : decode prog_70_method_4_code 11 = .ok (.iconst 4, 1) := by decide +kernel
theorem d4_12 : decode prog_70_method_4_code 12 = .ok (.goto 4, 3) := by decide +kernel
theorem d4_16 : decode prog_70_method_4_code 16 = .ok (.ior, 1) := by decide +kernel
theorem d4_17 : decode prog_70_method_4_code 17 = .ok (.aload_n 0, 1) := by decide +kernel
theorem d4_18 : decode prog_70_method_4_code 18 = .ok (.getfield 17, 3) := by decide +kernel
theorem d4_21 : decode prog_70_method_4_code 21 = .ok (.ifCond .eq 8, 3) := by decide +kernel
theorem d4_29 : decode prog_70_method_4_code 29 = .ok (.iconst 0, 1) := by decide +kernel
theorem d4_24 : decode prog_70_method_4_code 24 = .ok (.bipush 8, 2) := by decide +kernel
theorem d4_26 : decode prog_70_method_4_code 26 = .ok (.goto 4, 3) := by decide +kernel
theorem d4_30 : decode prog_70_method_4_code 30 = .ok (.ior, 1) := by decide +kernel
theorem d4_31 : decode prog_70_method_4_code 31 = .ok (.ireturn, 1) := by decide +kernel
def Q4 (Z : State) (x1 : Int32) (x2 : Int32) (x3 : Int32) (h0 : Heap) (n0 : Nat) (v : Option Value) (h : Heap) (L : List Loc) : Prop := v = some (.int ((x1 ||| (if x2 = 0 then 0 else 4)) ||| (if x3 = 0 then 0 else 8))) ∧ Fr n0 L ∧ h = h0
set_option maxRecDepth 65536 in
set_option maxHeartbeats 40000000 in
theorem rm4 (l : Launch) (Z : State) (a0 : Array Value) (hw : ∀ d ∈ tables_1, d.before a0 Z = true) (ws : List Jvm.Cond) (a1 : Addr) (x1 x2 x3 : Int32) (h0 : Heap) (n0 : Nat) (Z0 : n0 ≤ h0.size) (E_a1 : Exa Z h0 a1 "com/example/kurir/kurir/routing/SubscriptionOptions") (F_qos_a1 : Fld Z h0 a1 "com/example/kurir/kurir/routing/SubscriptionOptions" "qos" "I" (.int x1)) (F_noLocal_a1 : Fld Z h0 a1 "com/example/kurir/kurir/routing/SubscriptionOptions" "noLocal" "Z" (.int x2)) (F_retainAsPublished_a1 : Fld Z h0 a1 "com/example/kurir/kurir/routing/SubscriptionOptions" "retainAsPublished" "Z" (.int x3)) :
    MetFree l (⟨"com/example/kurir/kurir/routing/SubscriptionOptions", "code", "()I"⟩ : MethodName) (head1 (Jvm.Cond.code (⟨"com/example/kurir/kurir/routing/SubscriptionOptions", "code", "()I"⟩ : MethodName) prog_70_method_4_code 1 (some .int) :: ws) ({ frames := 0, cells := 0, slots := 0, locals := 0 } : Room)) (fun a U => a = #[(.ref a1)] ∧ Z.Warmed39 U.vm ∧ U.heap = h0) (fun _ _ _ _ _ => True) (fun _ U o U' => ∃ v L, o = .returned v ∧ Q4 Z x1 x2 x3 h0 n0 v U'.heap L ∧ FrameEnd U o U' L ({ frames := 0, cells := 0, slots := 0, locals := 0 } : Room).cells ({ frames := 0, cells := 0, slots := 0, locals := 0 } : Room).slots) := by
  refine MetFree.of_bodySF (plainFor_of_name pn_com_example_kurir_kurir_routing_SubscriptionOptions) hisR ?_
  intro p e s m args below meth c s₁ Bd hml0 hP hK
  obtain ⟨rfl, hZ, hh⟩ := hP
  have hx := Bd.exec
  have hby := Bd.bytes
  have hlk := BodyLoose.notSynchronized Bd
  have hml : c.maxLocals = 1 := hml0
  have hown : s.vm.findClass "com/example/kurir/kurir/routing/SubscriptionOptions" = some m.cls := findClass_of_methodNamed Bd.named
  have hnm := (name_of_methodNamed Bd.named Bd.method).1
  have X0 : Stand p l e ({ frames := 0, cells := 0, slots := 0, locals := 0 } : Room) s m #[(.ref a1)] below meth c s₁ [] 0 0 := Stand.of_body Bd
  have e0 : s₁.heap = h0 := by rw [← hh, Bd.state]; rfl
  have N0 := Fr.nil n0
  refine OwnR.of (s := s) (Q := Q4 Z x1 x2 x3 h0 n0) (fun t k => castTop (ef_rm4 m a1) k) ?_
  show OwnR _ _ _ _ _ _ _ (s₁.setTop (mkF m 0 #[.val (.ref a1)] []))
  refine OwnR.of (fun _ hr => XS.aloadN X0.here hx rfl (hb hby d4_0) rfl rfl hr) ?_
  show OwnR _ _ _ _ _ _ _ (s₁.setTop (mkF m 1 #[.val (.ref a1)] [(.ref a1)]))
  obtain ⟨T1, X1, e1, st1⟩ := getF X0 hx hZ hown (host := "") (Or.inl (hw _ (List.mem_of_getElem? (i := 15) rfl))) Via.refl e0 F_qos_a1 (g := (mkF m 1 #[.val (.ref a1)] [(.ref a1)])) rfl rfl (hb hby d4_1)
  refine OwnR.of (st1) ?_
  show OwnR _ _ _ _ _ _ _ (T1.setTop (mkF m 4 #[.val (.ref a1)] [(.int x1)]))
  refine OwnR.of (fun _ hr => XS.aloadN X1.here hx rfl (hb hby d4_4) rfl rfl hr) ?_
  show OwnR _ _ _ _ _ _ _ (T1.setTop (mkF m 5 #[.val (.ref a1)] [(.ref a1), (.int x1)]))
  obtain ⟨T2, X2, e2, st2⟩ := getF X1 hx hZ hown (host := "") (Or.inl (hw _ (List.mem_of_getElem? (i := 17) rfl))) Via.refl e1 F_noLocal_a1 (g := (mkF m 5 #[.val (.ref a1)] [(.ref a1), (.int x1)])) rfl rfl (hb hby d4_5)
  refine OwnR.of (st2) ?_
  show OwnR _ _ _ _ _ _ _ (T2.setTop (mkF m 8 #[.val (.ref a1)] [(.int x2), (.int x1)]))
  obtain ⟨v3, hv3⟩ : ∃ z : Int32, z = (if x2 = (0 : Int32) then (0 : Int32) else (4 : Int32)) := ⟨_, rfl⟩
  suffices J16_4 : OwnR p e below s (Q4 Z x1 x2 x3 h0 n0) ({ frames := 0, cells := 0, slots := 0, locals := 0 } : Room).cells ({ frames := 0, cells := 0, slots := 0, locals := 0 } : Room).slots (T2.setTop (mkF m 16 #[.val (.ref a1)] [(.int v3), (.int x1)])) by
    by_cases hc8_5 : x2 = (0 : Int32)
    · skip
      refine OwnR.of (fun _ hr => XS.ifYes X2.here hx rfl (pc0 := 8) (pc' := 15) rfl (hb hby d4_8) rfl ((if0 _ _).trans (teq hc8_5).1) (by decide) (by decide) hr) ?_
      show OwnR _ _ _ _ _ _ _ (T2.setTop (mkF m 15 #[.val (.ref a1)] [(.int x1)]))
      refine OwnR.of (fun _ hr => XS.iconst X2.here hx rfl (hb hby d4_15) hr) ?_
      show OwnR _ _ _ _ _ _ _ (T2.setTop (mkF m 16 #[.val (.ref a1)] [(.int (0 : Int32)), (.int x1)]))
      simp only [if_pos hc8_5] at hv3
      subst hv3
      exact J16_4
    · skip
      refine OwnR.of (fun _ hr => XS.ifNo X2.here hx rfl (hb hby d4_8) rfl ((if0 _ _).trans (feq hc8_5).1) hr) ?_
      show OwnR _ _ _ _ _ _ _ (T2.setTop (mkF m 11 #[.val (.ref a1)] [(.int x1)]))
      refine OwnR.of (fun _ hr => XS.iconst X2.here hx rfl (hb hby d4_11) hr) ?_
      show OwnR _ _ _ _ _ _ _ (T2.setTop (mkF m 12 #[.val (.ref a1)] [(.int (4 : Int32)), (.int x1)]))
      refine OwnR.of (fun _ hr => XS.goto X2.here hx rfl (pc0 := 12) (pc' := 16) rfl (hb hby d4_12) (by decide) (by decide) hr) ?_
      show OwnR _ _ _ _ _ _ _ (T2.setTop (mkF m 16 #[.val (.ref a1)] [(.int (4 : Int32)), (.int x1)]))
      simp only [if_neg hc8_5] at hv3
      subst hv3
      exact J16_4
  refine OwnR.of (fun _ hr => XS.ior X2.here hx rfl (hb hby d4_16) rfl hr) ?_
  show OwnR _ _ _ _ _ _ _ (T2.setTop (mkF m 17 #[.val (.ref a1)] [(.int (x1 ||| v3))]))
  refine OwnR.of (fun _ hr => XS.aloadN X2.here hx rfl (hb hby d4_17) rfl rfl hr) ?_
  show OwnR _ _ _ _ _ _ _ (T2.setTop (mkF m 18 #[.val (.ref a1)] [(.ref a1), (.int (x1 ||| v3))]))
  obtain ⟨T6, X6, e6, st6⟩ := getF X2 hx hZ hown (host := "") (Or.inl (hw _ (List.mem_of_getElem? (i := 19) rfl))) Via.refl e2 F_retainAsPublished_a1 (g := (mkF m 18 #[.val (.ref a1)] [(.ref a1), (.int (x1 ||| v3))])) rfl rfl (hb hby d4_18)
  refine OwnR.of (st6) ?_
  show OwnR _ _ _ _ _ _ _ (T6.setTop (mkF m 21 #[.val (.ref a1)] [(.int x3), (.int (x1 ||| v3))]))
  obtain ⟨v7, hv7⟩ : ∃ z : Int32, z = (if x3 = (0 : Int32) then (0 : Int32) else (8 : Int32)) := ⟨_, rfl⟩
  suffices J30_8 : OwnR p e below s (Q4 Z x1 x2 x3 h0 n0) ({ frames := 0, cells := 0, slots := 0, locals := 0 } : Room).cells ({ frames := 0, cells := 0, slots := 0, locals := 0 } : Room).slots (T6.setTop (mkF m 30 #[.val (.ref a1)] [(.int v7), (.int (x1 ||| v3))])) by
    by_cases hc21_9 : x3 = (0 : Int32)
    · skip
      refine OwnR.of (fun _ hr => XS.ifYes X6.here hx rfl (pc0 := 21) (pc' := 29) rfl (hb hby d4_21) rfl ((if0 _ _).trans (teq hc21_9).1) (by decide) (by decide) hr) ?_
      show OwnR _ _ _ _ _ _ _ (T6.setTop (mkF m 29 #[.val (.ref a1)] [(.int (x1 ||| v3))]))
      refine OwnR.of (fun _ hr => XS.iconst X6.here hx rfl (hb hby d4_29) hr) ?_
      show OwnR _ _ _ _ _ _ _ (T6.setTop (mkF m 30 #[.val (.ref a1)] [(.int (0 : Int32)), (.int (x1 ||| v3))]))
      simp only [if_pos hc21_9] at hv7
      subst hv7
      exact J30_8
    · skip
      refine OwnR.of (fun _ hr => XS.ifNo X6.here hx rfl (hb hby d4_21) rfl ((if0 _ _).trans (feq hc21_9).1) hr) ?_
      show OwnR _ _ _ _ _ _ _ (T6.setTop (mkF m 24 #[.val (.ref a1)] [(.int (x1 ||| v3))]))
      refine OwnR.of (fun _ hr => XS.bipush X6.here hx rfl (hb hby d4_24) hr) ?_
      show OwnR _ _ _ _ _ _ _ (T6.setTop (mkF m 26 #[.val (.ref a1)] [(.int (8 : Int32)), (.int (x1 ||| v3))]))
      refine OwnR.of (fun _ hr => XS.goto X6.here hx rfl (pc0 := 26) (pc' := 30) rfl (hb hby d4_26) (by decide) (by decide) hr) ?_
      show OwnR _ _ _ _ _ _ _ (T6.setTop (mkF m 30 #[.val (.ref a1)] [(.int (8 : Int32)), (.int (x1 ||| v3))]))
      simp only [if_neg hc21_9] at hv7
      subst hv7
      exact J30_8
  refine OwnR.of (fun _ hr => XS.ior X6.here hx rfl (hb hby d4_30) rfl hr) ?_
  show OwnR _ _ _ _ _ _ _ (T6.setTop (mkF m 31 #[.val (.ref a1)] [(.int ((x1 ||| v3) ||| v7))]))
  refine own_leafI X6 hx hlk Bd.returns (hb hby d4_31) (by decide) (by decide) ?_
  show Q4 Z x1 x2 x3 h0 n0 _ T6.heap _
  rw [show T6.heap = h0 from e6]
  refine ⟨?_, N0, rfl⟩
  show (some (.int ((x1 ||| v3) ||| v7)) : Option Value) = some (.int ((x1 ||| (if x2 = 0 then 0 else 4)) ||| (if x3 = 0 then 0 else 8)))
  subst_vars
  rfl
theorem pn_com_example_kurir_kurir_routing_SubscriptionOptionsCodePinLaw : plainName "com/example/kurir/kurir/routing/SubscriptionOptionsCodePinLaw" = true := by first | (simp [plainName, overriddenIn]; done) | decide +kernel
theorem ef_rm0 (m : MethodId) (x0 : Int32) (x1 : Int32) : entryFrame m #[(.int x0), (.int x1)] maxLocals = mkF m 0 #[.val (.int x0), .val (.int x1), .unset, .unset, .unset, .unset, .unset] [] := by first | (simp [entryFrame, mkF, argsToLocals, Value.category, maxLocals]; done) | rfl
theorem pd__IZZ_V : parseMethodDescriptor "(IZZ)V" = some ⟨[.int, .boolean, .boolean], none⟩ := by decide +kernel
theorem pd___I : parseMethodDescriptor "()I" = some ⟨[], some .int⟩ := by decide +kernel
def Q0 (Z : State)  (h0 : Heap) (n0 : Nat) (v : Option Value) (h : Heap) (L : List Loc) : Prop := v = some (.int (1 : Int32)) ∧ Fr n0 L
set_option maxRecDepth 65536 in
set_option maxHeartbeats 40000000 in
theorem rm0 (l : Launch) (Z : State) (a0 : Array Value) (hw : ∀ d ∈ tables_1, d.before a0 Z = true) (ws : List Jvm.Cond) (p1 : Int32) (p2 : Int32) (h0 : Heap) (n0 : Nat) (Z0 : n0 ≤ h0.size) :
    MetFree l x (head1 (Jvm.Cond.code x code maxLocals ret :: ws) room_1) (fun a U => a = #[(.int p1), (.int p2)] ∧ Z.Warmed39 U.vm ∧ U.heap = h0) (fun _ _ _ _ _ => True) (fun _ U o U' => ∃ v L, o = .returned v ∧ Q0 Z  h0 n0 v U'.heap L ∧ FrameEnd U o U' L 16 128) := by
  refine MetFree.of_bodySF (plainFor_of_name pn_com_example_kurir_kurir_routing_SubscriptionOptionsCodePinLaw) hisR ?_
  intro p e s m args below meth c s₁ Bd hml0 hP hK
  obtain ⟨rfl, hZ, hh⟩ := hP
  have hx := Bd.exec
  have hby := Bd.bytes
  have hlk := BodyLoose.notSynchronized Bd
  have hml : c.maxLocals = 7 := hml0
  have hown : s.vm.findClass "com/example/kurir/kurir/routing/SubscriptionOptionsCodePinLaw" = some m.cls := findClass_of_methodNamed Bd.named
  have hnm := (name_of_methodNamed Bd.named Bd.method).1
  have X0 : Stand p l e room_1 s m #[(.int p1), (.int p2)] below meth c s₁ [] 0 0 := Stand.of_body Bd
  have e0 : s₁.heap = h0 := by rw [← hh, Bd.state]; rfl
  have N0 := Fr.nil n0
  refine OwnR.of (s := s) (Q := Q0 Z  h0 n0) (fun t k => castTop (ef_rm0 m p1 p2) k) ?_
  show OwnR _ _ _ _ _ _ _ (s₁.setTop (mkF m 0 #[.val (.int p1), .val (.int p2), .unset, .unset, .unset, .unset, .unset] []))
  refine OwnR.of (fun _ hr => XS.iloadN X0.here hx rfl (hb hby at_0) rfl hr) ?_
  show OwnR _ _ _ _ _ _ _ (s₁.setTop (mkF m 1 #[.val (.int p1), .val (.int p2), .unset, .unset, .unset, .unset, .unset] [(.int p1)]))
  refine OwnR.of (X0.ldcInt hx hown (mvT hZ (hw _ (List.mem_of_getElem? (i := 0) rfl))) (g := (mkF m 1 #[.val (.int p1), .val (.int p2), .unset, .unset, .unset, .unset, .unset] [(.int p1)])) rfl (hb hby at_1)) ?_
  show OwnR _ _ _ _ _ _ _ (s₁.setTop (mkF m 3 #[.val (.int p1), .val (.int p2), .unset, .unset, .unset, .unset, .unset] [(.int (2147483647 : Int32)), (.int p1)]))
  refine OwnR.of (fun _ hr => XS.iand X0.here hx rfl (hb hby at_3) rfl hr) ?_
  show OwnR _ _ _ _ _ _ _ (s₁.setTop (mkF m 4 #[.val (.int p1), .val (.int p2), .unset, .unset, .unset, .unset, .unset] [(.int (p1 &&& (2147483647 : Int32)))]))
  refine OwnR.of (fun _ hr => XS.iconst X0.here hx rfl (hb hby at_4) hr) ?_
  show OwnR _ _ _ _ _ _ _ (s₁.setTop (mkF m 5 #[.val (.int p1), .val (.int p2), .unset, .unset, .unset, .unset, .unset] [(.int (3 : Int32)), (.int (p1 &&& (2147483647 : Int32)))]))
  refine OwnR.of (fun _ hr => iremM X0 hx rfl (hb hby at_5) rfl (by decide) hr) ?_
  show OwnR _ _ _ _ _ _ _ (s₁.setTop (mkF m 6 #[.val (.int p1), .val (.int p2), .unset, .unset, .unset, .unset, .unset] [(.int ((p1 &&& (2147483647 : Int32)) % (3 : Int32)))]))
  refine OwnR.of (fun _ hr => XS.istoreN X0.here hx rfl (hb hby at_6) rfl (l' := #[.val (.int p1), .val (.int p2), .val (.int ((p1 &&& (2147483647 : Int32)) % (3 : Int32))), .unset, .unset, .unset, .unset]) rfl hr) ?_
  show OwnR _ _ _ _ _ _ _ (s₁.setTop (mkF m 7 #[.val (.int p1), .val (.int p2), .val (.int ((p1 &&& (2147483647 : Int32)) % (3 : Int32))), .unset, .unset, .unset, .unset] []))
  obtain ⟨t, ht⟩ : ∃ z : Int32, z = ((p1 &&& (2147483647 : Int32)) % (3 : Int32)) := ⟨_, rfl⟩
  rw [← ht]
  show OwnR _ _ _ _ _ _ _ (s₁.setTop (mkF m 7 #[.val (.int p1), .val (.int p2), .val (.int t), .unset, .unset, .unset, .unset] []))
  have ht3 : t = 0 ∨ t = 1 ∨ t = 2 := by rw [ht]; exact own_three p1
  refine OwnR.of (fun _ hr => XS.iloadN X0.here hx rfl (hb hby at_7) rfl hr) ?_
  show OwnR _ _ _ _ _ _ _ (s₁.setTop (mkF m 8 #[.val (.int p1), .val (.int p2), .val (.int t), .unset, .unset, .unset, .unset] [(.int p2)]))
  refine OwnR.of (fun _ hr => XS.iconst X0.here hx rfl (hb hby at_8) hr) ?_
  show OwnR _ _ _ _ _ _ _ (s₁.setTop (mkF m 9 #[.val (.int p1), .val (.int p2), .val (.int t), .unset, .unset, .unset, .unset] [(.int (1 : Int32)), (.int p2)]))
  refine OwnR.of (fun _ hr => XS.iand X0.here hx rfl (hb hby at_9) rfl hr) ?_
  show OwnR _ _ _ _ _ _ _ (s₁.setTop (mkF m 10 #[.val (.int p1), .val (.int p2), .val (.int t), .unset, .unset, .unset, .unset] [(.int (p2 &&& (1 : Int32)))]))
  obtain ⟨v3, hv3⟩ : ∃ z : Int32, z = (if (p2 &&& (1 : Int32)) = (0 : Int32) then (0 : Int32) else (1 : Int32)) := ⟨_, rfl⟩
  suffices J18_4 : OwnR p e below s (Q0 Z  h0 n0) 16 128 (s₁.setTop (mkF m 18 #[.val (.int p1), .val (.int p2), .val (.int t), .unset, .unset, .unset, .unset] [(.int v3)])) by
    by_cases hc10_5 : (p2 &&& (1 : Int32)) = (0 : Int32)
    · skip
      refine OwnR.of (fun _ hr => XS.ifYes X0.here hx rfl (pc0 := 10) (pc' := 17) rfl (hb hby at_10) rfl ((if0 _ _).trans (teq hc10_5).1) (by decide) (by decide) hr) ?_
      show OwnR _ _ _ _ _ _ _ (s₁.setTop (mkF m 17 #[.val (.int p1), .val (.int p2), .val (.int t), .unset, .unset, .unset, .unset] []))
      refine OwnR.of (fun _ hr => XS.iconst X0.here hx rfl (hb hby at_17) hr) ?_
      show OwnR _ _ _ _ _ _ _ (s₁.setTop (mkF m 18 #[.val (.int p1), .val (.int p2), .val (.int t), .unset, .unset, .unset, .unset] [(.int (0 : Int32))]))
      simp only [if_pos hc10_5] at hv3
      subst hv3
      exact J18_4
    · skip
      refine OwnR.of (fun _ hr => XS.ifNo X0.here hx rfl (hb hby at_10) rfl ((if0 _ _).trans (feq hc10_5).1) hr) ?_
      show OwnR _ _ _ _ _ _ _ (s₁.setTop (mkF m 13 #[.val (.int p1), .val (.int p2), .val (.int t), .unset, .unset, .unset, .unset] []))
      refine OwnR.of (fun _ hr => XS.iconst X0.here hx rfl (hb hby at_13) hr) ?_
      show OwnR _ _ _ _ _ _ _ (s₁.setTop (mkF m 14 #[.val (.int p1), .val (.int p2), .val (.int t), .unset, .unset, .unset, .unset] [(.int (1 : Int32))]))
      refine OwnR.of (fun _ hr => XS.goto X0.here hx rfl (pc0 := 14) (pc' := 18) rfl (hb hby at_14) (by decide) (by decide) hr) ?_
      show OwnR _ _ _ _ _ _ _ (s₁.setTop (mkF m 18 #[.val (.int p1), .val (.int p2), .val (.int t), .unset, .unset, .unset, .unset] [(.int (1 : Int32))]))
      simp only [if_neg hc10_5] at hv3
      subst hv3
      exact J18_4
  refine OwnR.of (fun _ hr => XS.istoreN X0.here hx rfl (hb hby at_18) rfl (l' := #[.val (.int p1), .val (.int p2), .val (.int t), .val (.int v3), .unset, .unset, .unset]) rfl hr) ?_
  show OwnR _ _ _ _ _ _ _ (s₁.setTop (mkF m 19 #[.val (.int p1), .val (.int p2), .val (.int t), .val (.int v3), .unset, .unset, .unset] []))
  refine OwnR.of (fun _ hr => XS.iloadN X0.here hx rfl (hb hby at_19) rfl hr) ?_
  show OwnR _ _ _ _ _ _ _ (s₁.setTop (mkF m 20 #[.val (.int p1), .val (.int p2), .val (.int t), .val (.int v3), .unset, .unset, .unset] [(.int p2)]))
  refine OwnR.of (fun _ hr => XS.iconst X0.here hx rfl (hb hby at_20) hr) ?_
  show OwnR _ _ _ _ _ _ _ (s₁.setTop (mkF m 21 #[.val (.int p1), .val (.int p2), .val (.int t), .val (.int v3), .unset, .unset, .unset] [(.int (2 : Int32)), (.int p2)]))
  refine OwnR.of (fun _ hr => XS.iand X0.here hx rfl (hb hby at_21) rfl hr) ?_
  show OwnR _ _ _ _ _ _ _ (s₁.setTop (mkF m 22 #[.val (.int p1), .val (.int p2), .val (.int t), .val (.int v3), .unset, .unset, .unset] [(.int (p2 &&& (2 : Int32)))]))
  obtain ⟨v6, hv6⟩ : ∃ z : Int32, z = (if (p2 &&& (2 : Int32)) = (0 : Int32) then (0 : Int32) else (1 : Int32)) := ⟨_, rfl⟩
  suffices J30_7 : OwnR p e below s (Q0 Z  h0 n0) 16 128 (s₁.setTop (mkF m 30 #[.val (.int p1), .val (.int p2), .val (.int t), .val (.int v3), .unset, .unset, .unset] [(.int v6)])) by
    by_cases hc22_8 : (p2 &&& (2 : Int32)) = (0 : Int32)
    · skip
      refine OwnR.of (fun _ hr => XS.ifYes X0.here hx rfl (pc0 := 22) (pc' := 29) rfl (hb hby at_22) rfl ((if0 _ _).trans (teq hc22_8).1) (by decide) (by decide) hr) ?_
      show OwnR _ _ _ _ _ _ _ (s₁.setTop (mkF m 29 #[.val (.int p1), .val (.int p2), .val (.int t), .val (.int v3), .unset, .unset, .unset] []))
      refine OwnR.of (fun _ hr => XS.iconst X0.here hx rfl (hb hby at_29) hr) ?_
      show OwnR _ _ _ _ _ _ _ (s₁.setTop (mkF m 30 #[.val (.int p1), .val (.int p2), .val (.int t), .val (.int v3), .unset, .unset, .unset] [(.int (0 : Int32))]))
      simp only [if_pos hc22_8] at hv6
      subst hv6
      exact J30_7
    · skip
      refine OwnR.of (fun _ hr => XS.ifNo X0.here hx rfl (hb hby at_22) rfl ((if0 _ _).trans (feq hc22_8).1) hr) ?_
      show OwnR _ _ _ _ _ _ _ (s₁.setTop (mkF m 25 #[.val (.int p1), .val (.int p2), .val (.int t), .val (.int v3), .unset, .unset, .unset] []))
      refine OwnR.of (fun _ hr => XS.iconst X0.here hx rfl (hb hby at_25) hr) ?_
      show OwnR _ _ _ _ _ _ _ (s₁.setTop (mkF m 26 #[.val (.int p1), .val (.int p2), .val (.int t), .val (.int v3), .unset, .unset, .unset] [(.int (1 : Int32))]))
      refine OwnR.of (fun _ hr => XS.goto X0.here hx rfl (pc0 := 26) (pc' := 30) rfl (hb hby at_26) (by decide) (by decide) hr) ?_
      show OwnR _ _ _ _ _ _ _ (s₁.setTop (mkF m 30 #[.val (.int p1), .val (.int p2), .val (.int t), .val (.int v3), .unset, .unset, .unset] [(.int (1 : Int32))]))
      simp only [if_neg hc22_8] at hv6
      subst hv6
      exact J30_7
  refine OwnR.of (fun _ hr => XS.istore X0.here hx rfl (hb hby at_30) rfl (l' := #[.val (.int p1), .val (.int p2), .val (.int t), .val (.int v3), .val (.int v6), .unset, .unset]) rfl hr) ?_
  show OwnR _ _ _ _ _ _ _ (s₁.setTop (mkF m 32 #[.val (.int p1), .val (.int p2), .val (.int t), .val (.int v3), .val (.int v6), .unset, .unset] []))
  obtain ⟨T9, h9, X9, e9, E9, A9, D9, -, st9⟩ := newO X0 hx hZ hown (hw _ (List.mem_of_getElem? (i := 1) rfl)) (hw _ (List.mem_of_getElem? (i := 2) rfl)) (hw _ (List.mem_of_getElem? (i := 3) rfl)) e0 (g := (mkF m 32 #[.val (.int p1), .val (.int p2), .val (.int t), .val (.int v3), .val (.int v6), .unset, .unset] [])) rfl (hb hby at_32) (by decide) (by decide)
  obtain ⟨b9, g9⟩ : ∃ z, z = h0.size := ⟨_, rfl⟩
  rw [← g9] at A9 D9 st9
  refine OwnR.of (st9) ?_
  have gn_b9 : n0 ≤ b9 := Nat.le_trans (Nat.le_trans Z0 (Keep.refl h0 []).1) (Nat.le_of_eq g9.symm)
  have sz_b9 : h0.size ≤ b9 := Nat.le_trans (Keep.refl h0 []).1 (Nat.le_of_eq g9.symm)
  have K9 : Keep h0 h9 [] := Keep.ext (Keep.refl h0 []) E9
  have F_qos_b9 : Fld Z h9 b9 "com/example/kurir/kurir/routing/SubscriptionOptions" "qos" "I" (.int (0 : Int32)) := D9 (Or.inr (hw _ (List.mem_of_getElem? (i := 16) rfl))) (ty := .int) (by decide)
  have F_noLocal_b9 : Fld Z h9 b9 "com/example/kurir/kurir/routing/SubscriptionOptions" "noLocal" "Z" (.int (0 : Int32)) := D9 (Or.inr (hw _ (List.mem_of_getElem? (i := 18) rfl))) (ty := .boolean) (by decide)
  have F_retainAsPublished_b9 : Fld Z h9 b9 "com/example/kurir/kurir/routing/SubscriptionOptions" "retainAsPublished" "Z" (.int (0 : Int32)) := D9 (Or.inr (hw _ (List.mem_of_getElem? (i := 20) rfl))) (ty := .boolean) (by decide)
  show OwnR _ _ _ _ _ _ _ (T9.setTop (mkF m 35 #[.val (.int p1), .val (.int p2), .val (.int t), .val (.int v3), .val (.int v6), .unset, .unset] [(.ref b9)]))
  refine OwnR.of (fun _ hr => XS.dup X9.here hx rfl (hb hby at_35) rfl rfl hr) ?_
  show OwnR _ _ _ _ _ _ _ (T9.setTop (mkF m 36 #[.val (.int p1), .val (.int p2), .val (.int t), .val (.int v3), .val (.int v6), .unset, .unset] [(.ref b9), (.ref b9)]))
  refine OwnR.of (fun _ hr => XS.iloadN X9.here hx rfl (hb hby at_36) rfl hr) ?_
  show OwnR _ _ _ _ _ _ _ (T9.setTop (mkF m 37 #[.val (.int p1), .val (.int p2), .val (.int t), .val (.int v3), .val (.int v6), .unset, .unset] [(.int t), (.ref b9), (.ref b9)]))
  refine OwnR.of (fun _ hr => XS.iloadN X9.here hx rfl (hb hby at_37) rfl hr) ?_
  show OwnR _ _ _ _ _ _ _ (T9.setTop (mkF m 38 #[.val (.int p1), .val (.int p2), .val (.int t), .val (.int v3), .val (.int v6), .unset, .unset] [(.int v3), (.int t), (.ref b9), (.ref b9)]))
  refine OwnR.of (fun _ hr => XS.iload X9.here hx rfl (hb hby at_38) rfl hr) ?_
  show OwnR _ _ _ _ _ _ _ (T9.setTop (mkF m 40 #[.val (.int p1), .val (.int p2), .val (.int t), .val (.int v3), .val (.int v6), .unset, .unset] [(.int v6), (.int v3), (.int t), (.ref b9), (.ref b9)]))
  obtain ⟨_, _, ⟨T10, L10, kc10, ns10⟩, -, X10, ⟨Lc10, hQ10, l10, y10, z10⟩, st10⟩ := X9.specialBack hx (y := (⟨"com/example/kurir/kurir/routing/SubscriptionOptions", "<init>", "(IZZ)V"⟩ : MethodName)) rfl hown (mvT hZ (hw _ (List.mem_of_getElem? (i := 4) rfl))) (mvT hZ (hw _ (List.mem_of_getElem? (i := 5) rfl))) (mvT hZ (hw _ (List.mem_of_getElem? (i := 6) rfl))) (by decide) (backOf (W := 1) (rm1 l Z a0 hw [] b9 t v3 v6 h9 n0 (Nat.le_trans Z0 K9.1) A9 F_qos_b9 F_noLocal_b9 F_retainAsPublished_b9 gn_b9 (by rw [hv3]; split <;> simp) (by rw [hv6]; split <;> simp)) hZ (hw _ (List.mem_of_getElem? (i := 6) rfl)) (hw _ (List.mem_of_getElem? (i := 3) rfl)) (by decide) (by decide)) (g := (mkF m 40 #[.val (.int p1), .val (.int p2), .val (.int t), .val (.int v3), .val (.int v6), .unset, .unset] [(.int v6), (.int v3), (.int t), (.ref b9), (.ref b9)])) rfl (by rw [hml]; rfl) (Steps.refl _) (a := b9) (argsL := [(.int t), (.int v3), (.int v6)]) (rest := [(.ref b9)]) (lenOf pd__IZZ_V rfl) rfl (by show 2 * 0 + _ ≤ _; exact Nat.le_of_eq rfl) (hb hby at_40) (fun _ _ => ⟨rfl, e9, (by decide : 1 + 0 ≤ _), (by decide : 3 + 0 ≤ _)⟩)
  dsimp only [Pt.U, Pt.locs, Pt.cells, Pt.slots] at X10 l10 y10 z10 st10 hQ10
  subst l10 y10 z10
  obtain ⟨rfl, N10q, P10_0, P10_1, P10_2, P10_3, P10_4⟩ := hQ10
  have K10 : Keep h0 T10.heap [] := Keep.trans K9 P10_0 (allS (Or.inr sz_b9) all0)
  have N10 := Fr.app N0 N10q
  refine OwnR.of (fun _ hr => st10.trans hr) ?_
  show OwnR _ _ _ _ _ _ _ (T10.setTop (mkF m 43 #[.val (.int p1), .val (.int p2), .val (.int t), .val (.int v3), .val (.int v6), .unset, .unset] [(.ref b9)]))
  refine OwnR.of (fun _ hr => XS.astore X10.here hx rfl (hb hby at_43) rfl rfl (l' := #[.val (.int p1), .val (.int p2), .val (.int t), .val (.int v3), .val (.int v6), .val (.ref b9), .unset]) rfl hr) ?_
  show OwnR _ _ _ _ _ _ _ (T10.setTop (mkF m 45 #[.val (.int p1), .val (.int p2), .val (.int t), .val (.int v3), .val (.int v6), .val (.ref b9), .unset] []))
  refine OwnR.of (fun _ hr => XS.iloadN X10.here hx rfl (hb hby at_45) rfl hr) ?_
  show OwnR _ _ _ _ _ _ _ (T10.setTop (mkF m 46 #[.val (.int p1), .val (.int p2), .val (.int t), .val (.int v3), .val (.int v6), .val (.ref b9), .unset] [(.int t)]))
  refine OwnR.of (fun _ hr => XS.istore X10.here hx rfl (hb hby at_46) rfl (l' := #[.val (.int p1), .val (.int p2), .val (.int t), .val (.int v3), .val (.int v6), .val (.ref b9), .val (.int t)]) rfl hr) ?_
  show OwnR _ _ _ _ _ _ _ (T10.setTop (mkF m 48 #[.val (.int p1), .val (.int p2), .val (.int t), .val (.int v3), .val (.int v6), .val (.ref b9), .val (.int t)] []))
  refine OwnR.of (fun _ hr => XS.iloadN X10.here hx rfl (hb hby at_48) rfl hr) ?_
  show OwnR _ _ _ _ _ _ _ (T10.setTop (mkF m 49 #[.val (.int p1), .val (.int p2), .val (.int t), .val (.int v3), .val (.int v6), .val (.ref b9), .val (.int t)] [(.int v3)]))
  obtain ⟨v11, hv11⟩ : ∃ z : Int32, z = (if v3 = (0 : Int32) then t else (t + (4 : Int32))) := ⟨_, rfl⟩
  suffices J58_12 : OwnR p e below s (Q0 Z  h0 n0) 16 128 (T10.setTop (mkF m 58 #[.val (.int p1), .val (.int p2), .val (.int t), .val (.int v3), .val (.int v6), .val (.ref b9), .val (.int v11)] [])) by
    by_cases hc49_13 : v3 = (0 : Int32)
    · skip
      refine OwnR.of (fun _ hr => XS.ifYes X10.here hx rfl (pc0 := 49) (pc' := 58) rfl (hb hby at_49) rfl ((if0 _ _).trans (teq hc49_13).1) (by decide) (by decide) hr) ?_
      show OwnR _ _ _ _ _ _ _ (T10.setTop (mkF m 58 #[.val (.int p1), .val (.int p2), .val (.int t), .val (.int v3), .val (.int v6), .val (.ref b9), .val (.int t)] []))
      simp only [if_pos hc49_13] at hv11
      subst hv11
      exact J58_12
    · skip
      refine OwnR.of (fun _ hr => XS.ifNo X10.here hx rfl (hb hby at_49) rfl ((if0 _ _).trans (feq hc49_13).1) hr) ?_
      show OwnR _ _ _ _ _ _ _ (T10.setTop (mkF m 52 #[.val (.int p1), .val (.int p2), .val (.int t), .val (.int v3), .val (.int v6), .val (.ref b9), .val (.int t)] []))
      refine OwnR.of (fun _ hr => XS.iload X10.here hx rfl (hb hby at_52) rfl hr) ?_
      show OwnR _ _ _ _ _ _ _ (T10.setTop (mkF m 54 #[.val (.int p1), .val (.int p2), .val (.int t), .val (.int v3), .val (.int v6), .val (.ref b9), .val (.int t)] [(.int t)]))
      refine OwnR.of (fun _ hr => XS.iconst X10.here hx rfl (hb hby at_54) hr) ?_
      show OwnR _ _ _ _ _ _ _ (T10.setTop (mkF m 55 #[.val (.int p1), .val (.int p2), .val (.int t), .val (.int v3), .val (.int v6), .val (.ref b9), .val (.int t)] [(.int (4 : Int32)), (.int t)]))
      refine OwnR.of (fun _ hr => XS.iadd X10.here hx rfl (hb hby at_55) rfl hr) ?_
      show OwnR _ _ _ _ _ _ _ (T10.setTop (mkF m 56 #[.val (.int p1), .val (.int p2), .val (.int t), .val (.int v3), .val (.int v6), .val (.ref b9), .val (.int t)] [(.int (t + (4 : Int32)))]))
      refine OwnR.of (fun _ hr => XS.istore X10.here hx rfl (hb hby at_56) rfl (l' := #[.val (.int p1), .val (.int p2), .val (.int t), .val (.int v3), .val (.int v6), .val (.ref b9), .val (.int (t + (4 : Int32)))]) rfl hr) ?_
      show OwnR _ _ _ _ _ _ _ (T10.setTop (mkF m 58 #[.val (.int p1), .val (.int p2), .val (.int t), .val (.int v3), .val (.int v6), .val (.ref b9), .val (.int (t + (4 : Int32)))] []))
      simp only [if_neg hc49_13] at hv11
      subst hv11
      exact J58_12
  refine OwnR.of (fun _ hr => XS.iload X10.here hx rfl (hb hby at_58) rfl hr) ?_
  show OwnR _ _ _ _ _ _ _ (T10.setTop (mkF m 60 #[.val (.int p1), .val (.int p2), .val (.int t), .val (.int v3), .val (.int v6), .val (.ref b9), .val (.int v11)] [(.int v6)]))
  obtain ⟨v14, hv14⟩ : ∃ z : Int32, z = (if v6 = (0 : Int32) then v11 else (v11 + (8 : Int32))) := ⟨_, rfl⟩
  suffices J70_15 : OwnR p e below s (Q0 Z  h0 n0) 16 128 (T10.setTop (mkF m 70 #[.val (.int p1), .val (.int p2), .val (.int t), .val (.int v3), .val (.int v6), .val (.ref b9), .val (.int v14)] [])) by
    by_cases hc60_16 : v6 = (0 : Int32)
    · skip
      refine OwnR.of (fun _ hr => XS.ifYes X10.here hx rfl (pc0 := 60) (pc' := 70) rfl (hb hby at_60) rfl ((if0 _ _).trans (teq hc60_16).1) (by decide) (by decide) hr) ?_
      show OwnR _ _ _ _ _ _ _ (T10.setTop (mkF m 70 #[.val (.int p1), .val (.int p2), .val (.int t), .val (.int v3), .val (.int v6), .val (.ref b9), .val (.int v11)] []))
      simp only [if_pos hc60_16] at hv14
      subst hv14
      exact J70_15
    · skip
      refine OwnR.of (fun _ hr => XS.ifNo X10.here hx rfl (hb hby at_60) rfl ((if0 _ _).trans (feq hc60_16).1) hr) ?_
      show OwnR _ _ _ _ _ _ _ (T10.setTop (mkF m 63 #[.val (.int p1), .val (.int p2), .val (.int t), .val (.int v3), .val (.int v6), .val (.ref b9), .val (.int v11)] []))
      refine OwnR.of (fun _ hr => XS.iload X10.here hx rfl (hb hby at_63) rfl hr) ?_
      show OwnR _ _ _ _ _ _ _ (T10.setTop (mkF m 65 #[.val (.int p1), .val (.int p2), .val (.int t), .val (.int v3), .val (.int v6), .val (.ref b9), .val (.int v11)] [(.int v11)]))
      refine OwnR.of (fun _ hr => XS.bipush X10.here hx rfl (hb hby at_65) hr) ?_
      show OwnR _ _ _ _ _ _ _ (T10.setTop (mkF m 67 #[.val (.int p1), .val (.int p2), .val (.int t), .val (.int v3), .val (.int v6), .val (.ref b9), .val (.int v11)] [(.int (8 : Int32)), (.int v11)]))
      refine OwnR.of (fun _ hr => XS.iadd X10.here hx rfl (hb hby at_67) rfl hr) ?_
      show OwnR _ _ _ _ _ _ _ (T10.setTop (mkF m 68 #[.val (.int p1), .val (.int p2), .val (.int t), .val (.int v3), .val (.int v6), .val (.ref b9), .val (.int v11)] [(.int (v11 + (8 : Int32)))]))
      refine OwnR.of (fun _ hr => XS.istore X10.here hx rfl (hb hby at_68) rfl (l' := #[.val (.int p1), .val (.int p2), .val (.int t), .val (.int v3), .val (.int v6), .val (.ref b9), .val (.int (v11 + (8 : Int32)))]) rfl hr) ?_
      show OwnR _ _ _ _ _ _ _ (T10.setTop (mkF m 70 #[.val (.int p1), .val (.int p2), .val (.int t), .val (.int v3), .val (.int v6), .val (.ref b9), .val (.int (v11 + (8 : Int32)))] []))
      simp only [if_neg hc60_16] at hv14
      subst hv14
      exact J70_15
  refine OwnR.of (fun _ hr => XS.aload X10.here hx rfl (hb hby at_70) rfl rfl hr) ?_
  show OwnR _ _ _ _ _ _ _ (T10.setTop (mkF m 72 #[.val (.int p1), .val (.int p2), .val (.int t), .val (.int v3), .val (.int v6), .val (.ref b9), .val (.int v14)] [(.ref b9)]))
  obtain ⟨cq17, kq17, q17a, q17b, q17c⟩ := isOf hZ rfl P10_1
  obtain ⟨_, _, ⟨T17, L17, kc17, ns17⟩, -, X17, ⟨Lc17, hQ17, l17, y17, z17⟩, st17⟩ := X10.virtualBack hx (y := (⟨"com/example/kurir/kurir/routing/SubscriptionOptions", "code", "()I"⟩ : MethodName)) (z := (⟨"com/example/kurir/kurir/routing/SubscriptionOptions", "code", "()I"⟩ : MethodName)) hown (mvT hZ (hw _ (List.mem_of_getElem? (i := 21) rfl))) (mvT hZ (hw _ (List.mem_of_getElem? (i := 22) rfl))) (notFace_of_selects (args := #[]) (mvT hZ (hw _ (List.mem_of_getElem? (i := 24) rfl)))) (mvT hZ (hw _ (List.mem_of_getElem? (i := 24) rfl))) (mvT hZ (hw _ (List.mem_of_getElem? (i := 23) rfl))) (by decide) (backOf (W := 0) (rm4 l Z a0 hw [] b9 t v3 v6 (T10.heap) n0 (Nat.le_trans Z0 K10.1) P10_1 P10_2 P10_3 P10_4) hZ (hw _ (List.mem_of_getElem? (i := 25) rfl)) (hw _ (List.mem_of_getElem? (i := 3) rfl)) (by decide) (by decide)) q17a q17c (g := (mkF m 72 #[.val (.int p1), .val (.int p2), .val (.int t), .val (.int v3), .val (.int v6), .val (.ref b9), .val (.int v14)] [(.ref b9)])) rfl (by rw [hml]; rfl) (Steps.refl _) (argsL := []) (rest := []) (lenOf pd___I rfl) rfl (by show 2 * 0 + _ ≤ _; exact Nat.le_of_eq rfl) (hb hby at_72) (fun _ _ => ⟨rfl, rfl, (by decide : 1 + 0 ≤ _), (by decide : 3 + 0 ≤ _)⟩)
  dsimp only [Pt.U, Pt.locs, Pt.cells, Pt.slots] at X17 l17 y17 z17 st17 hQ17
  subst l17 y17 z17
  obtain ⟨rfl, N17q, e17⟩ := hQ17
  have N17 := Fr.app N10 N17q
  refine OwnR.of (fun _ hr => st17.trans hr) ?_
  show OwnR _ _ _ _ _ _ _ (T17.setTop (mkF m 75 #[.val (.int p1), .val (.int p2), .val (.int t), .val (.int v3), .val (.int v6), .val (.ref b9), .val (.int v14)] [(.int ((t ||| (if v3 = 0 then 0 else 4)) ||| (if v6 = 0 then 0 else 8)))]))
  refine OwnR.of (fun _ hr => XS.iload X17.here hx rfl (hb hby at_75) rfl hr) ?_
  show OwnR _ _ _ _ _ _ _ (T17.setTop (mkF m 77 #[.val (.int p1), .val (.int p2), .val (.int t), .val (.int v3), .val (.int v6), .val (.ref b9), .val (.int v14)] [(.int v14), (.int ((t ||| (if v3 = 0 then 0 else 4)) ||| (if v6 = 0 then 0 else 8)))]))
  have hc77_18 : ((t ||| (if v3 = 0 then 0 else 4)) ||| (if v6 = 0 then 0 else 8)) = v14 := by
    refine Classical.byContradiction fun hbad => ?_
    have q := hbad
    simp only [hv11, hv14] at q
    exact q (own_law _ _ _ ht3)
  refine OwnR.of (fun _ hr => XS.icmpNo X17.here hx rfl (hb hby at_77) rfl (teq hc77_18).2 hr) ?_
  show OwnR _ _ _ _ _ _ _ (T17.setTop (mkF m 80 #[.val (.int p1), .val (.int p2), .val (.int t), .val (.int v3), .val (.int v6), .val (.ref b9), .val (.int v14)] []))
  refine OwnR.of (fun _ hr => XS.iconst X17.here hx rfl (hb hby at_80) hr) ?_
  show OwnR _ _ _ _ _ _ _ (T17.setTop (mkF m 81 #[.val (.int p1), .val (.int p2), .val (.int t), .val (.int v3), .val (.int v6), .val (.ref b9), .val (.int v14)] [(.int (1 : Int32))]))
  refine OwnR.of (fun _ hr => XS.goto X17.here hx rfl (pc0 := 81) (pc' := 85) rfl (hb hby at_81) (by decide) (by decide) hr) ?_
  show OwnR _ _ _ _ _ _ _ (T17.setTop (mkF m 85 #[.val (.int p1), .val (.int p2), .val (.int t), .val (.int v3), .val (.int v6), .val (.ref b9), .val (.int v14)] [(.int (1 : Int32))]))
  refine own_leafN X17 hx hlk (t := .boolean) Bd.returns (by simp) (hb hby at_85) (z' := (1 : Int32)) rfl (by decide) (by decide) ?_
  show Q0 Z  h0 n0 _ T17.heap _
  rw [show T17.heap = T10.heap from e17]
  refine ⟨?_, N17⟩
  show (some (.int (1 : Int32)) : Option Value) = some (.int (1 : Int32))
  rfl
set_option maxRecDepth 65536 in
set_option maxHeartbeats 40000000 in
theorem comes_1 {Post : Tables → Env → Array Value → State → Outcome → State → Prop} (hpost : ∀ tb e args s v u, (limb_1_1.after args s (.returned v) u = true ∧ limb_1_2.after args s (.returned v) u = true ∧ True) → FrameEnd s (.returned v) u (Jvm.fieldLocs frame_1_writes args s ++ Jvm.arrayLocs frame_1_arrays args s ++ Jvm.staticLocs frame_1_statics s) 16 128 → Post tb e args s (.returned v) u) :
    ArmFor flags0 classFile x code maxLocals ret World_1 tables_1 room_1 Calls_1 rest_1 Pre_1 Post := by
  intro l hfl _ _ p e ha hc hk s m args below hf hA hF happ hP
  obtain ⟨hcalls, hrest, hpre⟩ := hP
  obtain ⟨-, -, -, hnamed, -, -, -, hat⟩ := (Spec.applies_iff hf).mp happ
  obtain ⟨hg, hn⟩ := and_e (Cond.before_iff.mp (show (Jvm.Cond.and given_1 narrow_1).before args s = true from hpre))
  obtain ⟨ga1, gb1⟩ := and_e hg
  obtain ⟨ga2, gb2⟩ := and_e gb1
  obtain ⟨w0, w1, rfl⟩ : ∃ w0 w1 : Value, args = #[w0, w1] := by
    have hs : args.size = 2 := by simpa [Cond.value, given_1] using ga1
    obtain ⟨L⟩ := args
    match L, hs with
    | [w0, w1], _ => exact ⟨w0, w1, rfl⟩
  have hw := fun d (hd : d ∈ tables_1) => atoms_spec (ws := Jvm.Cond.code x code maxLocals ret :: tables_1) hat d (List.mem_cons_of_mem _ hd)
  have hfit : Fit s := fun {y c} hc i hi => by
    obtain ⟨ha, rfl⟩ := Array.getElem?_eq_some_iff.mp hc
    have q := List.all_eq_true.mp ((Array.all_eq_true_iff_forall_mem.mp hF) _ (Array.getElem_mem ha)) i (List.mem_range.mpr hi)
    simpa [Array.getElem?_eq_getElem hi] using q
  obtain ⟨i0, ei0⟩ := is_v ga2
  obtain rfl : w0 = (.int i0) := Option.some.inj ei0
  obtain ⟨i1, ei1⟩ := is_v gb2
  obtain rfl : w1 = (.int i1) := Option.some.inj ei1
  obtain ⟨n, o, h1, h2, h3, _, L, rfl, ⟨rfl, N⟩, hq⟩ := rm0 l s _ hw tables_1 i0 i1 s.heap s.heap.size (Nat.le_refl _) p e ha hc hk s m _ below hf ((Spec.applies_iff_loose hf).mp happ).1 ⟨rfl, State.Warmed39.refl s, rfl⟩ trivial
  refine ⟨n, _, h1, h2, h3, hpost _ _ _ _ _ _ ⟨Cond.after_iff.mpr rfl, Cond.after_iff.mpr (eq_i res_at (Term.int_eval (1)) rfl), trivial⟩ ⟨hq.1, hq.2.1, (hq.2.2.sift fun y hy => Or.inr (N y hy)).mono (by decide) (by decide)⟩⟩
theorem main_1_1 : Claimed_1_1 := comes_1 fun _ _ _ _ _ _ h hF => ⟨h.1, hF⟩
theorem main_1_2 : Claimed_1_2 := comes_1 fun _ _ _ _ _ _ h hF => ⟨h.2.1, hF⟩
end Jvm.Pilot.@@N@@
namespace Jvm.Pilot.@@N@@
open Jvm Jvm.ClassFile Sem Op Lib Jvm.Free Jvm.Stand Jvm.Pilot.@@N@@.Jvm.D
/-! MADE BY PROGRAM (witnessworld.py) out of the Statement's table words and the real class files: 10 classes; the members and pool entries that the words name. The judged class is class 1, her method 1. -/
namespace start1
open Jvm.ClassFile
def u (s : String) : CpInfo := .utf8 (stringToUtf16 s)
/-- a pool by its gaps: so many unusable entries, then the entry; so many at the end -/
def gap : Nat → List CpInfo → List CpInfo
  | 0, r => r
  | n + 1, r => .unusable :: gap n r
def poolList (es : List (Nat × CpInfo)) (last : Nat) : List CpInfo := es.foldr (fun e r => gap e.1 (e.2 :: r)) (gap last [])
def pool (es : List (Nat × CpInfo)) (last : Nat) : Array CpInfo := ⟨poolList es last⟩
def fileOf (pool : Array CpInfo) (this : Nat) (attrs : Array Attribute := #[]) (ms : Array MethodInfo := #[]) (fl : Nat := 33) (sup : Nat := 0) (ifs : Array Nat := #[]) (fds : Array FieldInfo := #[]) : ClassFile where
  minorVersion := 0
  majorVersion := 65
  constantPool := pool
  accessFlags := fl
  thisClass := this
  superClass := sup
  interfaces := ifs
  fields := fds
  methods := ms
  attributes := attrs
def plain (name : String) (sup : Option ClassId) : Class where
  name := name
  kind := .ordinary
  loader := none
  accessFlags := 33
  super := sup
  interfaces := #[]
  cf := none
  fields := #[]
  methods := #[]
  instanceTypes := #[]
  staticTypes := #[]
  resolved := #[]
  callSites := []
  init := .initialized
  statics := none
  mirror := none

def pool0 : Array CpInfo := pool [(5, u "<init>"), (0, u "()V"), (1, .class_ 10), (1, u "java/lang/Object")] 113

def k0c0 : Code := { maxStack := 0, maxLocals := 1, code := object_method_1_code, exceptionTable := #[], attributes := #[] }
def k0m0 : Method := { name := "<init>", desc := "()V", sig := { parameters := [], returnType := none }, accessFlags := 1, code := some k0c0 }
/-- java/lang/Object -/
def k0 : Class := { plain "java/lang/Object" none with
  accessFlags := 33
  interfaces := #[]
  cf := some (fileOf pool0 8 #[] #[{ accessFlags := 1, nameIndex := 5, descriptorIndex := 6, attributes := #[] }] 33 0 #[] #[])
  fields := #[]
  methods := #[k0m0]
  instanceTypes := #[]
  staticTypes := #[]
  resolved := Array.replicate 124 none
  statics := none }

def pool1 : Array CpInfo := pool [(2, .class_ 4), (1, u "java/lang/Object"), (0, u "<init>"), (0, u "()V"), (0, .integer 2147483647), (0, .class_ 9), (0, u "com/example/kurir/kurir/routing/SubscriptionOptions"), (0, .methodref 8 11), (0, .nameAndType 5 12), (0, u "(IZZ)V"), (0, .methodref 8 14), (0, .nameAndType 15 16), (0, u "code"), (0, u "()I"), (0, .class_ 18), (0, u "com/example/kurir/kurir/routing/SubscriptionOptionsCodePinLaw"), (2, u "law"), (0, u "(II)Z")] 3

def k1m0 : Method := { name := "<init>", desc := "()V", sig := { parameters := [], returnType := none }, accessFlags := 1, code := none }
def k1c1 : Code := { maxStack := 5, maxLocals := 7, code := code, exceptionTable := #[], attributes := #[] }
def k1m1 : Method := { name := "law", desc := "(II)Z", sig := { parameters := [.int, .int], returnType := some .boolean }, accessFlags := 9, code := some k1c1 }
/-- com/example/kurir/kurir/routing/SubscriptionOptionsCodePinLaw -/
def k1 : Class := { plain "com/example/kurir/kurir/routing/SubscriptionOptionsCodePinLaw" (some 0) with
  accessFlags := 49
  interfaces := #[]
  cf := some (fileOf pool1 17 #[] #[{ accessFlags := 1, nameIndex := 5, descriptorIndex := 6, attributes := #[] }, { accessFlags := 9, nameIndex := 21, descriptorIndex := 22, attributes := #[] }] 49 2 #[] #[])
  fields := #[]
  methods := #[k1m0, k1m1]
  instanceTypes := #[]
  staticTypes := #[]
  resolved := Array.replicate 26 none
  statics := none }

def pool2 : Array CpInfo := pool [(1, .methodref 2 3), (0, .class_ 4), (0, .nameAndType 5 6), (0, u "java/lang/Object"), (0, u "<init>"), (0, u "()V"), (0, .class_ 8), (0, u "java/lang/Record")] 13

def k2c0 : Code := { maxStack := 1, maxLocals := 1, code := jdk_30_method_1_code, exceptionTable := #[], attributes := #[] }
def k2m0 : Method := { name := "<init>", desc := "()V", sig := { parameters := [], returnType := none }, accessFlags := 4, code := some k2c0 }
/-- java/lang/Record -/
def k2 : Class := { plain "java/lang/Record" (some 0) with
  accessFlags := 1057
  interfaces := #[]
  cf := some (fileOf pool2 7 #[] #[{ accessFlags := 4, nameIndex := 5, descriptorIndex := 6, attributes := #[] }] 1057 2 #[] #[])
  fields := #[]
  methods := #[k2m0]
  instanceTypes := #[]
  staticTypes := #[]
  resolved := Array.replicate 22 none
  statics := none }

def pool3 : Array CpInfo := pool [(1, .methodref 2 3), (0, .class_ 4), (0, .nameAndType 5 6), (0, u "java/lang/Record"), (0, u "<init>"), (0, u "()V"), (0, .fieldref 8 9), (0, .class_ 10), (0, .nameAndType 11 12), (0, u "com/example/kurir/kurir/routing/SubscriptionOptions"), (0, u "qos"), (0, u "I"), (0, .fieldref 8 14), (0, .nameAndType 15 16), (0, u "noLocal"), (0, u "Z"), (0, .fieldref 8 18), (0, .nameAndType 19 16), (0, u "retainAsPublished"), (2, u "PACKED"), (0, u "[Lcom/example/kurir/kurir/routing/SubscriptionOptions;"), (23, u "(IZZ)V"), (0, u "QOS_BITS"), (2, u "NO_LOCAL"), (1, u "RETAIN_AS_PUBLISHED"), (8, u "code"), (0, u "()I")] 35

def k3c0 : Code := { maxStack := 2, maxLocals := 4, code := prog_70_method_1_code, exceptionTable := #[], attributes := #[] }
def k3m0 : Method := { name := "<init>", desc := "(IZZ)V", sig := { parameters := [.int, .boolean, .boolean], returnType := none }, accessFlags := 1, code := some k3c0 }
def k3c1 : Code := { maxStack := 2, maxLocals := 1, code := prog_70_method_4_code, exceptionTable := #[], attributes := #[] }
def k3m1 : Method := { name := "code", desc := "()I", sig := { parameters := [], returnType := some .int }, accessFlags := 1, code := some k3c1 }
/-- com/example/kurir/kurir/routing/SubscriptionOptions -/
def k3 : Class := { plain "com/example/kurir/kurir/routing/SubscriptionOptions" (some 2) with
  accessFlags := 49
  interfaces := #[]
  cf := some (fileOf pool3 8 #[] #[{ accessFlags := 1, nameIndex := 5, descriptorIndex := 47, attributes := #[] }, { accessFlags := 1, nameIndex := 62, descriptorIndex := 63, attributes := #[] }] 49 2 #[] #[{ accessFlags := 18, nameIndex := 11, descriptorIndex := 12, attributes := #[] }, { accessFlags := 18, nameIndex := 15, descriptorIndex := 16, attributes := #[] }, { accessFlags := 18, nameIndex := 19, descriptorIndex := 16, attributes := #[] }, { accessFlags := 26, nameIndex := 48, descriptorIndex := 12, attributes := #[] }, { accessFlags := 26, nameIndex := 51, descriptorIndex := 12, attributes := #[] }, { accessFlags := 26, nameIndex := 53, descriptorIndex := 12, attributes := #[] }, { accessFlags := 26, nameIndex := 22, descriptorIndex := 23, attributes := #[] }])
  fields := #[{ name := "qos", type := .int, accessFlags := 18, slot := 0, constantValue := 0 }, { name := "noLocal", type := .boolean, accessFlags := 18, slot := 1, constantValue := 0 }, { name := "retainAsPublished", type := .boolean, accessFlags := 18, slot := 2, constantValue := 0 }, { name := "QOS_BITS", type := .int, accessFlags := 26, slot := 0, constantValue := 0 }, { name := "NO_LOCAL", type := .int, accessFlags := 26, slot := 1, constantValue := 0 }, { name := "RETAIN_AS_PUBLISHED", type := .int, accessFlags := 26, slot := 2, constantValue := 0 }, { name := "PACKED", type := (.array (.object "com/example/kurir/kurir/routing/SubscriptionOptions")), accessFlags := 26, slot := 3, constantValue := 0 }]
  methods := #[k3m0, k3m1]
  instanceTypes := #[.int, .boolean, .boolean]
  staticTypes := #[.int, .int, .int, (.array (.object "com/example/kurir/kurir/routing/SubscriptionOptions"))]
  resolved := Array.replicate 99 none
  statics := none }

def pool4 : Array CpInfo := pool [(1, u "java/lang/Cloneable"), (0, .class_ 1), (0, u "java/lang/Object"), (0, .class_ 3)] 3

/-- java/lang/Cloneable -/
def k4 : Class := { plain "java/lang/Cloneable" (some 0) with
  accessFlags := 1537
  interfaces := #[]
  cf := some (fileOf pool4 2 #[] #[] 1537 4 #[] #[])
  fields := #[]
  methods := #[]
  instanceTypes := #[]
  staticTypes := #[]
  resolved := Array.replicate 8 none
  statics := none }

def pool5 : Array CpInfo := pool [(1, u "java/io/Serializable"), (0, .class_ 1), (0, u "java/lang/Object"), (0, .class_ 3)] 3

/-- java/io/Serializable -/
def k5 : Class := { plain "java/io/Serializable" (some 0) with
  accessFlags := 1537
  interfaces := #[]
  cf := some (fileOf pool5 2 #[] #[] 1537 4 #[] #[])
  fields := #[]
  methods := #[]
  instanceTypes := #[]
  staticTypes := #[]
  resolved := Array.replicate 8 none
  statics := none }

/-- the primitive byte -/
def k6 : Class := { plain "byte" none with kind := .primitive 'B', accessFlags := 0x411 }
/-- [B -/
def k7 : Class := { plain "[B" (some 0) with kind := .array 6 .byte, interfaces := #[4, 5], accessFlags := 1041 }

/-- the primitive int -/
def k8 : Class := { plain "int" none with kind := .primitive 'I', accessFlags := 0x411 }
/-- [I -/
def k9 : Class := { plain "[I" (some 0) with kind := .array 8 .int, interfaces := #[4, 5], accessFlags := 1041 }

def heap : Heap := #[]
def classes : Array Class := #[k0, k1, k2, k3, k4, k5, k6, k7, k8, k9]
def interned : List (Array UInt16 × Addr) := []
def slotsUsed : Nat := 0
def theMethod : MethodId := ⟨1, 1⟩
def args0 : Array Value := #[.int 5, .int 7]
def aboutOver (below : List Frame) : State where
  vm := { classes := classes, interned := interned.toArray }
  heap := heap
  slotsUsed := slotsUsed
  threads := #[{ frames := .invoking theMethod args0 :: below }]
def below0 : List Frame := [.native { method := ⟨0, 0⟩, args := #[] }]
def about1 : State := aboutOver below0
def p0 : Program := .bare "" "" ""
def e0 : Env := launch0.env 0 0 0
theorem w_frames : about1.frames = Frame.invoking theMethod args0 :: below0 := rfl
set_option maxRecDepth 65536 in
theorem w_args : argsFit about1.vm theMethod args0 = true := by decide +kernel
set_option maxRecDepth 65536 in
theorem w_heap : heapFits about1 = true := by decide +kernel
set_option maxRecDepth 65536 in
theorem w_runnable : about1.curStatus? = some .runnable := by decide +kernel
set_option maxRecDepth 65536 in
theorem w_alone : about1.alone = true := by decide +kernel
set_option maxRecDepth 65536 in
theorem w_named : about1.methodNamed? x = some theMethod := by decide +kernel
set_option maxRecDepth 65536 in
theorem w_hears : about1.hears theMethod below0 = true := by decide +kernel
set_option maxRecDepth 65536 in
theorem w_ripe : about1.ripe theMethod args0 below0 = true := by decide +kernel
theorem w_running : about1.status = .running := rfl
set_option maxRecDepth 65536 in
theorem w_room : about1.hasRoom e0.platform room_1 = true :=
  launch0.hasRoom_least _ room_1 (by decide +kernel) (by decide +kernel) (by decide +kernel) (by decide +kernel) (by decide +kernel) (by decide +kernel)
theorem allAtoms_all (ts : List Jvm.Cond) (a : Array Jvm.Value) (st : Jvm.State) : (allAtoms ts).before a st = ts.all (fun c => c.before a st) := by
  induction ts with
  | nil => rfl
  | cons c t ih =>
    show (Jvm.Cond.and c (allAtoms t)).before a st = _
    rw [Jvm.Cond.before_and, ih, List.all_cons]
def words1 : List Jvm.Cond := Jvm.Cond.code x code maxLocals ret :: tables_1
/-- a 'code' word, met by the world's own term for the bytes: nothing is compared byte by byte -/
theorem code_word {y : MethodName} {bytes : ByteArray} {mx : Nat} {rt : Option FieldType} {a : Array Value} {s : State} {m : MethodId} {meth : Method} {c : Code} (h1 : s.methodNamed? y = some m) (h2 : s.vm.method? m = some meth) (h3 : meth.code = some c) (h4 : c.code = bytes)
    (h5 : (c.maxLocals == mx && c.exceptionTable.isEmpty && decide (c.maxStack ≤ mostOperands) && decide (meth.sig.returnType = rt) && !meth.locks && decide (parseMethodDescriptor y.desc = some meth.sig)) = true) : (Jvm.Cond.code y bytes mx rt).before a s = true := by
  simp only [Bool.and_eq_true, beq_iff_eq, Bool.not_eq_true', decide_eq_true_eq] at h5
  obtain ⟨⟨⟨⟨⟨g1, g2⟩, g3⟩, g4⟩, g5⟩, g6⟩ := h5
  simp [Cond.before, Cond.holds, Cond.value, h1, h2, h3, h4, g1, g2, g3, g4, g5, g6]
def isCode : Jvm.Cond → Bool
  | .code _ _ _ _ => true
  | _ => false
theorem all_split {L : List Jvm.Cond} {P : Jvm.Cond → Bool} (h1 : L.all (fun c => isCode c || P c) = true) (h2 : ∀ c ∈ L.filter isCode, P c = true) : L.all P = true := by
  refine List.all_eq_true.mpr fun c hc => ?_
  have h := List.all_eq_true.mp h1 c hc
  rcases Bool.eq_false_or_eq_true (isCode c) with hi | hi
  · exact h2 c (List.mem_filter.mpr ⟨hc, hi⟩)
  · simpa [hi] using h
set_option maxRecDepth 65536 in
theorem w_c0 : (Jvm.Cond.code x code maxLocals ret).before args0 about1 = true := code_word (m := ⟨1, 1⟩) (meth := k1m1) (c := k1c1) (by decide +kernel) rfl rfl rfl (by decide +kernel)
set_option maxRecDepth 65536 in
theorem w_c1 : (Jvm.Cond.code ({ cls := "com/example/kurir/kurir/routing/SubscriptionOptions", name := "<init>", desc := "(IZZ)V" } : Jvm.MethodName) prog_70_method_1_code (4 : Nat) (Option.none : Option Jvm.ClassFile.FieldType)).before args0 about1 = true := code_word (m := ⟨3, 0⟩) (meth := k3m0) (c := k3c0) (by decide +kernel) rfl rfl rfl (by decide +kernel)
set_option maxRecDepth 65536 in
theorem w_c2 : (Jvm.Cond.code ({ cls := "java/lang/Record", name := "<init>", desc := "()V" } : Jvm.MethodName) jdk_30_method_1_code (1 : Nat) (Option.none : Option Jvm.ClassFile.FieldType)).before args0 about1 = true := code_word (m := ⟨2, 0⟩) (meth := k2m0) (c := k2c0) (by decide +kernel) rfl rfl rfl (by decide +kernel)
set_option maxRecDepth 65536 in
theorem w_c3 : (Jvm.Cond.code ({ cls := "java/lang/Object", name := "<init>", desc := "()V" } : Jvm.MethodName) object_method_1_code (1 : Nat) (Option.none : Option Jvm.ClassFile.FieldType)).before args0 about1 = true := code_word (m := ⟨0, 0⟩) (meth := k0m0) (c := k0c0) (by decide +kernel) rfl rfl rfl (by decide +kernel)
set_option maxRecDepth 65536 in
theorem w_c4 : (Jvm.Cond.code ({ cls := "com/example/kurir/kurir/routing/SubscriptionOptions", name := "code", desc := "()I" } : Jvm.MethodName) prog_70_method_4_code (1 : Nat) (Option.some Jvm.ClassFile.FieldType.int)).before args0 about1 = true := code_word (m := ⟨3, 1⟩) (meth := k3m1) (c := k3c1) (by decide +kernel) rfl rfl rfl (by decide +kernel)
def codes1 : List Jvm.Cond := [Jvm.Cond.code x code maxLocals ret, Jvm.Cond.code ({ cls := "com/example/kurir/kurir/routing/SubscriptionOptions", name := "<init>", desc := "(IZZ)V" } : Jvm.MethodName) prog_70_method_1_code (4 : Nat) (Option.none : Option Jvm.ClassFile.FieldType), Jvm.Cond.code ({ cls := "java/lang/Record", name := "<init>", desc := "()V" } : Jvm.MethodName) jdk_30_method_1_code (1 : Nat) (Option.none : Option Jvm.ClassFile.FieldType), Jvm.Cond.code ({ cls := "java/lang/Object", name := "<init>", desc := "()V" } : Jvm.MethodName) object_method_1_code (1 : Nat) (Option.none : Option Jvm.ClassFile.FieldType), Jvm.Cond.code ({ cls := "com/example/kurir/kurir/routing/SubscriptionOptions", name := "code", desc := "()I" } : Jvm.MethodName) prog_70_method_4_code (1 : Nat) (Option.some Jvm.ClassFile.FieldType.int)]
set_option maxRecDepth 65536 in
theorem codes_eq : words1.filter isCode = codes1 := rfl
theorem w_codes : ∀ c ∈ words1.filter isCode, c.before args0 about1 = true := by
  rw [codes_eq]
  intro c hc
  simp only [codes1, List.mem_cons, List.not_mem_nil, or_false] at hc
  rcases hc with rfl | rfl | rfl | rfl | rfl
  · exact w_c0
  · exact w_c1
  · exact w_c2
  · exact w_c3
  · exact w_c4
set_option maxRecDepth 65536 in
theorem w_t1 : (words1.take 24).all (fun c => isCode c || c.before args0 about1) = true := by decide +kernel
set_option maxRecDepth 65536 in
theorem w_t2 : (words1.drop 24).all (fun c => isCode c || c.before args0 about1) = true := by decide +kernel
theorem w_tables : (allAtoms (Jvm.Cond.code x code maxLocals ret :: tables_1)).before args0 about1 = true := by
  rw [allAtoms_all]
  show words1.all (fun c => c.before args0 about1) = true
  refine all_split ?_ w_codes
  rw [← List.take_append_drop 24 words1, List.all_append, w_t1, w_t2]
  rfl
set_option maxRecDepth 65536 in
theorem w_case : (Jvm.Cond.and given_1 narrow_1).before args0 about1 = true := by decide +kernel
theorem w_applies : (headSpec (Jvm.Cond.code x code maxLocals ret :: tables_1) room_1).applies x e0.platform about1 = true :=
  (Spec.applies_iff w_frames).mpr ⟨w_running, w_runnable, w_alone, w_named, w_hears, w_ripe, w_room, w_tables⟩
theorem atStart : AtStart classFile x code maxLocals ret World_1 tables_1 room_1 Calls_1 rest_1 Pre_1 launch0 p0 e0 about1 theMethod args0 below0 :=
  ⟨lists_1, trivial, launch0.admits_env _ _ _, launch0.least_env, fairChoices_fair.cas, fairChoices_fair.clock, w_frames, w_args, w_heap, w_applies, trivial, trivial, w_case⟩
end start1
theorem witness_1 : WitnessClaimed_1 := ⟨start1.p0, start1.e0, start1.about1, start1.theMethod, start1.args0, start1.below0, start1.atStart⟩
end Jvm.Pilot.@@N@@
