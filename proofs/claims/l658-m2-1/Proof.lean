import JvmDerived
import JvmDerived.Pilot.@@N@@Statement
import JvmDerived.Pilot.@@N@@Code
set_option linter.unusedVariables false
set_option linter.unusedSimpArgs false
namespace Jvm.Pilot.@@N@@
open Jvm Jvm.ClassFile Sem Op Lib Jvm.Free Jvm.Stand Jvm.LawKit Jvm.RoadKit Bundle Jvm.Pilot.@@N@@.Jvm.D
section OwnKit
variable {p : Program} {l : Launch} {e : Env} {R : Room} {s : State} {m : MethodId} {args : Array Value} {below : List Frame} {meth : Method} {c : Code} {T : State} {locs : List Loc} {cells slots : Nat}
theorem own_retI (X : Stand p l e R s m args below meth c T locs cells slots) (hx : p.tables.exec = Jvm.exec) {pc : Nat} {Ls : Array Slot} {z : Int32} {rest : List Value} (hret : meth.sig.returnType = some .int) (hd : decode c.code pc = .ok (.ireturn, 1)) {fs : List Frame}
    (hl : ∀ (f : JFrame) (acts : List Action), f.method = m → f.locked = none → f.entered = [] → (doReturn e (T.setTop f) acts (some (.int z))).1 = T.setFrames fs) : Steps p.tables e below (T.setTop (mkF m pc Ls (.int z :: rest))) (T.setFrames fs) := by
  have hm' : T.vm.method? m = some meth := X.method'
  have hn : narrow .int (.int z) = .int z := rfl
  show Steps p.tables e below (T.setTop { method := m, pc := pc, locals := Ls, stack := _ :: rest, locked := none }) _
  jvm_step X.here [X.here.top, hx, hd, hm', hret, hn]
  first | (intro acts; rw [hl _ acts rfl rfl rfl]) | rw [hl _ _ rfl rfl rfl]
  exact Steps.refl _
theorem own_retJ (X : Stand p l e R s m args below meth c T locs cells slots) (hx : p.tables.exec = Jvm.exec) {pc : Nat} {Ls : Array Slot} {z : Int64} {rest : List Value} (hret : meth.sig.returnType = some .long) (hd : decode c.code pc = .ok (.lreturn, 1)) {fs : List Frame}
    (hl : ∀ (f : JFrame) (acts : List Action), f.method = m → f.locked = none → f.entered = [] → (doReturn e (T.setTop f) acts (some (.long z))).1 = T.setFrames fs) : Steps p.tables e below (T.setTop (mkF m pc Ls (.long z :: rest))) (T.setFrames fs) := by
  have hm' : T.vm.method? m = some meth := X.method'
  have hn : narrow .long (.long z) = .long z := rfl
  show Steps p.tables e below (T.setTop { method := m, pc := pc, locals := Ls, stack := _ :: rest, locked := none }) _
  jvm_step X.here [X.here.top, hx, hd, hm', hret, hn]
  first | (intro acts; rw [hl _ acts rfl rfl rfl]) | rw [hl _ _ rfl rfl rfl]
  exact Steps.refl _
theorem own_retA (X : Stand p l e R s m args below meth c T locs cells slots) (hx : p.tables.exec = Jvm.exec) {pc : Nat} {Ls : Array Slot} {w : Value} {t : FieldType} {rest : List Value} (hret : meth.sig.returnType = some t) (ht : t.isReference = true) (hw : w.isRef = true) (hd : decode c.code pc = .ok (.areturn, 1)) {fs : List Frame}
    (hl : ∀ (f : JFrame) (acts : List Action), f.method = m → f.locked = none → f.entered = [] → (doReturn e (T.setTop f) acts (some w)).1 = T.setFrames fs) : Steps p.tables e below (T.setTop (mkF m pc Ls (w :: rest))) (T.setFrames fs) :=
  retOut X hx hret (by cases t <;> first | (cases ht; done) | (cases w <;> first | rfl | (cases hw; done))) (Or.inr (Or.inr (Or.inr (Or.inr ⟨rfl, ht, hw⟩)))) hd hl
/-- the run from S ends, returned, as Q says -/
def OwnR (p : Program) (e : Env) (below : List Frame) (s : State) (Q : Option Value → Heap → List Loc → Prop) (kc ks : Nat) (S : State) : Prop :=
  ∃ s₂ o, Steps p.tables e below S s₂ ∧ s₂.status = .running ∧ Ended s₂ below o ∧ ∃ v L, o = .returned v ∧ Q v s₂.heap L ∧ FrameEnd s o s₂ L kc ks
theorem OwnR.of {Q : Option Value → Heap → List Loc → Prop} {kc ks : Nat} {S S' : State} (k : ∀ t, Steps p.tables e below S' t → Steps p.tables e below S t) (h : OwnR p e below s Q kc ks S') : OwnR p e below s Q kc ks S := by
  obtain ⟨a, o, h1, h2⟩ := h
  exact ⟨a, o, k a h1, h2⟩
theorem own_leafI (X : Stand p l e R s m args below meth c T locs cells slots) (hx : p.tables.exec = Jvm.exec) (hlk : meth.locks = false) (hret : meth.sig.returnType = some .int) {Q : Option Value → Heap → List Loc → Prop} {kc ks pc : Nat} {Ls : Array Slot} {z : Int32} {rest : List Value} (hd : decode c.code pc = .ok (.ireturn, 1)) (hk : cells ≤ kc) (hs : slots ≤ ks) (hQ : Q (some (.int z)) T.heap locs) :
    OwnR p e below s Q kc ks (T.setTop (mkF m pc Ls (.int z :: rest))) := by
  obtain ⟨fs, hr, hrun, hended, hW, hsame⟩ := X.leave (v := some (.int z)) (fun h => by rw [hret] at h; cases h) hlk
  exact ⟨_, _, own_retI X hx hret hd hr, hrun, hended, _, _, rfl, hQ, ⟨_, rfl⟩, hW, hsame.mono hk hs⟩
theorem own_leafN (X : Stand p l e R s m args below meth c T locs cells slots) (hx : p.tables.exec = Jvm.exec) (hlk : meth.locks = false) {t : FieldType} (hret : meth.sig.returnType = some t) (ht : t = .boolean ∨ t = .byte ∨ t = .char ∨ t = .short) {Q : Option Value → Heap → List Loc → Prop} {kc ks pc : Nat} {Ls : Array Slot} {z z' : Int32} {rest : List Value} (hd : decode c.code pc = .ok (.ireturn, 1)) (hz : nar t z = z') (hk : cells ≤ kc) (hs : slots ≤ ks) (hQ : Q (some (.int z')) T.heap locs) :
    OwnR p e below s Q kc ks (T.setTop (mkF m pc Ls (.int z :: rest))) := by
  subst hz
  obtain ⟨fs, hr, hrun, hended, hW, hsame⟩ := X.leave (v := some (.int (nar t z))) (fun h => by rw [hret] at h; cases h) hlk
  exact ⟨_, _, retN X hx hret ht hd hr, hrun, hended, _, _, rfl, hQ, ⟨_, rfl⟩, hW, hsame.mono hk hs⟩
theorem own_leafJ (X : Stand p l e R s m args below meth c T locs cells slots) (hx : p.tables.exec = Jvm.exec) (hlk : meth.locks = false) (hret : meth.sig.returnType = some .long) {Q : Option Value → Heap → List Loc → Prop} {kc ks pc : Nat} {Ls : Array Slot} {z : Int64} {rest : List Value} (hd : decode c.code pc = .ok (.lreturn, 1)) (hk : cells ≤ kc) (hs : slots ≤ ks) (hQ : Q (some (.long z)) T.heap locs) :
    OwnR p e below s Q kc ks (T.setTop (mkF m pc Ls (.long z :: rest))) := by
  obtain ⟨fs, hr, hrun, hended, hW, hsame⟩ := X.leave (v := some (.long z)) (fun h => by rw [hret] at h; cases h) hlk
  exact ⟨_, _, own_retJ X hx hret hd hr, hrun, hended, _, _, rfl, hQ, ⟨_, rfl⟩, hW, hsame.mono hk hs⟩
theorem own_leafA (X : Stand p l e R s m args below meth c T locs cells slots) (hx : p.tables.exec = Jvm.exec) (hlk : meth.locks = false) {t : FieldType} (hret : meth.sig.returnType = some t) (ht : t.isReference = true) {Q : Option Value → Heap → List Loc → Prop} {kc ks pc : Nat} {Ls : Array Slot} {w : Value} (hw : w.isRef = true) {rest : List Value} (hd : decode c.code pc = .ok (.areturn, 1)) (hk : cells ≤ kc) (hs : slots ≤ ks) (hQ : Q (some w) T.heap locs) :
    OwnR p e below s Q kc ks (T.setTop (mkF m pc Ls (w :: rest))) := by
  obtain ⟨fs, hr, hrun, hended, hW, hsame⟩ := X.leave (v := some w) (fun h => by rw [hret] at h; cases h) hlk
  exact ⟨_, _, own_retA X hx hret ht hw hd hr, hrun, hended, _, _, rfl, hQ, ⟨_, rfl⟩, hW, hsame.mono hk hs⟩
theorem own_leafD (X : Stand p l e R s m args below meth c T locs cells slots) (hx : p.tables.exec = Jvm.exec) (hlk : meth.locks = false) (hret : meth.sig.returnType = some .double) {Q : Option Value → Heap → List Loc → Prop} {kc ks pc : Nat} {Ls : Array Slot} {z : UInt64} {rest : List Value} (hd : decode c.code pc = .ok (.dreturn, 1)) (hk : cells ≤ kc) (hs : slots ≤ ks) (hQ : Q (some (.double z)) T.heap locs) :
    OwnR p e below s Q kc ks (T.setTop (mkF m pc Ls (.double z :: rest))) := by
  obtain ⟨fs, hr, hrun, hended, hW, hsame⟩ := X.leave (v := some (.double z)) (fun h => by rw [hret] at h; cases h) hlk
  exact ⟨_, _, retOut X hx hret rfl (Or.inr (Or.inr (Or.inl ⟨rfl, rfl, z, rfl⟩))) hd hr, hrun, hended, _, _, rfl, hQ, ⟨_, rfl⟩, hW, hsame.mono hk hs⟩
theorem own_leafV (X : Stand p l e R s m args below meth c T locs cells slots) (hx : p.tables.exec = Jvm.exec) (hlk : meth.locks = false) (hret : meth.sig.returnType = none) {Q : Option Value → Heap → List Loc → Prop} {kc ks pc : Nat} {Ls : Array Slot} (hd : decode c.code pc = .ok (.return_, 1)) (hk : cells ≤ kc) (hs : slots ≤ ks) (hQ : Q none T.heap locs) :
    OwnR p e below s Q kc ks (T.setTop (mkF m pc Ls [])) := by
  obtain ⟨fs, hr, hrun, hended, hW, hsame⟩ := X.leave (v := none) (fun _ => rfl) hlk
  exact ⟨_, _, X.returnOut hx hret hd hr, hrun, hended, _, _, rfl, hQ, ⟨_, rfl⟩, hW, hsame.mono hk hs⟩
theorem own_sta {Z : State} {h h' : Heap} {C n d : String} {v : Value} (F : Sta Z h C n d v) (K : Keep h h' []) : Sta Z h' C n d v := by
  obtain ⟨cf, i, k, f, st, cell, h1, h2, h3, h4, h5, r⟩ := F
  exact ⟨cf, i, k, f, st, cell, h1, h2, h3, h4, K.2.1 _ _ h5 nin0, r⟩
theorem own_arr {Z : State} {h h' : Heap} {a : Addr} {c : Cell} {ty : FieldType} {ws : List Addr} (A : Arr Z h a c ty) (K : Keep h h' ws) (q : a ∉ ws) : Arr Z h' a c ty := ⟨K.2.1 _ _ A.1 q, A.2⟩
theorem own_lclt (a b : Int64) : lcmpW a b < 0 ↔ a < b := by
  obtain ⟨h1, h2, h3⟩ := c_lcmp a b
  have e1 := @Int64.lt_iff_toInt_lt a b
  have e2 := @Int32.lt_iff_toInt_lt (lcmpW a b) 0
  have e0 : (0 : Int32).toInt = 0 := by decide
  rw [e1, e2, e0]; omega
theorem own_lcgt (a b : Int64) : 0 < lcmpW a b ↔ b < a := by
  obtain ⟨h1, h2, h3⟩ := c_lcmp a b
  have e1 := @Int64.lt_iff_toInt_lt b a
  have e2 := @Int32.lt_iff_toInt_lt 0 (lcmpW a b)
  have e0 : (0 : Int32).toInt = 0 := by decide
  rw [e1, e2, e0]; omega
theorem own_lceq (a b : Int64) : lcmpW a b = 0 ↔ a = b := by
  obtain ⟨h1, h2, h3⟩ := c_lcmp a b
  have e0 : (0 : Int32).toInt = 0 := by decide
  rw [← Int64.toInt_inj, ← Int32.toInt_inj, e0]; omega
end OwnKit
theorem own_mod (x y : Int32) (hy : 0 < y.toInt) : 0 ≤ ((x &&& 2147483647) % y).toInt ∧ ((x &&& 2147483647) % y).toInt < y.toInt := by
  have h := (c_and x 2147483647 (by decide)).1
  have q := (c_iremV (x &&& 2147483647) y).1 h hy
  exact ⟨q.1, q.2.1⟩
def OwnS (k : Int) (a : Int64) : Prop := -(k * 2147483648) ≤ a.toInt ∧ a.toInt ≤ k * 2147483648
theorem own_s0 : OwnS 0 (0 : Int64) := by unfold OwnS; decide
theorem own_s1 (x : Int32) : OwnS 1 (x.toInt64) := by
  unfold OwnS
  have h := c_i2l x; have a := Int32.le_toInt x; have b := Int32.toInt_lt x
  omega
theorem own_sa {k : Int} {a b : Int64} (ha : OwnS k a) (hb : OwnS 1 b) (h0 : 0 ≤ k) (hk : k ≤ 10) : OwnS (k + 1) (a + b) := by
  unfold OwnS at *
  have s := c_ladd a b; have r1 := Int64.le_toInt (a + b); have r2 := Int64.toInt_lt (a + b)
  omega
theorem own_b {k : Int} {a : Int64} (ha : OwnS k a) (h0 : 0 ≤ k) (hk : k ≤ 10) : B53 a := by
  unfold OwnS at ha
  exact ⟨by omega, by omega⟩
theorem own_n4 (x : Int32) : (x &&& 3) = (0 : Int32) ∨ (x &&& 3) = (1 : Int32) ∨ (x &&& 3) = (2 : Int32) ∨ (x &&& 3) = (3 : Int32) := by
  have h := c_mask x 3 2 (by decide) (by decide)
  have e : ((2 ^ 2 : Nat) : Int) = 4 := by decide
  rw [e] at h
  have e0 : (0 : Int32).toInt = 0 := by decide
  have e1 : (1 : Int32).toInt = 1 := by decide
  have e2 : (2 : Int32).toInt = 2 := by decide
  have e3 : (3 : Int32).toInt = 3 := by decide
  simp only [← Int32.toInt_inj, e0, e1, e2, e3]
  omega
theorem own_vb (x : Int32) : ¬ ((x &&& 1073741823) + 1) < (1 : Int32) := by
  have h := c_and x 1073741823 (by decide)
  have e : (1073741823 : Int32).toInt = 1073741823 := by decide
  have e1 : (1 : Int32).toInt = 1 := by decide
  have q := c_iadd (x &&& 1073741823) (1 : Int32)
  have lo := Int32.le_toInt ((x &&& 1073741823) + (1 : Int32)); have hi := Int32.toInt_lt ((x &&& 1073741823) + (1 : Int32))
  rw [Int32.lt_iff_toInt_lt, e1]
  rw [e] at h; rw [e1] at q
  omega
theorem pn_com_example_ramification_ramification_model_StrahlerOrders : plainName "com/example/ramification/ramification/model/StrahlerOrders" = true := by first | (simp [plainName, overriddenIn]; done) | decide +kernel
theorem ef_rm1_0 (m : MethodId) (x0 : Addr) (x1 : Addr) (x2 : Addr) : entryFrame m #[(.ref x0), (.ref x1), (.ref x2), .null] 5 = mkF m 0 #[.val (.ref x0), .val (.ref x1), .val (.ref x2), .val .null, .unset] [] := by first | (simp [entryFrame, mkF, argsToLocals, Value.category]; done) | rfl
theorem d1_0 : decode prog_88_method_1_code 0 = .ok (.aload_n 0, 1) := by decide +kernel
theorem d1_1 : decode prog_88_method_1_code 1 = .ok (.invokespecial 1, 3) := by decide +kernel
theorem d1_4 : decode prog_88_method_1_code 4 = .ok (.aload_n 1, 1) := by decide +kernel
theorem d1_5 : decode prog_88_method_1_code 5 = .ok (.arraylength, 1) := by decide +kernel
theorem d1_6 : decode prog_88_method_1_code 6 = .ok (.aload_n 2, 1) := by decide +kernel
theorem d1_7 : decode prog_88_method_1_code 7 = .ok (.arraylength, 1) := by decide +kernel
theorem d1_8 : decode prog_88_method_1_code 8 = .ok (.if_icmp .eq 20, 3) := by decide +kernel
theorem d1_28 : decode prog_88_method_1_code 28 = .ok (.iconst 0, 1) := by decide +kernel
theorem d1_29 : decode prog_88_method_1_code 29 = .ok (.istore 4, 2) := by decide +kernel
theorem d1_31 : decode prog_88_method_1_code 31 = .ok (.iload 4, 2) := by decide +kernel
theorem d1_33 : decode prog_88_method_1_code 33 = .ok (.aload_n 1, 1) := by decide +kernel
theorem d1_34 : decode prog_88_method_1_code 34 = .ok (.arraylength, 1) := by decide +kernel
theorem d1_35 : decode prog_88_method_1_code 35 = .ok (.if_icmp .ge 38, 3) := by decide +kernel
theorem d1_73 : decode prog_88_method_1_code 73 = .ok (.aload_n 0, 1) := by decide +kernel
theorem d1_74 : decode prog_88_method_1_code 74 = .ok (.aload_n 1, 1) := by decide +kernel
theorem d1_75 : decode prog_88_method_1_code 75 = .ok (.invokevirtual 17, 3) := by decide +kernel
theorem d1_78 : decode prog_88_method_1_code 78 = .ok (.checkcast 18, 3) := by decide +kernel
theorem d1_81 : decode prog_88_method_1_code 81 = .ok (.putfield 23, 3) := by decide +kernel
theorem d1_84 : decode prog_88_method_1_code 84 = .ok (.aload_n 0, 1) := by decide +kernel
theorem d1_85 : decode prog_88_method_1_code 85 = .ok (.aload_n 2, 1) := by decide +kernel
theorem d1_86 : decode prog_88_method_1_code 86 = .ok (.invokevirtual 28, 3) := by decide +kernel
theorem d1_89 : decode prog_88_method_1_code 89 = .ok (.checkcast 29, 3) := by decide +kernel
theorem d1_92 : decode prog_88_method_1_code 92 = .ok (.putfield 31, 3) := by decide +kernel
theorem d1_95 : decode prog_88_method_1_code 95 = .ok (.aload_n 0, 1) := by decide +kernel
theorem d1_96 : decode prog_88_method_1_code 96 = .ok (.aload_n 3, 1) := by decide +kernel
theorem d1_97 : decode prog_88_method_1_code 97 = .ok (.putfield 34, 3) := by decide +kernel
theorem d1_100 : decode prog_88_method_1_code 100 = .ok (.return_, 1) := by decide +kernel
def Q1_0 (Z : State) (a1 : Addr) (k3 : ClassId) (h0 : Heap) (n0 : Nat) (v : Option Value) (h : Heap) (L : List Loc) : Prop := ∃ (bD : Addr), v = none ∧ Fr n0 L ∧ Keep h0 h [a1] ∧ Exa Z h a1 "com/example/ramification/ramification/model/StrahlerOrders" ∧ Fld Z h a1 "com/example/ramification/ramification/model/StrahlerOrders" "lengths" "[D" (.ref bD) ∧ Arv Z h bD k3 .double (0 : Int32) [] (.double (0 : UInt64)) ∧ h0.size ≤ bD
set_option maxRecDepth 65536 in
set_option maxHeartbeats 40000000 in
theorem rm1_0 (l : Launch) (Z : State) (a0 : Array Value) (hw : ∀ d ∈ tables_1, d.before a0 Z = true) (ws : List Jvm.Cond) (a1 : Addr) (a2 : Addr) (a3 : Addr) (k2 k3 : ClassId) (h0 : Heap) (n0 : Nat) (Z0 : n0 ≤ h0.size) (E_a1 : Exa Z h0 a1 "com/example/ramification/ramification/model/StrahlerOrders") (F_branches_a1 : Fld Z h0 a1 "com/example/ramification/ramification/model/StrahlerOrders" "branches" "[I" .null) (F_lengths_a1 : Fld Z h0 a1 "com/example/ramification/ramification/model/StrahlerOrders" "lengths" "[D" .null) (F_unit_a1 : Fld Z h0 a1 "com/example/ramification/ramification/model/StrahlerOrders" "unit" "Ljava/util/Optional;" .null) (V_a2 : Arv Z h0 a2 k2 .int (0 : Int32) [] (.int (0 : Int32))) (V_a3 : Arv Z h0 a3 k3 .double (0 : Int32) [] (.double (0 : UInt64))) (E_a2 : Exa Z h0 a2 "[I") (E_a3 : Exa Z h0 a3 "[D") (g_a1 : n0 ≤ a1) (ne_12 : a1 ≠ a2) (ne_13 : a1 ≠ a3) :
    MetFree l (⟨"com/example/ramification/ramification/model/StrahlerOrders", "<init>", "([I[DLjava/util/Optional;)V"⟩ : MethodName) (head1 (Jvm.Cond.code (⟨"com/example/ramification/ramification/model/StrahlerOrders", "<init>", "([I[DLjava/util/Optional;)V"⟩ : MethodName) prog_88_method_1_code 5 none :: ws) ({ frames := 1, cells := 2, slots := 0, locals := 18 } : Room)) (fun a U => a = #[(.ref a1), (.ref a2), (.ref a3), .null] ∧ Z.Warmed39 U.vm ∧ U.heap = h0) (fun _ _ _ _ _ => True) (fun _ U o U' => ∃ v L, o = .returned v ∧ Q1_0 Z a1 k3 h0 n0 v U'.heap L ∧ FrameEnd U o U' L ({ frames := 1, cells := 2, slots := 0, locals := 18 } : Room).cells ({ frames := 1, cells := 2, slots := 0, locals := 18 } : Room).slots) := by
  refine MetFree.of_bodySF (plainFor_of_name pn_com_example_ramification_ramification_model_StrahlerOrders) hisR ?_
  intro p e s m args below meth c s₁ Bd hml0 hP hK
  obtain ⟨rfl, hZ, hh⟩ := hP
  have hx := Bd.exec
  have hby := Bd.bytes
  have hlk := BodyLoose.notSynchronized Bd
  have hml : c.maxLocals = 5 := hml0
  have hown : s.vm.findClass "com/example/ramification/ramification/model/StrahlerOrders" = some m.cls := findClass_of_methodNamed Bd.named
  have hnm := (name_of_methodNamed Bd.named Bd.method).1
  have X0 : Stand p l e ({ frames := 1, cells := 2, slots := 0, locals := 18 } : Room) s m #[(.ref a1), (.ref a2), (.ref a3), .null] below meth c s₁ [] 0 0 := Stand.of_body Bd
  have e0 : s₁.heap = h0 := by rw [← hh, Bd.state]; rfl
  have N0 := Fr.nil n0
  refine OwnR.of (s := s) (Q := Q1_0 Z a1 k3 h0 n0) (fun t k => castTop (ef_rm1_0 m a1 a2 a3) k) ?_
  show OwnR _ _ _ _ _ _ _ (s₁.setTop (mkF m 0 #[.val (.ref a1), .val (.ref a2), .val (.ref a3), .val .null, .unset] []))
  refine OwnR.of (fun _ hr => XS.aloadN X0.here hx rfl (hb hby d1_0) rfl rfl hr) ?_
  show OwnR _ _ _ _ _ _ _ (s₁.setTop (mkF m 1 #[.val (.ref a1), .val (.ref a2), .val (.ref a3), .val .null, .unset] [(.ref a1)]))
  obtain ⟨T1, X1, e1, st1⟩ := initO X0 hx hZ hown (hw _ (List.mem_of_getElem? (i := 9) rfl)) (hw _ (List.mem_of_getElem? (i := 10) rfl)) (hw _ (List.mem_of_getElem? (i := 11) rfl)) e0 (g := (mkF m 1 #[.val (.ref a1), .val (.ref a2), .val (.ref a3), .val .null, .unset] [(.ref a1)])) rfl (by rw [hml]; rfl) rfl (hb hby d1_1) (by decide) (W := 0) (by show 2 * 0 + _ ≤ _; exact Nat.le_of_eq rfl) (by decide)
  refine OwnR.of (st1) ?_
  show OwnR _ _ _ _ _ _ _ (T1.setTop (mkF m 4 #[.val (.ref a1), .val (.ref a2), .val (.ref a3), .val .null, .unset] []))
  refine OwnR.of (fun _ hr => XS.aloadN X1.here hx rfl (hb hby d1_4) rfl rfl hr) ?_
  show OwnR _ _ _ _ _ _ _ (T1.setTop (mkF m 5 #[.val (.ref a1), .val (.ref a2), .val (.ref a3), .val .null, .unset] [(.ref a2)]))
  obtain ⟨cl2, Ar2, -, S2, N2, -, -⟩ := id V_a2
  refine OwnR.of (X1.arraylength hx (by rw [e1]; exact Ar2.1) (State.isArrayOf_alike hZ.alike Ar2.2.1) (g := (mkF m 5 #[.val (.ref a1), .val (.ref a2), .val (.ref a3), .val .null, .unset] [(.ref a2)])) rfl rfl (hb hby d1_5)) ?_
  show OwnR _ _ _ _ _ _ _ (T1.setTop (mkF m 6 #[.val (.ref a1), .val (.ref a2), .val (.ref a3), .val .null, .unset] [(.int cl2.slots.size.toInt32)]))
  rw [len_of S2 N2]
  show OwnR _ _ _ _ _ _ _ (T1.setTop (mkF m 6 #[.val (.ref a1), .val (.ref a2), .val (.ref a3), .val .null, .unset] [(.int (0 : Int32))]))
  refine OwnR.of (fun _ hr => XS.aloadN X1.here hx rfl (hb hby d1_6) rfl rfl hr) ?_
  show OwnR _ _ _ _ _ _ _ (T1.setTop (mkF m 7 #[.val (.ref a1), .val (.ref a2), .val (.ref a3), .val .null, .unset] [(.ref a3), (.int (0 : Int32))]))
  obtain ⟨cl3, Ar3, -, S3, N3, -, -⟩ := id V_a3
  refine OwnR.of (X1.arraylength hx (by rw [e1]; exact Ar3.1) (State.isArrayOf_alike hZ.alike Ar3.2.1) (g := (mkF m 7 #[.val (.ref a1), .val (.ref a2), .val (.ref a3), .val .null, .unset] [(.ref a3), (.int (0 : Int32))])) rfl rfl (hb hby d1_7)) ?_
  show OwnR _ _ _ _ _ _ _ (T1.setTop (mkF m 8 #[.val (.ref a1), .val (.ref a2), .val (.ref a3), .val .null, .unset] [(.int cl3.slots.size.toInt32), (.int (0 : Int32))]))
  rw [len_of S3 N3]
  show OwnR _ _ _ _ _ _ _ (T1.setTop (mkF m 8 #[.val (.ref a1), .val (.ref a2), .val (.ref a3), .val .null, .unset] [(.int (0 : Int32)), (.int (0 : Int32))]))
  refine OwnR.of (fun _ hr => XS.icmpYes X1.here hx rfl (pc0 := 8) (pc' := 28) rfl (hb hby d1_8) rfl (teq (by decide : (0 : Int32) = (0 : Int32))).1 (by decide) (by decide) hr) ?_
  show OwnR _ _ _ _ _ _ _ (T1.setTop (mkF m 28 #[.val (.ref a1), .val (.ref a2), .val (.ref a3), .val .null, .unset] []))
  refine OwnR.of (fun _ hr => XS.iconst X1.here hx rfl (hb hby d1_28) hr) ?_
  show OwnR _ _ _ _ _ _ _ (T1.setTop (mkF m 29 #[.val (.ref a1), .val (.ref a2), .val (.ref a3), .val .null, .unset] [(.int (0 : Int32))]))
  refine OwnR.of (fun _ hr => XS.istore X1.here hx rfl (hb hby d1_29) rfl (l' := #[.val (.ref a1), .val (.ref a2), .val (.ref a3), .val .null, .val (.int (0 : Int32))]) rfl hr) ?_
  show OwnR _ _ _ _ _ _ _ (T1.setTop (mkF m 31 #[.val (.ref a1), .val (.ref a2), .val (.ref a3), .val .null, .val (.int (0 : Int32))] []))
  refine OwnR.of (fun _ hr => XS.iload X1.here hx rfl (hb hby d1_31) rfl hr) ?_
  show OwnR _ _ _ _ _ _ _ (T1.setTop (mkF m 33 #[.val (.ref a1), .val (.ref a2), .val (.ref a3), .val .null, .val (.int (0 : Int32))] [(.int (0 : Int32))]))
  refine OwnR.of (fun _ hr => XS.aloadN X1.here hx rfl (hb hby d1_33) rfl rfl hr) ?_
  show OwnR _ _ _ _ _ _ _ (T1.setTop (mkF m 34 #[.val (.ref a1), .val (.ref a2), .val (.ref a3), .val .null, .val (.int (0 : Int32))] [(.ref a2), (.int (0 : Int32))]))
  obtain ⟨cl4, Ar4, -, S4, N4, -, -⟩ := id V_a2
  refine OwnR.of (X1.arraylength hx (by rw [e1]; exact Ar4.1) (State.isArrayOf_alike hZ.alike Ar4.2.1) (g := (mkF m 34 #[.val (.ref a1), .val (.ref a2), .val (.ref a3), .val .null, .val (.int (0 : Int32))] [(.ref a2), (.int (0 : Int32))])) rfl rfl (hb hby d1_34)) ?_
  show OwnR _ _ _ _ _ _ _ (T1.setTop (mkF m 35 #[.val (.ref a1), .val (.ref a2), .val (.ref a3), .val .null, .val (.int (0 : Int32))] [(.int cl4.slots.size.toInt32), (.int (0 : Int32))]))
  rw [len_of S4 N4]
  show OwnR _ _ _ _ _ _ _ (T1.setTop (mkF m 35 #[.val (.ref a1), .val (.ref a2), .val (.ref a3), .val .null, .val (.int (0 : Int32))] [(.int (0 : Int32)), (.int (0 : Int32))]))
  refine OwnR.of (fun _ hr => XS.icmpYes X1.here hx rfl (pc0 := 35) (pc' := 73) rfl (hb hby d1_35) rfl (flt (by decide : ¬ ((0 : Int32) < (0 : Int32)))).2.1 (by decide) (by decide) hr) ?_
  show OwnR _ _ _ _ _ _ _ (T1.setTop (mkF m 73 #[.val (.ref a1), .val (.ref a2), .val (.ref a3), .val .null, .val (.int (0 : Int32))] []))
  refine OwnR.of (fun _ hr => XS.aloadN X1.here hx rfl (hb hby d1_73) rfl rfl hr) ?_
  show OwnR _ _ _ _ _ _ _ (T1.setTop (mkF m 74 #[.val (.ref a1), .val (.ref a2), .val (.ref a3), .val .null, .val (.int (0 : Int32))] [(.ref a1)]))
  refine OwnR.of (fun _ hr => XS.aloadN X1.here hx rfl (hb hby d1_74) rfl rfl hr) ?_
  show OwnR _ _ _ _ _ _ _ (T1.setTop (mkF m 75 #[.val (.ref a1), .val (.ref a2), .val (.ref a3), .val .null, .val (.int (0 : Int32))] [(.ref a2), (.ref a1)]))
  obtain ⟨T5, h5, X5, e5, E5, V5, AE5, st5⟩ := cloneH X1 hx hZ hown (hw _ (List.mem_of_getElem? (i := 12) rfl)) (hw _ (List.mem_of_getElem? (i := 13) rfl)) (hw _ (List.mem_of_getElem? (i := 17) rfl)) (hw _ (List.mem_of_getElem? (i := 15) rfl)) (hw _ (List.mem_of_getElem? (i := 16) rfl)) (hw _ (List.mem_of_getElem? (i := 18) rfl)) e1 (Arv.arh V_a2) E_a2 (g := (mkF m 75 #[.val (.ref a1), .val (.ref a2), .val (.ref a3), .val .null, .val (.int (0 : Int32))] [(.ref a2), (.ref a1)])) rfl (by rw [hml]; rfl) rfl (hb hby d1_75) (by decide) (W := 1) (by show 2 * 0 + _ ≤ _; exact Nat.le_of_eq rfl) (by decide) (cap := 0) (by decide) (by decide) (by decide)
  obtain ⟨b5, g5⟩ : ∃ z, z = h0.size := ⟨_, rfl⟩
  rw [← g5] at V5 AE5 st5
  refine OwnR.of (st5) ?_
  have gn_b5 : n0 ≤ b5 := Nat.le_trans (Nat.le_trans Z0 (Keep.refl h0 [a1]).1) (Nat.le_of_eq g5.symm)
  have sz_b5 : h0.size ≤ b5 := Nat.le_trans (Keep.refl h0 [a1]).1 (Nat.le_of_eq g5.symm)
  have K5 : Keep h0 h5 [a1] := Keep.ext (Keep.refl h0 [a1]) E5
  have V5 : Arv Z h5 b5 k2 .int (0 : Int32) [] (.int (0 : Int32)) := V5
  show OwnR _ _ _ _ _ _ _ (T5.setTop (mkF m 78 #[.val (.ref a1), .val (.ref a2), .val (.ref a3), .val .null, .val (.int (0 : Int32))] [(.ref b5), (.ref a1)]))
  obtain ⟨T6, X6, e6, st6⟩ := castY X5 hx hZ hown (hw _ (List.mem_of_getElem? (i := 19) rfl)) e5 (Ins.self AE5) (g := (mkF m 78 #[.val (.ref a1), .val (.ref a2), .val (.ref a3), .val .null, .val (.int (0 : Int32))] [(.ref b5), (.ref a1)])) rfl rfl (hb hby d1_78)
  refine OwnR.of (st6) ?_
  show OwnR _ _ _ _ _ _ _ (T6.setTop (mkF m 81 #[.val (.ref a1), .val (.ref a2), .val (.ref a3), .val .null, .val (.int (0 : Int32))] [(.ref b5), (.ref a1)]))
  obtain ⟨T7, h7, X7, e7, W7, st7⟩ := putF X6 hx hZ hown (host := "") (Or.inl (hw _ (List.mem_of_getElem? (i := 21) rfl))) Via.refl e6 (Fld.ext E5 F_branches_a1) (Exa.keep E_a1 K5) (Or.inr ⟨(hw _ (List.mem_of_getElem? (i := 22) rfl)), rfl, hnm⟩) (hw _ (List.mem_of_getElem? (i := 4) rfl)) (ty := (.array .int)) (by decide) rfl rfl (g := (mkF m 81 #[.val (.ref a1), .val (.ref a2), .val (.ref a3), .val .null, .val (.int (0 : Int32))] [(.ref b5), (.ref a1)])) rfl rfl (hb hby d1_81)
  refine OwnR.of (st7) ?_
  have F7 := Fld.same W7 (Fld.ext E5 F_branches_a1)
  have K7 : Keep h0 h7 [a1] := Keep.wr K5 W7 (Or.inl (List.mem_of_getElem? (i := 0) rfl))
  have N7 := Fr.snoc X7 N0 g_a1
  show OwnR _ _ _ _ _ _ _ (T7.setTop (mkF m 84 #[.val (.ref a1), .val (.ref a2), .val (.ref a3), .val .null, .val (.int (0 : Int32))] []))
  refine OwnR.of (fun _ hr => XS.aloadN X7.here hx rfl (hb hby d1_84) rfl rfl hr) ?_
  show OwnR _ _ _ _ _ _ _ (T7.setTop (mkF m 85 #[.val (.ref a1), .val (.ref a2), .val (.ref a3), .val .null, .val (.int (0 : Int32))] [(.ref a1)]))
  refine OwnR.of (fun _ hr => XS.aloadN X7.here hx rfl (hb hby d1_85) rfl rfl hr) ?_
  show OwnR _ _ _ _ _ _ _ (T7.setTop (mkF m 86 #[.val (.ref a1), .val (.ref a2), .val (.ref a3), .val .null, .val (.int (0 : Int32))] [(.ref a3), (.ref a1)]))
  obtain ⟨T8, h8, X8, e8, E8, V8, AE8, st8⟩ := cloneH X7 hx hZ hown (hw _ (List.mem_of_getElem? (i := 23) rfl)) (hw _ (List.mem_of_getElem? (i := 24) rfl)) (hw _ (List.mem_of_getElem? (i := 17) rfl)) (hw _ (List.mem_of_getElem? (i := 15) rfl)) (hw _ (List.mem_of_getElem? (i := 25) rfl)) (hw _ (List.mem_of_getElem? (i := 26) rfl)) e7 (Arv.arh (Arv.keep V_a3 K7 (ninS (Ne.symm ne_13) nin0))) (Exa.keep E_a3 K7) (g := (mkF m 86 #[.val (.ref a1), .val (.ref a2), .val (.ref a3), .val .null, .val (.int (0 : Int32))] [(.ref a3), (.ref a1)])) rfl (by rw [hml]; rfl) rfl (hb hby d1_86) (by decide) (W := 1) (by show 2 * 0 + _ ≤ _; exact Nat.le_of_eq rfl) (by decide) (cap := 0) (by decide) (by decide) (by decide)
  obtain ⟨b8, g8⟩ : ∃ z, z = h7.size := ⟨_, rfl⟩
  rw [← g8] at V8 AE8 st8
  refine OwnR.of (st8) ?_
  have gn_b8 : n0 ≤ b8 := Nat.le_trans (Nat.le_trans Z0 K7.1) (Nat.le_of_eq g8.symm)
  have sz_b8 : h0.size ≤ b8 := Nat.le_trans K7.1 (Nat.le_of_eq g8.symm)
  have K8 : Keep h0 h8 [a1] := Keep.ext K7 E8
  have V8 : Arv Z h8 b8 k3 .double (0 : Int32) [] (.double (0 : UInt64)) := V8
  show OwnR _ _ _ _ _ _ _ (T8.setTop (mkF m 89 #[.val (.ref a1), .val (.ref a2), .val (.ref a3), .val .null, .val (.int (0 : Int32))] [(.ref b8), (.ref a1)]))
  obtain ⟨T9, X9, e9, st9⟩ := castY X8 hx hZ hown (hw _ (List.mem_of_getElem? (i := 27) rfl)) e8 (Ins.self AE8) (g := (mkF m 89 #[.val (.ref a1), .val (.ref a2), .val (.ref a3), .val .null, .val (.int (0 : Int32))] [(.ref b8), (.ref a1)])) rfl rfl (hb hby d1_89)
  refine OwnR.of (st9) ?_
  show OwnR _ _ _ _ _ _ _ (T9.setTop (mkF m 92 #[.val (.ref a1), .val (.ref a2), .val (.ref a3), .val .null, .val (.int (0 : Int32))] [(.ref b8), (.ref a1)]))
  obtain ⟨T10, h10, X10, e10, W10, st10⟩ := putF X9 hx hZ hown (host := "") (Or.inl (hw _ (List.mem_of_getElem? (i := 29) rfl))) Via.refl e9 (Fld.ext E8 (Fld.other W7 (Fld.ext E5 F_lengths_a1) (Or.inr (slot_ne (Or.inr (hw _ (List.mem_of_getElem? (i := 30) rfl))) (Or.inr (hw _ (List.mem_of_getElem? (i := 22) rfl))) (by decide) (t := (.array .double)) (t' := (.array .int)) (by decide) (by decide))))) (Exa.keep E_a1 K8) (Or.inr ⟨(hw _ (List.mem_of_getElem? (i := 30) rfl)), rfl, hnm⟩) (hw _ (List.mem_of_getElem? (i := 4) rfl)) (ty := (.array .double)) (by decide) rfl rfl (g := (mkF m 92 #[.val (.ref a1), .val (.ref a2), .val (.ref a3), .val .null, .val (.int (0 : Int32))] [(.ref b8), (.ref a1)])) rfl rfl (hb hby d1_92)
  refine OwnR.of (st10) ?_
  have F10 := Fld.same W10 (Fld.ext E8 (Fld.other W7 (Fld.ext E5 F_lengths_a1) (Or.inr (slot_ne (Or.inr (hw _ (List.mem_of_getElem? (i := 30) rfl))) (Or.inr (hw _ (List.mem_of_getElem? (i := 22) rfl))) (by decide) (t := (.array .double)) (t' := (.array .int)) (by decide) (by decide)))))
  have K10 : Keep h0 h10 [a1] := Keep.wr K8 W10 (Or.inl (List.mem_of_getElem? (i := 0) rfl))
  have N10 := Fr.snoc X10 N7 g_a1
  show OwnR _ _ _ _ _ _ _ (T10.setTop (mkF m 95 #[.val (.ref a1), .val (.ref a2), .val (.ref a3), .val .null, .val (.int (0 : Int32))] []))
  refine OwnR.of (fun _ hr => XS.aloadN X10.here hx rfl (hb hby d1_95) rfl rfl hr) ?_
  show OwnR _ _ _ _ _ _ _ (T10.setTop (mkF m 96 #[.val (.ref a1), .val (.ref a2), .val (.ref a3), .val .null, .val (.int (0 : Int32))] [(.ref a1)]))
  refine OwnR.of (fun _ hr => XS.aloadN X10.here hx rfl (hb hby d1_96) rfl rfl hr) ?_
  show OwnR _ _ _ _ _ _ _ (T10.setTop (mkF m 97 #[.val (.ref a1), .val (.ref a2), .val (.ref a3), .val .null, .val (.int (0 : Int32))] [.null, (.ref a1)]))
  obtain ⟨T11, h11, X11, e11, W11, st11⟩ := putF X10 hx hZ hown (host := "") (Or.inl (hw _ (List.mem_of_getElem? (i := 31) rfl))) Via.refl e10 (Fld.other W10 (Fld.ext E8 (Fld.other W7 (Fld.ext E5 F_unit_a1) (Or.inr (slot_ne (Or.inr (hw _ (List.mem_of_getElem? (i := 32) rfl))) (Or.inr (hw _ (List.mem_of_getElem? (i := 22) rfl))) (by decide) (t := (.object "java/util/Optional")) (t' := (.array .int)) (by decide) (by decide))))) (Or.inr (slot_ne (Or.inr (hw _ (List.mem_of_getElem? (i := 32) rfl))) (Or.inr (hw _ (List.mem_of_getElem? (i := 30) rfl))) (by decide) (t := (.object "java/util/Optional")) (t' := (.array .double)) (by decide) (by decide)))) (Exa.keep E_a1 K10) (Or.inr ⟨(hw _ (List.mem_of_getElem? (i := 32) rfl)), rfl, hnm⟩) (hw _ (List.mem_of_getElem? (i := 4) rfl)) (ty := (.object "java/util/Optional")) (by decide) rfl rfl (g := (mkF m 97 #[.val (.ref a1), .val (.ref a2), .val (.ref a3), .val .null, .val (.int (0 : Int32))] [.null, (.ref a1)])) rfl rfl (hb hby d1_97)
  refine OwnR.of (st11) ?_
  have F11 := Fld.same W11 (Fld.other W10 (Fld.ext E8 (Fld.other W7 (Fld.ext E5 F_unit_a1) (Or.inr (slot_ne (Or.inr (hw _ (List.mem_of_getElem? (i := 32) rfl))) (Or.inr (hw _ (List.mem_of_getElem? (i := 22) rfl))) (by decide) (t := (.object "java/util/Optional")) (t' := (.array .int)) (by decide) (by decide))))) (Or.inr (slot_ne (Or.inr (hw _ (List.mem_of_getElem? (i := 32) rfl))) (Or.inr (hw _ (List.mem_of_getElem? (i := 30) rfl))) (by decide) (t := (.object "java/util/Optional")) (t' := (.array .double)) (by decide) (by decide))))
  have K11 : Keep h0 h11 [a1] := Keep.wr K10 W11 (Or.inl (List.mem_of_getElem? (i := 0) rfl))
  have N11 := Fr.snoc X11 N10 g_a1
  show OwnR _ _ _ _ _ _ _ (T11.setTop (mkF m 100 #[.val (.ref a1), .val (.ref a2), .val (.ref a3), .val .null, .val (.int (0 : Int32))] []))
  refine own_leafV X11 hx hlk Bd.returns (hb hby d1_100) (by decide) (by decide) ?_
  show Q1_0 Z a1 k3 h0 n0 _ T11.heap _
  rw [show T11.heap = h11 from e11]
  refine ⟨b8, rfl, N11, ⟨K11, (Exa.keep E_a1 K11), (Fld.other W11 F10 (Or.inr (slot_ne (Or.inr (hw _ (List.mem_of_getElem? (i := 30) rfl))) (Or.inr (hw _ (List.mem_of_getElem? (i := 32) rfl))) (by decide) (t := (.array .double)) (t' := (.object "java/util/Optional")) (by decide) (by decide)))), (Arv.other (Arv.other V8 W10 (Ne.symm (Nat.ne_of_lt (Nat.lt_of_lt_of_le (Exa.keep E_a1 K7).lt (Nat.le_of_eq g8.symm))))) W11 (Ne.symm (Nat.ne_of_lt (Nat.lt_of_lt_of_le (Exa.keep E_a1 K7).lt (Nat.le_of_eq g8.symm))))), sz_b8⟩⟩
theorem ef_rm3_0 (m : MethodId) (x0 : Addr) : entryFrame m #[(.ref x0)] 8 = mkF m 0 #[.val (.ref x0), .unset, .unset, .unset, .unset, .unset, .unset, .unset] [] := by first | (simp [entryFrame, mkF, argsToLocals, Value.category]; done) | rfl
theorem d3_0 : decode prog_88_method_8_code 0 = .ok (.dconst 0, 1) := by decide +kernel
theorem d3_1 : decode prog_88_method_8_code 1 = .ok (.dstore_n 1, 1) := by decide +kernel
theorem d3_2 : decode prog_88_method_8_code 2 = .ok (.aload_n 0, 1) := by decide +kernel
theorem d3_3 : decode prog_88_method_8_code 3 = .ok (.getfield 31, 3) := by decide +kernel
theorem d3_6 : decode prog_88_method_8_code 6 = .ok (.astore_n 3, 1) := by decide +kernel
theorem d3_7 : decode prog_88_method_8_code 7 = .ok (.aload_n 3, 1) := by decide +kernel
theorem d3_8 : decode prog_88_method_8_code 8 = .ok (.arraylength, 1) := by decide +kernel
theorem d3_9 : decode prog_88_method_8_code 9 = .ok (.istore 4, 2) := by decide +kernel
theorem d3_11 : decode prog_88_method_8_code 11 = .ok (.iconst 0, 1) := by decide +kernel
theorem d3_12 : decode prog_88_method_8_code 12 = .ok (.istore 5, 2) := by decide +kernel
theorem d3_14 : decode prog_88_method_8_code 14 = .ok (.iload 5, 2) := by decide +kernel
theorem d3_16 : decode prog_88_method_8_code 16 = .ok (.iload 4, 2) := by decide +kernel
theorem d3_18 : decode prog_88_method_8_code 18 = .ok (.if_icmp .ge 20, 3) := by decide +kernel
theorem d3_38 : decode prog_88_method_8_code 38 = .ok (.dload_n 1, 1) := by decide +kernel
theorem d3_39 : decode prog_88_method_8_code 39 = .ok (.dreturn, 1) := by decide +kernel
def Q3_0 (Z : State)  (h0 : Heap) (n0 : Nat) (v : Option Value) (h : Heap) (L : List Loc) : Prop := v = some (.double (FP.l2d (0 : Int64))) ∧ Fr n0 L ∧ h = h0
set_option maxRecDepth 65536 in
set_option maxHeartbeats 40000000 in
theorem rm3_0 (l : Launch) (Z : State) (a0 : Array Value) (hw : ∀ d ∈ tables_1, d.before a0 Z = true) (ws : List Jvm.Cond) (a1 : Addr) (a3 : Addr) (k3 : ClassId) (h0 : Heap) (n0 : Nat) (Z0 : n0 ≤ h0.size) (E_a1 : Exa Z h0 a1 "com/example/ramification/ramification/model/StrahlerOrders") (F_lengths_a1 : Fld Z h0 a1 "com/example/ramification/ramification/model/StrahlerOrders" "lengths" "[D" (.ref a3)) (V_a3 : Arv Z h0 a3 k3 .double (0 : Int32) [] (.double (0 : UInt64))) :
    MetFree l (⟨"com/example/ramification/ramification/model/StrahlerOrders", "getTotalLength", "()D"⟩ : MethodName) (head1 (Jvm.Cond.code (⟨"com/example/ramification/ramification/model/StrahlerOrders", "getTotalLength", "()D"⟩ : MethodName) prog_88_method_8_code 8 (some .double) :: ws) ({ frames := 0, cells := 0, slots := 0, locals := 0 } : Room)) (fun a U => a = #[(.ref a1)] ∧ Z.Warmed39 U.vm ∧ U.heap = h0) (fun _ _ _ _ _ => True) (fun _ U o U' => ∃ v L, o = .returned v ∧ Q3_0 Z  h0 n0 v U'.heap L ∧ FrameEnd U o U' L ({ frames := 0, cells := 0, slots := 0, locals := 0 } : Room).cells ({ frames := 0, cells := 0, slots := 0, locals := 0 } : Room).slots) := by
  refine MetFree.of_bodySF (plainFor_of_name pn_com_example_ramification_ramification_model_StrahlerOrders) hisR ?_
  intro p e s m args below meth c s₁ Bd hml0 hP hK
  obtain ⟨rfl, hZ, hh⟩ := hP
  have hx := Bd.exec
  have hby := Bd.bytes
  have hlk := BodyLoose.notSynchronized Bd
  have hml : c.maxLocals = 8 := hml0
  have hown : s.vm.findClass "com/example/ramification/ramification/model/StrahlerOrders" = some m.cls := findClass_of_methodNamed Bd.named
  have hnm := (name_of_methodNamed Bd.named Bd.method).1
  have X0 : Stand p l e ({ frames := 0, cells := 0, slots := 0, locals := 0 } : Room) s m #[(.ref a1)] below meth c s₁ [] 0 0 := Stand.of_body Bd
  have e0 : s₁.heap = h0 := by rw [← hh, Bd.state]; rfl
  have N0 := Fr.nil n0
  refine OwnR.of (s := s) (Q := Q3_0 Z  h0 n0) (fun t k => castTop (ef_rm3_0 m a1) k) ?_
  show OwnR _ _ _ _ _ _ _ (s₁.setTop (mkF m 0 #[.val (.ref a1), .unset, .unset, .unset, .unset, .unset, .unset, .unset] []))
  refine OwnR.of (fun _ hr => XS.dconst0 X0.here hx rfl (hb hby d3_0) (v := (FP.l2d (0 : Int64))) (by decide +kernel) hr) ?_
  show OwnR _ _ _ _ _ _ _ (s₁.setTop (mkF m 1 #[.val (.ref a1), .unset, .unset, .unset, .unset, .unset, .unset, .unset] [(.double (FP.l2d (0 : Int64)))]))
  refine OwnR.of (fun _ hr => XS.dstoreN X0.here hx rfl (hb hby d3_1) rfl (l' := #[.val (.ref a1), .val (.double (FP.l2d (0 : Int64))), .second, .unset, .unset, .unset, .unset, .unset]) rfl hr) ?_
  show OwnR _ _ _ _ _ _ _ (s₁.setTop (mkF m 2 #[.val (.ref a1), .val (.double (FP.l2d (0 : Int64))), .second, .unset, .unset, .unset, .unset, .unset] []))
  refine OwnR.of (fun _ hr => XS.aloadN X0.here hx rfl (hb hby d3_2) rfl rfl hr) ?_
  show OwnR _ _ _ _ _ _ _ (s₁.setTop (mkF m 3 #[.val (.ref a1), .val (.double (FP.l2d (0 : Int64))), .second, .unset, .unset, .unset, .unset, .unset] [(.ref a1)]))
  obtain ⟨T1, X1, e1, st1⟩ := getF X0 hx hZ hown (host := "") (Or.inl (hw _ (List.mem_of_getElem? (i := 29) rfl))) Via.refl e0 F_lengths_a1 (g := (mkF m 3 #[.val (.ref a1), .val (.double (FP.l2d (0 : Int64))), .second, .unset, .unset, .unset, .unset, .unset] [(.ref a1)])) rfl rfl (hb hby d3_3)
  refine OwnR.of (st1) ?_
  show OwnR _ _ _ _ _ _ _ (T1.setTop (mkF m 6 #[.val (.ref a1), .val (.double (FP.l2d (0 : Int64))), .second, .unset, .unset, .unset, .unset, .unset] [(.ref a3)]))
  refine OwnR.of (fun _ hr => XS.astoreN X1.here hx rfl (hb hby d3_6) rfl rfl (l' := #[.val (.ref a1), .val (.double (FP.l2d (0 : Int64))), .second, .val (.ref a3), .unset, .unset, .unset, .unset]) rfl hr) ?_
  show OwnR _ _ _ _ _ _ _ (T1.setTop (mkF m 7 #[.val (.ref a1), .val (.double (FP.l2d (0 : Int64))), .second, .val (.ref a3), .unset, .unset, .unset, .unset] []))
  refine OwnR.of (fun _ hr => XS.aloadN X1.here hx rfl (hb hby d3_7) rfl rfl hr) ?_
  show OwnR _ _ _ _ _ _ _ (T1.setTop (mkF m 8 #[.val (.ref a1), .val (.double (FP.l2d (0 : Int64))), .second, .val (.ref a3), .unset, .unset, .unset, .unset] [(.ref a3)]))
  obtain ⟨cl2, Ar2, -, S2, N2, -, -⟩ := id V_a3
  refine OwnR.of (X1.arraylength hx (by rw [e1]; exact Ar2.1) (State.isArrayOf_alike hZ.alike Ar2.2.1) (g := (mkF m 8 #[.val (.ref a1), .val (.double (FP.l2d (0 : Int64))), .second, .val (.ref a3), .unset, .unset, .unset, .unset] [(.ref a3)])) rfl rfl (hb hby d3_8)) ?_
  show OwnR _ _ _ _ _ _ _ (T1.setTop (mkF m 9 #[.val (.ref a1), .val (.double (FP.l2d (0 : Int64))), .second, .val (.ref a3), .unset, .unset, .unset, .unset] [(.int cl2.slots.size.toInt32)]))
  rw [len_of S2 N2]
  show OwnR _ _ _ _ _ _ _ (T1.setTop (mkF m 9 #[.val (.ref a1), .val (.double (FP.l2d (0 : Int64))), .second, .val (.ref a3), .unset, .unset, .unset, .unset] [(.int (0 : Int32))]))
  refine OwnR.of (fun _ hr => XS.istore X1.here hx rfl (hb hby d3_9) rfl (l' := #[.val (.ref a1), .val (.double (FP.l2d (0 : Int64))), .second, .val (.ref a3), .val (.int (0 : Int32)), .unset, .unset, .unset]) rfl hr) ?_
  show OwnR _ _ _ _ _ _ _ (T1.setTop (mkF m 11 #[.val (.ref a1), .val (.double (FP.l2d (0 : Int64))), .second, .val (.ref a3), .val (.int (0 : Int32)), .unset, .unset, .unset] []))
  refine OwnR.of (fun _ hr => XS.iconst X1.here hx rfl (hb hby d3_11) hr) ?_
  show OwnR _ _ _ _ _ _ _ (T1.setTop (mkF m 12 #[.val (.ref a1), .val (.double (FP.l2d (0 : Int64))), .second, .val (.ref a3), .val (.int (0 : Int32)), .unset, .unset, .unset] [(.int (0 : Int32))]))
  refine OwnR.of (fun _ hr => XS.istore X1.here hx rfl (hb hby d3_12) rfl (l' := #[.val (.ref a1), .val (.double (FP.l2d (0 : Int64))), .second, .val (.ref a3), .val (.int (0 : Int32)), .val (.int (0 : Int32)), .unset, .unset]) rfl hr) ?_
  show OwnR _ _ _ _ _ _ _ (T1.setTop (mkF m 14 #[.val (.ref a1), .val (.double (FP.l2d (0 : Int64))), .second, .val (.ref a3), .val (.int (0 : Int32)), .val (.int (0 : Int32)), .unset, .unset] []))
  refine OwnR.of (fun _ hr => XS.iload X1.here hx rfl (hb hby d3_14) rfl hr) ?_
  show OwnR _ _ _ _ _ _ _ (T1.setTop (mkF m 16 #[.val (.ref a1), .val (.double (FP.l2d (0 : Int64))), .second, .val (.ref a3), .val (.int (0 : Int32)), .val (.int (0 : Int32)), .unset, .unset] [(.int (0 : Int32))]))
  refine OwnR.of (fun _ hr => XS.iload X1.here hx rfl (hb hby d3_16) rfl hr) ?_
  show OwnR _ _ _ _ _ _ _ (T1.setTop (mkF m 18 #[.val (.ref a1), .val (.double (FP.l2d (0 : Int64))), .second, .val (.ref a3), .val (.int (0 : Int32)), .val (.int (0 : Int32)), .unset, .unset] [(.int (0 : Int32)), (.int (0 : Int32))]))
  refine OwnR.of (fun _ hr => XS.icmpYes X1.here hx rfl (pc0 := 18) (pc' := 38) rfl (hb hby d3_18) rfl (flt (by decide : ¬ ((0 : Int32) < (0 : Int32)))).2.1 (by decide) (by decide) hr) ?_
  show OwnR _ _ _ _ _ _ _ (T1.setTop (mkF m 38 #[.val (.ref a1), .val (.double (FP.l2d (0 : Int64))), .second, .val (.ref a3), .val (.int (0 : Int32)), .val (.int (0 : Int32)), .unset, .unset] []))
  refine OwnR.of (fun _ hr => XS.dloadN X1.here hx rfl (hb hby d3_38) rfl hr) ?_
  show OwnR _ _ _ _ _ _ _ (T1.setTop (mkF m 39 #[.val (.ref a1), .val (.double (FP.l2d (0 : Int64))), .second, .val (.ref a3), .val (.int (0 : Int32)), .val (.int (0 : Int32)), .unset, .unset] [(.double (FP.l2d (0 : Int64)))]))
  refine own_leafD X1 hx hlk Bd.returns (hb hby d3_39) (by decide) (by decide) ?_
  show Q3_0 Z  h0 n0 _ T1.heap _
  rw [show T1.heap = h0 from e1]
  refine ⟨?_, N0, rfl⟩
  show (some (.double (FP.l2d (0 : Int64))) : Option Value) = some (.double (FP.l2d (0 : Int64)))
  rfl
theorem ef_rm1_1 (m : MethodId) (x0 : Addr) (x1 : Addr) (x2 : Addr) : entryFrame m #[(.ref x0), (.ref x1), (.ref x2), .null] 5 = mkF m 0 #[.val (.ref x0), .val (.ref x1), .val (.ref x2), .val .null, .unset] [] := by first | (simp [entryFrame, mkF, argsToLocals, Value.category]; done) | rfl
theorem d1_38 : decode prog_88_method_1_code 38 = .ok (.aload_n 1, 1) := by decide +kernel
theorem d1_39 : decode prog_88_method_1_code 39 = .ok (.iload 4, 2) := by decide +kernel
theorem d1_41 : decode prog_88_method_1_code 41 = .ok (.iaload, 1) := by decide +kernel
theorem d1_42 : decode prog_88_method_1_code 42 = .ok (.iconst 1, 1) := by decide +kernel
theorem d1_43 : decode prog_88_method_1_code 43 = .ok (.if_icmp .ge 24, 3) := by decide +kernel
theorem d1_67 : decode prog_88_method_1_code 67 = .ok (.iinc 4 1, 3) := by decide +kernel
theorem d1_70 : decode prog_88_method_1_code 70 = .ok (.goto (-39), 3) := by decide +kernel
def Q1_1 (Z : State) (a1 : Addr) (k3 : ClassId) (d0 : UInt64) (h0 : Heap) (n0 : Nat) (v : Option Value) (h : Heap) (L : List Loc) : Prop := ∃ (bD : Addr), v = none ∧ Fr n0 L ∧ Keep h0 h [a1] ∧ Exa Z h a1 "com/example/ramification/ramification/model/StrahlerOrders" ∧ Fld Z h a1 "com/example/ramification/ramification/model/StrahlerOrders" "lengths" "[D" (.ref bD) ∧ Arv Z h bD k3 .double (1 : Int32) [(.double d0)] (.double (0 : UInt64)) ∧ h0.size ≤ bD
set_option maxRecDepth 65536 in
set_option maxHeartbeats 40000000 in
theorem rm1_1 (l : Launch) (Z : State) (a0 : Array Value) (hw : ∀ d ∈ tables_1, d.before a0 Z = true) (ws : List Jvm.Cond) (a1 : Addr) (a2 : Addr) (a3 : Addr) (k2 k3 : ClassId) (x0 : Int32) (d0 : UInt64) (h0 : Heap) (n0 : Nat) (Z0 : n0 ≤ h0.size) (E_a1 : Exa Z h0 a1 "com/example/ramification/ramification/model/StrahlerOrders") (F_branches_a1 : Fld Z h0 a1 "com/example/ramification/ramification/model/StrahlerOrders" "branches" "[I" .null) (F_lengths_a1 : Fld Z h0 a1 "com/example/ramification/ramification/model/StrahlerOrders" "lengths" "[D" .null) (F_unit_a1 : Fld Z h0 a1 "com/example/ramification/ramification/model/StrahlerOrders" "unit" "Ljava/util/Optional;" .null) (V_a2 : Arv Z h0 a2 k2 .int (1 : Int32) [(.int x0)] (.int (0 : Int32))) (V_a3 : Arv Z h0 a3 k3 .double (1 : Int32) [(.double d0)] (.double (0 : UInt64))) (E_a2 : Exa Z h0 a2 "[I") (E_a3 : Exa Z h0 a3 "[D") (g_a1 : n0 ≤ a1) (ne_12 : a1 ≠ a2) (ne_13 : a1 ≠ a3) (hx0 : ¬ (x0 < (1 : Int32))) :
    MetFree l (⟨"com/example/ramification/ramification/model/StrahlerOrders", "<init>", "([I[DLjava/util/Optional;)V"⟩ : MethodName) (head1 (Jvm.Cond.code (⟨"com/example/ramification/ramification/model/StrahlerOrders", "<init>", "([I[DLjava/util/Optional;)V"⟩ : MethodName) prog_88_method_1_code 5 none :: ws) ({ frames := 1, cells := 2, slots := 2, locals := 18 } : Room)) (fun a U => a = #[(.ref a1), (.ref a2), (.ref a3), .null] ∧ Z.Warmed39 U.vm ∧ U.heap = h0) (fun _ _ _ _ _ => True) (fun _ U o U' => ∃ v L, o = .returned v ∧ Q1_1 Z a1 k3 d0 h0 n0 v U'.heap L ∧ FrameEnd U o U' L ({ frames := 1, cells := 2, slots := 2, locals := 18 } : Room).cells ({ frames := 1, cells := 2, slots := 2, locals := 18 } : Room).slots) := by
  refine MetFree.of_bodySF (plainFor_of_name pn_com_example_ramification_ramification_model_StrahlerOrders) hisR ?_
  intro p e s m args below meth c s₁ Bd hml0 hP hK
  obtain ⟨rfl, hZ, hh⟩ := hP
  have hx := Bd.exec
  have hby := Bd.bytes
  have hlk := BodyLoose.notSynchronized Bd
  have hml : c.maxLocals = 5 := hml0
  have hown : s.vm.findClass "com/example/ramification/ramification/model/StrahlerOrders" = some m.cls := findClass_of_methodNamed Bd.named
  have hnm := (name_of_methodNamed Bd.named Bd.method).1
  have X0 : Stand p l e ({ frames := 1, cells := 2, slots := 2, locals := 18 } : Room) s m #[(.ref a1), (.ref a2), (.ref a3), .null] below meth c s₁ [] 0 0 := Stand.of_body Bd
  have e0 : s₁.heap = h0 := by rw [← hh, Bd.state]; rfl
  have N0 := Fr.nil n0
  refine OwnR.of (s := s) (Q := Q1_1 Z a1 k3 d0 h0 n0) (fun t k => castTop (ef_rm1_1 m a1 a2 a3) k) ?_
  show OwnR _ _ _ _ _ _ _ (s₁.setTop (mkF m 0 #[.val (.ref a1), .val (.ref a2), .val (.ref a3), .val .null, .unset] []))
  refine OwnR.of (fun _ hr => XS.aloadN X0.here hx rfl (hb hby d1_0) rfl rfl hr) ?_
  show OwnR _ _ _ _ _ _ _ (s₁.setTop (mkF m 1 #[.val (.ref a1), .val (.ref a2), .val (.ref a3), .val .null, .unset] [(.ref a1)]))
  obtain ⟨T1, X1, e1, st1⟩ := initO X0 hx hZ hown (hw _ (List.mem_of_getElem? (i := 9) rfl)) (hw _ (List.mem_of_getElem? (i := 10) rfl)) (hw _ (List.mem_of_getElem? (i := 11) rfl)) e0 (g := (mkF m 1 #[.val (.ref a1), .val (.ref a2), .val (.ref a3), .val .null, .unset] [(.ref a1)])) rfl (by rw [hml]; rfl) rfl (hb hby d1_1) (by decide) (W := 0) (by show 2 * 0 + _ ≤ _; exact Nat.le_of_eq rfl) (by decide)
  refine OwnR.of (st1) ?_
  show OwnR _ _ _ _ _ _ _ (T1.setTop (mkF m 4 #[.val (.ref a1), .val (.ref a2), .val (.ref a3), .val .null, .unset] []))
  refine OwnR.of (fun _ hr => XS.aloadN X1.here hx rfl (hb hby d1_4) rfl rfl hr) ?_
  show OwnR _ _ _ _ _ _ _ (T1.setTop (mkF m 5 #[.val (.ref a1), .val (.ref a2), .val (.ref a3), .val .null, .unset] [(.ref a2)]))
  obtain ⟨cl2, Ar2, -, S2, N2, -, -⟩ := id V_a2
  refine OwnR.of (X1.arraylength hx (by rw [e1]; exact Ar2.1) (State.isArrayOf_alike hZ.alike Ar2.2.1) (g := (mkF m 5 #[.val (.ref a1), .val (.ref a2), .val (.ref a3), .val .null, .unset] [(.ref a2)])) rfl rfl (hb hby d1_5)) ?_
  show OwnR _ _ _ _ _ _ _ (T1.setTop (mkF m 6 #[.val (.ref a1), .val (.ref a2), .val (.ref a3), .val .null, .unset] [(.int cl2.slots.size.toInt32)]))
  rw [len_of S2 N2]
  show OwnR _ _ _ _ _ _ _ (T1.setTop (mkF m 6 #[.val (.ref a1), .val (.ref a2), .val (.ref a3), .val .null, .unset] [(.int (1 : Int32))]))
  refine OwnR.of (fun _ hr => XS.aloadN X1.here hx rfl (hb hby d1_6) rfl rfl hr) ?_
  show OwnR _ _ _ _ _ _ _ (T1.setTop (mkF m 7 #[.val (.ref a1), .val (.ref a2), .val (.ref a3), .val .null, .unset] [(.ref a3), (.int (1 : Int32))]))
  obtain ⟨cl3, Ar3, -, S3, N3, -, -⟩ := id V_a3
  refine OwnR.of (X1.arraylength hx (by rw [e1]; exact Ar3.1) (State.isArrayOf_alike hZ.alike Ar3.2.1) (g := (mkF m 7 #[.val (.ref a1), .val (.ref a2), .val (.ref a3), .val .null, .unset] [(.ref a3), (.int (1 : Int32))])) rfl rfl (hb hby d1_7)) ?_
  show OwnR _ _ _ _ _ _ _ (T1.setTop (mkF m 8 #[.val (.ref a1), .val (.ref a2), .val (.ref a3), .val .null, .unset] [(.int cl3.slots.size.toInt32), (.int (1 : Int32))]))
  rw [len_of S3 N3]
  show OwnR _ _ _ _ _ _ _ (T1.setTop (mkF m 8 #[.val (.ref a1), .val (.ref a2), .val (.ref a3), .val .null, .unset] [(.int (1 : Int32)), (.int (1 : Int32))]))
  refine OwnR.of (fun _ hr => XS.icmpYes X1.here hx rfl (pc0 := 8) (pc' := 28) rfl (hb hby d1_8) rfl (teq (by decide : (1 : Int32) = (1 : Int32))).1 (by decide) (by decide) hr) ?_
  show OwnR _ _ _ _ _ _ _ (T1.setTop (mkF m 28 #[.val (.ref a1), .val (.ref a2), .val (.ref a3), .val .null, .unset] []))
  refine OwnR.of (fun _ hr => XS.iconst X1.here hx rfl (hb hby d1_28) hr) ?_
  show OwnR _ _ _ _ _ _ _ (T1.setTop (mkF m 29 #[.val (.ref a1), .val (.ref a2), .val (.ref a3), .val .null, .unset] [(.int (0 : Int32))]))
  refine OwnR.of (fun _ hr => XS.istore X1.here hx rfl (hb hby d1_29) rfl (l' := #[.val (.ref a1), .val (.ref a2), .val (.ref a3), .val .null, .val (.int (0 : Int32))]) rfl hr) ?_
  show OwnR _ _ _ _ _ _ _ (T1.setTop (mkF m 31 #[.val (.ref a1), .val (.ref a2), .val (.ref a3), .val .null, .val (.int (0 : Int32))] []))
  refine OwnR.of (fun _ hr => XS.iload X1.here hx rfl (hb hby d1_31) rfl hr) ?_
  show OwnR _ _ _ _ _ _ _ (T1.setTop (mkF m 33 #[.val (.ref a1), .val (.ref a2), .val (.ref a3), .val .null, .val (.int (0 : Int32))] [(.int (0 : Int32))]))
  refine OwnR.of (fun _ hr => XS.aloadN X1.here hx rfl (hb hby d1_33) rfl rfl hr) ?_
  show OwnR _ _ _ _ _ _ _ (T1.setTop (mkF m 34 #[.val (.ref a1), .val (.ref a2), .val (.ref a3), .val .null, .val (.int (0 : Int32))] [(.ref a2), (.int (0 : Int32))]))
  obtain ⟨cl4, Ar4, -, S4, N4, -, -⟩ := id V_a2
  refine OwnR.of (X1.arraylength hx (by rw [e1]; exact Ar4.1) (State.isArrayOf_alike hZ.alike Ar4.2.1) (g := (mkF m 34 #[.val (.ref a1), .val (.ref a2), .val (.ref a3), .val .null, .val (.int (0 : Int32))] [(.ref a2), (.int (0 : Int32))])) rfl rfl (hb hby d1_34)) ?_
  show OwnR _ _ _ _ _ _ _ (T1.setTop (mkF m 35 #[.val (.ref a1), .val (.ref a2), .val (.ref a3), .val .null, .val (.int (0 : Int32))] [(.int cl4.slots.size.toInt32), (.int (0 : Int32))]))
  rw [len_of S4 N4]
  show OwnR _ _ _ _ _ _ _ (T1.setTop (mkF m 35 #[.val (.ref a1), .val (.ref a2), .val (.ref a3), .val .null, .val (.int (0 : Int32))] [(.int (1 : Int32)), (.int (0 : Int32))]))
  refine OwnR.of (fun _ hr => XS.icmpNo X1.here hx rfl (hb hby d1_35) rfl (tlt (by decide : (0 : Int32) < (1 : Int32))).2.1 hr) ?_
  show OwnR _ _ _ _ _ _ _ (T1.setTop (mkF m 38 #[.val (.ref a1), .val (.ref a2), .val (.ref a3), .val .null, .val (.int (0 : Int32))] []))
  refine OwnR.of (fun _ hr => XS.aloadN X1.here hx rfl (hb hby d1_38) rfl rfl hr) ?_
  show OwnR _ _ _ _ _ _ _ (T1.setTop (mkF m 39 #[.val (.ref a1), .val (.ref a2), .val (.ref a3), .val .null, .val (.int (0 : Int32))] [(.ref a2)]))
  refine OwnR.of (fun _ hr => XS.iload X1.here hx rfl (hb hby d1_39) rfl hr) ?_
  show OwnR _ _ _ _ _ _ _ (T1.setTop (mkF m 41 #[.val (.ref a1), .val (.ref a2), .val (.ref a3), .val .null, .val (.int (0 : Int32))] [(.int (0 : Int32)), (.ref a2)]))
  obtain ⟨cl5, Ar5, -, S5, N5, H5, G5⟩ := id V_a2
  have hin5 : ¬ ((0 : Int32) < 0 ∨ cl5.slots.size ≤ ((0 : Int32)).toNatClampNeg) := (inb_of S5 ⟨by decide, by decide⟩)
  refine OwnR.of (X1.iaload hx (j := (0 : Int32)) (v := (.int x0)) (by rw [e1]; exact Ar5.1) (State.isArrayOf_alike hZ.alike Ar5.2.1) Ar5.2.2 hin5 (Has.at H5 hin5 rfl) (g := (mkF m 41 #[.val (.ref a1), .val (.ref a2), .val (.ref a3), .val .null, .val (.int (0 : Int32))] [(.int (0 : Int32)), (.ref a2)])) rfl rfl (hb hby d1_41)) ?_
  show OwnR _ _ _ _ _ _ _ (T1.setTop (mkF m 42 #[.val (.ref a1), .val (.ref a2), .val (.ref a3), .val .null, .val (.int (0 : Int32))] [(.int x0)]))
  refine OwnR.of (fun _ hr => XS.iconst X1.here hx rfl (hb hby d1_42) hr) ?_
  show OwnR _ _ _ _ _ _ _ (T1.setTop (mkF m 43 #[.val (.ref a1), .val (.ref a2), .val (.ref a3), .val .null, .val (.int (0 : Int32))] [(.int (1 : Int32)), (.int x0)]))
  refine OwnR.of (fun _ hr => XS.icmpYes X1.here hx rfl (pc0 := 43) (pc' := 67) rfl (hb hby d1_43) rfl (flt hx0).2.1 (by decide) (by decide) hr) ?_
  show OwnR _ _ _ _ _ _ _ (T1.setTop (mkF m 67 #[.val (.ref a1), .val (.ref a2), .val (.ref a3), .val .null, .val (.int (0 : Int32))] []))
  refine OwnR.of (fun _ hr => XS.iinc X1.here hx rfl (hb hby d1_67) rfl (l' := #[.val (.ref a1), .val (.ref a2), .val (.ref a3), .val .null, .val (.int ((0 : Int32) + (1 : Int32)))]) rfl hr) ?_
  show OwnR _ _ _ _ _ _ _ (T1.setTop (mkF m 70 #[.val (.ref a1), .val (.ref a2), .val (.ref a3), .val .null, .val (.int ((0 : Int32) + (1 : Int32)))] []))
  rw [(by decide : ((0 : Int32) + (1 : Int32)) = (1 : Int32))]
  show OwnR _ _ _ _ _ _ _ (T1.setTop (mkF m 70 #[.val (.ref a1), .val (.ref a2), .val (.ref a3), .val .null, .val (.int (1 : Int32))] []))
  refine OwnR.of (fun _ hr => XS.goto X1.here hx rfl (pc0 := 70) (pc' := 31) rfl (hb hby d1_70) (by decide) (by decide) hr) ?_
  show OwnR _ _ _ _ _ _ _ (T1.setTop (mkF m 31 #[.val (.ref a1), .val (.ref a2), .val (.ref a3), .val .null, .val (.int (1 : Int32))] []))
  refine OwnR.of (fun _ hr => XS.iload X1.here hx rfl (hb hby d1_31) rfl hr) ?_
  show OwnR _ _ _ _ _ _ _ (T1.setTop (mkF m 33 #[.val (.ref a1), .val (.ref a2), .val (.ref a3), .val .null, .val (.int (1 : Int32))] [(.int (1 : Int32))]))
  refine OwnR.of (fun _ hr => XS.aloadN X1.here hx rfl (hb hby d1_33) rfl rfl hr) ?_
  show OwnR _ _ _ _ _ _ _ (T1.setTop (mkF m 34 #[.val (.ref a1), .val (.ref a2), .val (.ref a3), .val .null, .val (.int (1 : Int32))] [(.ref a2), (.int (1 : Int32))]))
  obtain ⟨cl6, Ar6, -, S6, N6, -, -⟩ := id V_a2
  refine OwnR.of (X1.arraylength hx (by rw [e1]; exact Ar6.1) (State.isArrayOf_alike hZ.alike Ar6.2.1) (g := (mkF m 34 #[.val (.ref a1), .val (.ref a2), .val (.ref a3), .val .null, .val (.int (1 : Int32))] [(.ref a2), (.int (1 : Int32))])) rfl rfl (hb hby d1_34)) ?_
  show OwnR _ _ _ _ _ _ _ (T1.setTop (mkF m 35 #[.val (.ref a1), .val (.ref a2), .val (.ref a3), .val .null, .val (.int (1 : Int32))] [(.int cl6.slots.size.toInt32), (.int (1 : Int32))]))
  rw [len_of S6 N6]
  show OwnR _ _ _ _ _ _ _ (T1.setTop (mkF m 35 #[.val (.ref a1), .val (.ref a2), .val (.ref a3), .val .null, .val (.int (1 : Int32))] [(.int (1 : Int32)), (.int (1 : Int32))]))
  refine OwnR.of (fun _ hr => XS.icmpYes X1.here hx rfl (pc0 := 35) (pc' := 73) rfl (hb hby d1_35) rfl (flt (by decide : ¬ ((1 : Int32) < (1 : Int32)))).2.1 (by decide) (by decide) hr) ?_
  show OwnR _ _ _ _ _ _ _ (T1.setTop (mkF m 73 #[.val (.ref a1), .val (.ref a2), .val (.ref a3), .val .null, .val (.int (1 : Int32))] []))
  refine OwnR.of (fun _ hr => XS.aloadN X1.here hx rfl (hb hby d1_73) rfl rfl hr) ?_
  show OwnR _ _ _ _ _ _ _ (T1.setTop (mkF m 74 #[.val (.ref a1), .val (.ref a2), .val (.ref a3), .val .null, .val (.int (1 : Int32))] [(.ref a1)]))
  refine OwnR.of (fun _ hr => XS.aloadN X1.here hx rfl (hb hby d1_74) rfl rfl hr) ?_
  show OwnR _ _ _ _ _ _ _ (T1.setTop (mkF m 75 #[.val (.ref a1), .val (.ref a2), .val (.ref a3), .val .null, .val (.int (1 : Int32))] [(.ref a2), (.ref a1)]))
  obtain ⟨T7, h7, X7, e7, E7, V7, AE7, st7⟩ := cloneH X1 hx hZ hown (hw _ (List.mem_of_getElem? (i := 12) rfl)) (hw _ (List.mem_of_getElem? (i := 13) rfl)) (hw _ (List.mem_of_getElem? (i := 17) rfl)) (hw _ (List.mem_of_getElem? (i := 15) rfl)) (hw _ (List.mem_of_getElem? (i := 16) rfl)) (hw _ (List.mem_of_getElem? (i := 18) rfl)) e1 (Arv.arh V_a2) E_a2 (g := (mkF m 75 #[.val (.ref a1), .val (.ref a2), .val (.ref a3), .val .null, .val (.int (1 : Int32))] [(.ref a2), (.ref a1)])) rfl (by rw [hml]; rfl) rfl (hb hby d1_75) (by decide) (W := 1) (by show 2 * 0 + _ ≤ _; exact Nat.le_of_eq rfl) (by decide) (cap := 1) (by decide) (by decide) (by decide)
  obtain ⟨b7, g7⟩ : ∃ z, z = h0.size := ⟨_, rfl⟩
  rw [← g7] at V7 AE7 st7
  refine OwnR.of (st7) ?_
  have gn_b7 : n0 ≤ b7 := Nat.le_trans (Nat.le_trans Z0 (Keep.refl h0 [a1]).1) (Nat.le_of_eq g7.symm)
  have sz_b7 : h0.size ≤ b7 := Nat.le_trans (Keep.refl h0 [a1]).1 (Nat.le_of_eq g7.symm)
  have K7 : Keep h0 h7 [a1] := Keep.ext (Keep.refl h0 [a1]) E7
  have V7 : Arv Z h7 b7 k2 .int (1 : Int32) [(.int x0)] (.int (0 : Int32)) := V7
  show OwnR _ _ _ _ _ _ _ (T7.setTop (mkF m 78 #[.val (.ref a1), .val (.ref a2), .val (.ref a3), .val .null, .val (.int (1 : Int32))] [(.ref b7), (.ref a1)]))
  obtain ⟨T8, X8, e8, st8⟩ := castY X7 hx hZ hown (hw _ (List.mem_of_getElem? (i := 19) rfl)) e7 (Ins.self AE7) (g := (mkF m 78 #[.val (.ref a1), .val (.ref a2), .val (.ref a3), .val .null, .val (.int (1 : Int32))] [(.ref b7), (.ref a1)])) rfl rfl (hb hby d1_78)
  refine OwnR.of (st8) ?_
  show OwnR _ _ _ _ _ _ _ (T8.setTop (mkF m 81 #[.val (.ref a1), .val (.ref a2), .val (.ref a3), .val .null, .val (.int (1 : Int32))] [(.ref b7), (.ref a1)]))
  obtain ⟨T9, h9, X9, e9, W9, st9⟩ := putF X8 hx hZ hown (host := "") (Or.inl (hw _ (List.mem_of_getElem? (i := 21) rfl))) Via.refl e8 (Fld.ext E7 F_branches_a1) (Exa.keep E_a1 K7) (Or.inr ⟨(hw _ (List.mem_of_getElem? (i := 22) rfl)), rfl, hnm⟩) (hw _ (List.mem_of_getElem? (i := 4) rfl)) (ty := (.array .int)) (by decide) rfl rfl (g := (mkF m 81 #[.val (.ref a1), .val (.ref a2), .val (.ref a3), .val .null, .val (.int (1 : Int32))] [(.ref b7), (.ref a1)])) rfl rfl (hb hby d1_81)
  refine OwnR.of (st9) ?_
  have F9 := Fld.same W9 (Fld.ext E7 F_branches_a1)
  have K9 : Keep h0 h9 [a1] := Keep.wr K7 W9 (Or.inl (List.mem_of_getElem? (i := 0) rfl))
  have N9 := Fr.snoc X9 N0 g_a1
  show OwnR _ _ _ _ _ _ _ (T9.setTop (mkF m 84 #[.val (.ref a1), .val (.ref a2), .val (.ref a3), .val .null, .val (.int (1 : Int32))] []))
  refine OwnR.of (fun _ hr => XS.aloadN X9.here hx rfl (hb hby d1_84) rfl rfl hr) ?_
  show OwnR _ _ _ _ _ _ _ (T9.setTop (mkF m 85 #[.val (.ref a1), .val (.ref a2), .val (.ref a3), .val .null, .val (.int (1 : Int32))] [(.ref a1)]))
  refine OwnR.of (fun _ hr => XS.aloadN X9.here hx rfl (hb hby d1_85) rfl rfl hr) ?_
  show OwnR _ _ _ _ _ _ _ (T9.setTop (mkF m 86 #[.val (.ref a1), .val (.ref a2), .val (.ref a3), .val .null, .val (.int (1 : Int32))] [(.ref a3), (.ref a1)]))
  obtain ⟨T10, h10, X10, e10, E10, V10, AE10, st10⟩ := cloneH X9 hx hZ hown (hw _ (List.mem_of_getElem? (i := 23) rfl)) (hw _ (List.mem_of_getElem? (i := 24) rfl)) (hw _ (List.mem_of_getElem? (i := 17) rfl)) (hw _ (List.mem_of_getElem? (i := 15) rfl)) (hw _ (List.mem_of_getElem? (i := 25) rfl)) (hw _ (List.mem_of_getElem? (i := 26) rfl)) e9 (Arv.arh (Arv.keep V_a3 K9 (ninS (Ne.symm ne_13) nin0))) (Exa.keep E_a3 K9) (g := (mkF m 86 #[.val (.ref a1), .val (.ref a2), .val (.ref a3), .val .null, .val (.int (1 : Int32))] [(.ref a3), (.ref a1)])) rfl (by rw [hml]; rfl) rfl (hb hby d1_86) (by decide) (W := 1) (by show 2 * 0 + _ ≤ _; exact Nat.le_of_eq rfl) (by decide) (cap := 1) (by decide) (by decide) (by decide)
  obtain ⟨b10, g10⟩ : ∃ z, z = h9.size := ⟨_, rfl⟩
  rw [← g10] at V10 AE10 st10
  refine OwnR.of (st10) ?_
  have gn_b10 : n0 ≤ b10 := Nat.le_trans (Nat.le_trans Z0 K9.1) (Nat.le_of_eq g10.symm)
  have sz_b10 : h0.size ≤ b10 := Nat.le_trans K9.1 (Nat.le_of_eq g10.symm)
  have K10 : Keep h0 h10 [a1] := Keep.ext K9 E10
  have V10 : Arv Z h10 b10 k3 .double (1 : Int32) [(.double d0)] (.double (0 : UInt64)) := V10
  show OwnR _ _ _ _ _ _ _ (T10.setTop (mkF m 89 #[.val (.ref a1), .val (.ref a2), .val (.ref a3), .val .null, .val (.int (1 : Int32))] [(.ref b10), (.ref a1)]))
  obtain ⟨T11, X11, e11, st11⟩ := castY X10 hx hZ hown (hw _ (List.mem_of_getElem? (i := 27) rfl)) e10 (Ins.self AE10) (g := (mkF m 89 #[.val (.ref a1), .val (.ref a2), .val (.ref a3), .val .null, .val (.int (1 : Int32))] [(.ref b10), (.ref a1)])) rfl rfl (hb hby d1_89)
  refine OwnR.of (st11) ?_
  show OwnR _ _ _ _ _ _ _ (T11.setTop (mkF m 92 #[.val (.ref a1), .val (.ref a2), .val (.ref a3), .val .null, .val (.int (1 : Int32))] [(.ref b10), (.ref a1)]))
  obtain ⟨T12, h12, X12, e12, W12, st12⟩ := putF X11 hx hZ hown (host := "") (Or.inl (hw _ (List.mem_of_getElem? (i := 29) rfl))) Via.refl e11 (Fld.ext E10 (Fld.other W9 (Fld.ext E7 F_lengths_a1) (Or.inr (slot_ne (Or.inr (hw _ (List.mem_of_getElem? (i := 30) rfl))) (Or.inr (hw _ (List.mem_of_getElem? (i := 22) rfl))) (by decide) (t := (.array .double)) (t' := (.array .int)) (by decide) (by decide))))) (Exa.keep E_a1 K10) (Or.inr ⟨(hw _ (List.mem_of_getElem? (i := 30) rfl)), rfl, hnm⟩) (hw _ (List.mem_of_getElem? (i := 4) rfl)) (ty := (.array .double)) (by decide) rfl rfl (g := (mkF m 92 #[.val (.ref a1), .val (.ref a2), .val (.ref a3), .val .null, .val (.int (1 : Int32))] [(.ref b10), (.ref a1)])) rfl rfl (hb hby d1_92)
  refine OwnR.of (st12) ?_
  have F12 := Fld.same W12 (Fld.ext E10 (Fld.other W9 (Fld.ext E7 F_lengths_a1) (Or.inr (slot_ne (Or.inr (hw _ (List.mem_of_getElem? (i := 30) rfl))) (Or.inr (hw _ (List.mem_of_getElem? (i := 22) rfl))) (by decide) (t := (.array .double)) (t' := (.array .int)) (by decide) (by decide)))))
  have K12 : Keep h0 h12 [a1] := Keep.wr K10 W12 (Or.inl (List.mem_of_getElem? (i := 0) rfl))
  have N12 := Fr.snoc X12 N9 g_a1
  show OwnR _ _ _ _ _ _ _ (T12.setTop (mkF m 95 #[.val (.ref a1), .val (.ref a2), .val (.ref a3), .val .null, .val (.int (1 : Int32))] []))
  refine OwnR.of (fun _ hr => XS.aloadN X12.here hx rfl (hb hby d1_95) rfl rfl hr) ?_
  show OwnR _ _ _ _ _ _ _ (T12.setTop (mkF m 96 #[.val (.ref a1), .val (.ref a2), .val (.ref a3), .val .null, .val (.int (1 : Int32))] [(.ref a1)]))
  refine OwnR.of (fun _ hr => XS.aloadN X12.here hx rfl (hb hby d1_96) rfl rfl hr) ?_
  show OwnR _ _ _ _ _ _ _ (T12.setTop (mkF m 97 #[.val (.ref a1), .val (.ref a2), .val (.ref a3), .val .null, .val (.int (1 : Int32))] [.null, (.ref a1)]))
  obtain ⟨T13, h13, X13, e13, W13, st13⟩ := putF X12 hx hZ hown (host := "") (Or.inl (hw _ (List.mem_of_getElem? (i := 31) rfl))) Via.refl e12 (Fld.other W12 (Fld.ext E10 (Fld.other W9 (Fld.ext E7 F_unit_a1) (Or.inr (slot_ne (Or.inr (hw _ (List.mem_of_getElem? (i := 32) rfl))) (Or.inr (hw _ (List.mem_of_getElem? (i := 22) rfl))) (by decide) (t := (.object "java/util/Optional")) (t' := (.array .int)) (by decide) (by decide))))) (Or.inr (slot_ne (Or.inr (hw _ (List.mem_of_getElem? (i := 32) rfl))) (Or.inr (hw _ (List.mem_of_getElem? (i := 30) rfl))) (by decide) (t := (.object "java/util/Optional")) (t' := (.array .double)) (by decide) (by decide)))) (Exa.keep E_a1 K12) (Or.inr ⟨(hw _ (List.mem_of_getElem? (i := 32) rfl)), rfl, hnm⟩) (hw _ (List.mem_of_getElem? (i := 4) rfl)) (ty := (.object "java/util/Optional")) (by decide) rfl rfl (g := (mkF m 97 #[.val (.ref a1), .val (.ref a2), .val (.ref a3), .val .null, .val (.int (1 : Int32))] [.null, (.ref a1)])) rfl rfl (hb hby d1_97)
  refine OwnR.of (st13) ?_
  have F13 := Fld.same W13 (Fld.other W12 (Fld.ext E10 (Fld.other W9 (Fld.ext E7 F_unit_a1) (Or.inr (slot_ne (Or.inr (hw _ (List.mem_of_getElem? (i := 32) rfl))) (Or.inr (hw _ (List.mem_of_getElem? (i := 22) rfl))) (by decide) (t := (.object "java/util/Optional")) (t' := (.array .int)) (by decide) (by decide))))) (Or.inr (slot_ne (Or.inr (hw _ (List.mem_of_getElem? (i := 32) rfl))) (Or.inr (hw _ (List.mem_of_getElem? (i := 30) rfl))) (by decide) (t := (.object "java/util/Optional")) (t' := (.array .double)) (by decide) (by decide))))
  have K13 : Keep h0 h13 [a1] := Keep.wr K12 W13 (Or.inl (List.mem_of_getElem? (i := 0) rfl))
  have N13 := Fr.snoc X13 N12 g_a1
  show OwnR _ _ _ _ _ _ _ (T13.setTop (mkF m 100 #[.val (.ref a1), .val (.ref a2), .val (.ref a3), .val .null, .val (.int (1 : Int32))] []))
  refine own_leafV X13 hx hlk Bd.returns (hb hby d1_100) (by decide) (by decide) ?_
  show Q1_1 Z a1 k3 d0 h0 n0 _ T13.heap _
  rw [show T13.heap = h13 from e13]
  refine ⟨b10, rfl, N13, ⟨K13, (Exa.keep E_a1 K13), (Fld.other W13 F12 (Or.inr (slot_ne (Or.inr (hw _ (List.mem_of_getElem? (i := 30) rfl))) (Or.inr (hw _ (List.mem_of_getElem? (i := 32) rfl))) (by decide) (t := (.array .double)) (t' := (.object "java/util/Optional")) (by decide) (by decide)))), (Arv.other (Arv.other V10 W12 (Ne.symm (Nat.ne_of_lt (Nat.lt_of_lt_of_le (Exa.keep E_a1 K9).lt (Nat.le_of_eq g10.symm))))) W13 (Ne.symm (Nat.ne_of_lt (Nat.lt_of_lt_of_le (Exa.keep E_a1 K9).lt (Nat.le_of_eq g10.symm))))), sz_b10⟩⟩
theorem ef_rm3_1 (m : MethodId) (x0 : Addr) : entryFrame m #[(.ref x0)] 8 = mkF m 0 #[.val (.ref x0), .unset, .unset, .unset, .unset, .unset, .unset, .unset] [] := by first | (simp [entryFrame, mkF, argsToLocals, Value.category]; done) | rfl
theorem d3_21 : decode prog_88_method_8_code 21 = .ok (.aload_n 3, 1) := by decide +kernel
theorem d3_22 : decode prog_88_method_8_code 22 = .ok (.iload 5, 2) := by decide +kernel
theorem d3_24 : decode prog_88_method_8_code 24 = .ok (.daload, 1) := by decide +kernel
theorem d3_25 : decode prog_88_method_8_code 25 = .ok (.dstore 6, 2) := by decide +kernel
theorem d3_27 : decode prog_88_method_8_code 27 = .ok (.dload_n 1, 1) := by decide +kernel
theorem d3_28 : decode prog_88_method_8_code 28 = .ok (.dload 6, 2) := by decide +kernel
theorem d3_30 : decode prog_88_method_8_code 30 = .ok (.dadd, 1) := by decide +kernel
theorem d3_31 : decode prog_88_method_8_code 31 = .ok (.dstore_n 1, 1) := by decide +kernel
theorem d3_32 : decode prog_88_method_8_code 32 = .ok (.iinc 5 1, 3) := by decide +kernel
theorem d3_35 : decode prog_88_method_8_code 35 = .ok (.goto (-21), 3) := by decide +kernel
def Q3_1 (Z : State) (z0 : Int64) (h0 : Heap) (n0 : Nat) (v : Option Value) (h : Heap) (L : List Loc) : Prop := v = some (.double (FP.l2d ((0 : Int64) + z0))) ∧ Fr n0 L ∧ h = h0
set_option maxRecDepth 65536 in
set_option maxHeartbeats 40000000 in
theorem rm3_1 (l : Launch) (Z : State) (a0 : Array Value) (hw : ∀ d ∈ tables_1, d.before a0 Z = true) (ws : List Jvm.Cond) (a1 : Addr) (a3 : Addr) (k3 : ClassId) (z0 : Int64) (h0 : Heap) (n0 : Nat) (Z0 : n0 ≤ h0.size) (E_a1 : Exa Z h0 a1 "com/example/ramification/ramification/model/StrahlerOrders") (F_lengths_a1 : Fld Z h0 a1 "com/example/ramification/ramification/model/StrahlerOrders" "lengths" "[D" (.ref a3)) (V_a3 : Arv Z h0 a3 k3 .double (1 : Int32) [(.double (FP.l2d z0))] (.double (0 : UInt64))) (hs0 : OwnS 1 z0) :
    MetFree l (⟨"com/example/ramification/ramification/model/StrahlerOrders", "getTotalLength", "()D"⟩ : MethodName) (head1 (Jvm.Cond.code (⟨"com/example/ramification/ramification/model/StrahlerOrders", "getTotalLength", "()D"⟩ : MethodName) prog_88_method_8_code 8 (some .double) :: ws) ({ frames := 0, cells := 0, slots := 0, locals := 0 } : Room)) (fun a U => a = #[(.ref a1)] ∧ Z.Warmed39 U.vm ∧ U.heap = h0) (fun _ _ _ _ _ => True) (fun _ U o U' => ∃ v L, o = .returned v ∧ Q3_1 Z z0 h0 n0 v U'.heap L ∧ FrameEnd U o U' L ({ frames := 0, cells := 0, slots := 0, locals := 0 } : Room).cells ({ frames := 0, cells := 0, slots := 0, locals := 0 } : Room).slots) := by
  refine MetFree.of_bodySF (plainFor_of_name pn_com_example_ramification_ramification_model_StrahlerOrders) hisR ?_
  intro p e s m args below meth c s₁ Bd hml0 hP hK
  obtain ⟨rfl, hZ, hh⟩ := hP
  have hx := Bd.exec
  have hby := Bd.bytes
  have hlk := BodyLoose.notSynchronized Bd
  have hml : c.maxLocals = 8 := hml0
  have hown : s.vm.findClass "com/example/ramification/ramification/model/StrahlerOrders" = some m.cls := findClass_of_methodNamed Bd.named
  have hnm := (name_of_methodNamed Bd.named Bd.method).1
  have X0 : Stand p l e ({ frames := 0, cells := 0, slots := 0, locals := 0 } : Room) s m #[(.ref a1)] below meth c s₁ [] 0 0 := Stand.of_body Bd
  have e0 : s₁.heap = h0 := by rw [← hh, Bd.state]; rfl
  have N0 := Fr.nil n0
  refine OwnR.of (s := s) (Q := Q3_1 Z z0 h0 n0) (fun t k => castTop (ef_rm3_1 m a1) k) ?_
  show OwnR _ _ _ _ _ _ _ (s₁.setTop (mkF m 0 #[.val (.ref a1), .unset, .unset, .unset, .unset, .unset, .unset, .unset] []))
  refine OwnR.of (fun _ hr => XS.dconst0 X0.here hx rfl (hb hby d3_0) (v := (FP.l2d (0 : Int64))) (by decide +kernel) hr) ?_
  show OwnR _ _ _ _ _ _ _ (s₁.setTop (mkF m 1 #[.val (.ref a1), .unset, .unset, .unset, .unset, .unset, .unset, .unset] [(.double (FP.l2d (0 : Int64)))]))
  refine OwnR.of (fun _ hr => XS.dstoreN X0.here hx rfl (hb hby d3_1) rfl (l' := #[.val (.ref a1), .val (.double (FP.l2d (0 : Int64))), .second, .unset, .unset, .unset, .unset, .unset]) rfl hr) ?_
  show OwnR _ _ _ _ _ _ _ (s₁.setTop (mkF m 2 #[.val (.ref a1), .val (.double (FP.l2d (0 : Int64))), .second, .unset, .unset, .unset, .unset, .unset] []))
  refine OwnR.of (fun _ hr => XS.aloadN X0.here hx rfl (hb hby d3_2) rfl rfl hr) ?_
  show OwnR _ _ _ _ _ _ _ (s₁.setTop (mkF m 3 #[.val (.ref a1), .val (.double (FP.l2d (0 : Int64))), .second, .unset, .unset, .unset, .unset, .unset] [(.ref a1)]))
  obtain ⟨T1, X1, e1, st1⟩ := getF X0 hx hZ hown (host := "") (Or.inl (hw _ (List.mem_of_getElem? (i := 29) rfl))) Via.refl e0 F_lengths_a1 (g := (mkF m 3 #[.val (.ref a1), .val (.double (FP.l2d (0 : Int64))), .second, .unset, .unset, .unset, .unset, .unset] [(.ref a1)])) rfl rfl (hb hby d3_3)
  refine OwnR.of (st1) ?_
  show OwnR _ _ _ _ _ _ _ (T1.setTop (mkF m 6 #[.val (.ref a1), .val (.double (FP.l2d (0 : Int64))), .second, .unset, .unset, .unset, .unset, .unset] [(.ref a3)]))
  refine OwnR.of (fun _ hr => XS.astoreN X1.here hx rfl (hb hby d3_6) rfl rfl (l' := #[.val (.ref a1), .val (.double (FP.l2d (0 : Int64))), .second, .val (.ref a3), .unset, .unset, .unset, .unset]) rfl hr) ?_
  show OwnR _ _ _ _ _ _ _ (T1.setTop (mkF m 7 #[.val (.ref a1), .val (.double (FP.l2d (0 : Int64))), .second, .val (.ref a3), .unset, .unset, .unset, .unset] []))
  refine OwnR.of (fun _ hr => XS.aloadN X1.here hx rfl (hb hby d3_7) rfl rfl hr) ?_
  show OwnR _ _ _ _ _ _ _ (T1.setTop (mkF m 8 #[.val (.ref a1), .val (.double (FP.l2d (0 : Int64))), .second, .val (.ref a3), .unset, .unset, .unset, .unset] [(.ref a3)]))
  obtain ⟨cl2, Ar2, -, S2, N2, -, -⟩ := id V_a3
  refine OwnR.of (X1.arraylength hx (by rw [e1]; exact Ar2.1) (State.isArrayOf_alike hZ.alike Ar2.2.1) (g := (mkF m 8 #[.val (.ref a1), .val (.double (FP.l2d (0 : Int64))), .second, .val (.ref a3), .unset, .unset, .unset, .unset] [(.ref a3)])) rfl rfl (hb hby d3_8)) ?_
  show OwnR _ _ _ _ _ _ _ (T1.setTop (mkF m 9 #[.val (.ref a1), .val (.double (FP.l2d (0 : Int64))), .second, .val (.ref a3), .unset, .unset, .unset, .unset] [(.int cl2.slots.size.toInt32)]))
  rw [len_of S2 N2]
  show OwnR _ _ _ _ _ _ _ (T1.setTop (mkF m 9 #[.val (.ref a1), .val (.double (FP.l2d (0 : Int64))), .second, .val (.ref a3), .unset, .unset, .unset, .unset] [(.int (1 : Int32))]))
  refine OwnR.of (fun _ hr => XS.istore X1.here hx rfl (hb hby d3_9) rfl (l' := #[.val (.ref a1), .val (.double (FP.l2d (0 : Int64))), .second, .val (.ref a3), .val (.int (1 : Int32)), .unset, .unset, .unset]) rfl hr) ?_
  show OwnR _ _ _ _ _ _ _ (T1.setTop (mkF m 11 #[.val (.ref a1), .val (.double (FP.l2d (0 : Int64))), .second, .val (.ref a3), .val (.int (1 : Int32)), .unset, .unset, .unset] []))
  refine OwnR.of (fun _ hr => XS.iconst X1.here hx rfl (hb hby d3_11) hr) ?_
  show OwnR _ _ _ _ _ _ _ (T1.setTop (mkF m 12 #[.val (.ref a1), .val (.double (FP.l2d (0 : Int64))), .second, .val (.ref a3), .val (.int (1 : Int32)), .unset, .unset, .unset] [(.int (0 : Int32))]))
  refine OwnR.of (fun _ hr => XS.istore X1.here hx rfl (hb hby d3_12) rfl (l' := #[.val (.ref a1), .val (.double (FP.l2d (0 : Int64))), .second, .val (.ref a3), .val (.int (1 : Int32)), .val (.int (0 : Int32)), .unset, .unset]) rfl hr) ?_
  show OwnR _ _ _ _ _ _ _ (T1.setTop (mkF m 14 #[.val (.ref a1), .val (.double (FP.l2d (0 : Int64))), .second, .val (.ref a3), .val (.int (1 : Int32)), .val (.int (0 : Int32)), .unset, .unset] []))
  refine OwnR.of (fun _ hr => XS.iload X1.here hx rfl (hb hby d3_14) rfl hr) ?_
  show OwnR _ _ _ _ _ _ _ (T1.setTop (mkF m 16 #[.val (.ref a1), .val (.double (FP.l2d (0 : Int64))), .second, .val (.ref a3), .val (.int (1 : Int32)), .val (.int (0 : Int32)), .unset, .unset] [(.int (0 : Int32))]))
  refine OwnR.of (fun _ hr => XS.iload X1.here hx rfl (hb hby d3_16) rfl hr) ?_
  show OwnR _ _ _ _ _ _ _ (T1.setTop (mkF m 18 #[.val (.ref a1), .val (.double (FP.l2d (0 : Int64))), .second, .val (.ref a3), .val (.int (1 : Int32)), .val (.int (0 : Int32)), .unset, .unset] [(.int (1 : Int32)), (.int (0 : Int32))]))
  refine OwnR.of (fun _ hr => XS.icmpNo X1.here hx rfl (hb hby d3_18) rfl (tlt (by decide : (0 : Int32) < (1 : Int32))).2.1 hr) ?_
  show OwnR _ _ _ _ _ _ _ (T1.setTop (mkF m 21 #[.val (.ref a1), .val (.double (FP.l2d (0 : Int64))), .second, .val (.ref a3), .val (.int (1 : Int32)), .val (.int (0 : Int32)), .unset, .unset] []))
  refine OwnR.of (fun _ hr => XS.aloadN X1.here hx rfl (hb hby d3_21) rfl rfl hr) ?_
  show OwnR _ _ _ _ _ _ _ (T1.setTop (mkF m 22 #[.val (.ref a1), .val (.double (FP.l2d (0 : Int64))), .second, .val (.ref a3), .val (.int (1 : Int32)), .val (.int (0 : Int32)), .unset, .unset] [(.ref a3)]))
  refine OwnR.of (fun _ hr => XS.iload X1.here hx rfl (hb hby d3_22) rfl hr) ?_
  show OwnR _ _ _ _ _ _ _ (T1.setTop (mkF m 24 #[.val (.ref a1), .val (.double (FP.l2d (0 : Int64))), .second, .val (.ref a3), .val (.int (1 : Int32)), .val (.int (0 : Int32)), .unset, .unset] [(.int (0 : Int32)), (.ref a3)]))
  obtain ⟨cl3, Ar3, -, S3, N3, H3, G3⟩ := id V_a3
  have hin3 : ¬ ((0 : Int32) < 0 ∨ cl3.slots.size ≤ ((0 : Int32)).toNatClampNeg) := (inb_of S3 ⟨by decide, by decide⟩)
  refine OwnR.of (X1.daload hx (j := (0 : Int32)) (v := (.double (FP.l2d z0))) (by rw [e1]; exact Ar3.1) (State.isArrayOf_alike hZ.alike Ar3.2.1) Ar3.2.2 hin3 (Has.at H3 hin3 rfl) (g := (mkF m 24 #[.val (.ref a1), .val (.double (FP.l2d (0 : Int64))), .second, .val (.ref a3), .val (.int (1 : Int32)), .val (.int (0 : Int32)), .unset, .unset] [(.int (0 : Int32)), (.ref a3)])) rfl rfl (hb hby d3_24)) ?_
  show OwnR _ _ _ _ _ _ _ (T1.setTop (mkF m 25 #[.val (.ref a1), .val (.double (FP.l2d (0 : Int64))), .second, .val (.ref a3), .val (.int (1 : Int32)), .val (.int (0 : Int32)), .unset, .unset] [(.double (FP.l2d z0))]))
  refine OwnR.of (fun _ hr => XS.dstore X1.here hx rfl (hb hby d3_25) rfl (l' := #[.val (.ref a1), .val (.double (FP.l2d (0 : Int64))), .second, .val (.ref a3), .val (.int (1 : Int32)), .val (.int (0 : Int32)), .val (.double (FP.l2d z0)), .second]) rfl hr) ?_
  show OwnR _ _ _ _ _ _ _ (T1.setTop (mkF m 27 #[.val (.ref a1), .val (.double (FP.l2d (0 : Int64))), .second, .val (.ref a3), .val (.int (1 : Int32)), .val (.int (0 : Int32)), .val (.double (FP.l2d z0)), .second] []))
  refine OwnR.of (fun _ hr => XS.dloadN X1.here hx rfl (hb hby d3_27) rfl hr) ?_
  show OwnR _ _ _ _ _ _ _ (T1.setTop (mkF m 28 #[.val (.ref a1), .val (.double (FP.l2d (0 : Int64))), .second, .val (.ref a3), .val (.int (1 : Int32)), .val (.int (0 : Int32)), .val (.double (FP.l2d z0)), .second] [(.double (FP.l2d (0 : Int64)))]))
  refine OwnR.of (fun _ hr => XS.dload X1.here hx rfl (hb hby d3_28) rfl hr) ?_
  show OwnR _ _ _ _ _ _ _ (T1.setTop (mkF m 30 #[.val (.ref a1), .val (.double (FP.l2d (0 : Int64))), .second, .val (.ref a3), .val (.int (1 : Int32)), .val (.int (0 : Int32)), .val (.double (FP.l2d z0)), .second] [(.double (FP.l2d z0)), (.double (FP.l2d (0 : Int64)))]))
  refine OwnR.of (fun _ hr => XS.daddS X1.here hx rfl (hb hby d3_30) rfl (nn_w (dadd_w (own_b own_s0 (by decide) (by decide)) (own_b hs0 (by decide) (by decide)))) (dadd_w (own_b own_s0 (by decide) (by decide)) (own_b hs0 (by decide) (by decide))) hr) ?_
  show OwnR _ _ _ _ _ _ _ (T1.setTop (mkF m 31 #[.val (.ref a1), .val (.double (FP.l2d (0 : Int64))), .second, .val (.ref a3), .val (.int (1 : Int32)), .val (.int (0 : Int32)), .val (.double (FP.l2d z0)), .second] [(.double (FP.l2d ((0 : Int64) + z0)))]))
  refine OwnR.of (fun _ hr => XS.dstoreN X1.here hx rfl (hb hby d3_31) rfl (l' := #[.val (.ref a1), .val (.double (FP.l2d ((0 : Int64) + z0))), .second, .val (.ref a3), .val (.int (1 : Int32)), .val (.int (0 : Int32)), .val (.double (FP.l2d z0)), .second]) rfl hr) ?_
  show OwnR _ _ _ _ _ _ _ (T1.setTop (mkF m 32 #[.val (.ref a1), .val (.double (FP.l2d ((0 : Int64) + z0))), .second, .val (.ref a3), .val (.int (1 : Int32)), .val (.int (0 : Int32)), .val (.double (FP.l2d z0)), .second] []))
  refine OwnR.of (fun _ hr => XS.iinc X1.here hx rfl (hb hby d3_32) rfl (l' := #[.val (.ref a1), .val (.double (FP.l2d ((0 : Int64) + z0))), .second, .val (.ref a3), .val (.int (1 : Int32)), .val (.int ((0 : Int32) + (1 : Int32))), .val (.double (FP.l2d z0)), .second]) rfl hr) ?_
  show OwnR _ _ _ _ _ _ _ (T1.setTop (mkF m 35 #[.val (.ref a1), .val (.double (FP.l2d ((0 : Int64) + z0))), .second, .val (.ref a3), .val (.int (1 : Int32)), .val (.int ((0 : Int32) + (1 : Int32))), .val (.double (FP.l2d z0)), .second] []))
  rw [(by decide : ((0 : Int32) + (1 : Int32)) = (1 : Int32))]
  show OwnR _ _ _ _ _ _ _ (T1.setTop (mkF m 35 #[.val (.ref a1), .val (.double (FP.l2d ((0 : Int64) + z0))), .second, .val (.ref a3), .val (.int (1 : Int32)), .val (.int (1 : Int32)), .val (.double (FP.l2d z0)), .second] []))
  refine OwnR.of (fun _ hr => XS.goto X1.here hx rfl (pc0 := 35) (pc' := 14) rfl (hb hby d3_35) (by decide) (by decide) hr) ?_
  show OwnR _ _ _ _ _ _ _ (T1.setTop (mkF m 14 #[.val (.ref a1), .val (.double (FP.l2d ((0 : Int64) + z0))), .second, .val (.ref a3), .val (.int (1 : Int32)), .val (.int (1 : Int32)), .val (.double (FP.l2d z0)), .second] []))
  refine OwnR.of (fun _ hr => XS.iload X1.here hx rfl (hb hby d3_14) rfl hr) ?_
  show OwnR _ _ _ _ _ _ _ (T1.setTop (mkF m 16 #[.val (.ref a1), .val (.double (FP.l2d ((0 : Int64) + z0))), .second, .val (.ref a3), .val (.int (1 : Int32)), .val (.int (1 : Int32)), .val (.double (FP.l2d z0)), .second] [(.int (1 : Int32))]))
  refine OwnR.of (fun _ hr => XS.iload X1.here hx rfl (hb hby d3_16) rfl hr) ?_
  show OwnR _ _ _ _ _ _ _ (T1.setTop (mkF m 18 #[.val (.ref a1), .val (.double (FP.l2d ((0 : Int64) + z0))), .second, .val (.ref a3), .val (.int (1 : Int32)), .val (.int (1 : Int32)), .val (.double (FP.l2d z0)), .second] [(.int (1 : Int32)), (.int (1 : Int32))]))
  refine OwnR.of (fun _ hr => XS.icmpYes X1.here hx rfl (pc0 := 18) (pc' := 38) rfl (hb hby d3_18) rfl (flt (by decide : ¬ ((1 : Int32) < (1 : Int32)))).2.1 (by decide) (by decide) hr) ?_
  show OwnR _ _ _ _ _ _ _ (T1.setTop (mkF m 38 #[.val (.ref a1), .val (.double (FP.l2d ((0 : Int64) + z0))), .second, .val (.ref a3), .val (.int (1 : Int32)), .val (.int (1 : Int32)), .val (.double (FP.l2d z0)), .second] []))
  refine OwnR.of (fun _ hr => XS.dloadN X1.here hx rfl (hb hby d3_38) rfl hr) ?_
  show OwnR _ _ _ _ _ _ _ (T1.setTop (mkF m 39 #[.val (.ref a1), .val (.double (FP.l2d ((0 : Int64) + z0))), .second, .val (.ref a3), .val (.int (1 : Int32)), .val (.int (1 : Int32)), .val (.double (FP.l2d z0)), .second] [(.double (FP.l2d ((0 : Int64) + z0)))]))
  refine own_leafD X1 hx hlk Bd.returns (hb hby d3_39) (by decide) (by decide) ?_
  show Q3_1 Z z0 h0 n0 _ T1.heap _
  rw [show T1.heap = h0 from e1]
  refine ⟨?_, N0, rfl⟩
  show (some (.double (FP.l2d ((0 : Int64) + z0))) : Option Value) = some (.double (FP.l2d ((0 : Int64) + z0)))
  rfl
theorem ef_rm1_2 (m : MethodId) (x0 : Addr) (x1 : Addr) (x2 : Addr) : entryFrame m #[(.ref x0), (.ref x1), (.ref x2), .null] 5 = mkF m 0 #[.val (.ref x0), .val (.ref x1), .val (.ref x2), .val .null, .unset] [] := by first | (simp [entryFrame, mkF, argsToLocals, Value.category]; done) | rfl
def Q1_2 (Z : State) (a1 : Addr) (k3 : ClassId) (d0 : UInt64) (d1 : UInt64) (h0 : Heap) (n0 : Nat) (v : Option Value) (h : Heap) (L : List Loc) : Prop := ∃ (bD : Addr), v = none ∧ Fr n0 L ∧ Keep h0 h [a1] ∧ Exa Z h a1 "com/example/ramification/ramification/model/StrahlerOrders" ∧ Fld Z h a1 "com/example/ramification/ramification/model/StrahlerOrders" "lengths" "[D" (.ref bD) ∧ Arv Z h bD k3 .double (2 : Int32) [(.double d0), (.double d1)] (.double (0 : UInt64)) ∧ h0.size ≤ bD
set_option maxRecDepth 65536 in
set_option maxHeartbeats 40000000 in
theorem rm1_2 (l : Launch) (Z : State) (a0 : Array Value) (hw : ∀ d ∈ tables_1, d.before a0 Z = true) (ws : List Jvm.Cond) (a1 : Addr) (a2 : Addr) (a3 : Addr) (k2 k3 : ClassId) (x0 x1 : Int32) (d0 d1 : UInt64) (h0 : Heap) (n0 : Nat) (Z0 : n0 ≤ h0.size) (E_a1 : Exa Z h0 a1 "com/example/ramification/ramification/model/StrahlerOrders") (F_branches_a1 : Fld Z h0 a1 "com/example/ramification/ramification/model/StrahlerOrders" "branches" "[I" .null) (F_lengths_a1 : Fld Z h0 a1 "com/example/ramification/ramification/model/StrahlerOrders" "lengths" "[D" .null) (F_unit_a1 : Fld Z h0 a1 "com/example/ramification/ramification/model/StrahlerOrders" "unit" "Ljava/util/Optional;" .null) (V_a2 : Arv Z h0 a2 k2 .int (2 : Int32) [(.int x0), (.int x1)] (.int (0 : Int32))) (V_a3 : Arv Z h0 a3 k3 .double (2 : Int32) [(.double d0), (.double d1)] (.double (0 : UInt64))) (E_a2 : Exa Z h0 a2 "[I") (E_a3 : Exa Z h0 a3 "[D") (g_a1 : n0 ≤ a1) (ne_12 : a1 ≠ a2) (ne_13 : a1 ≠ a3) (hx0 : ¬ (x0 < (1 : Int32))) (hx1 : ¬ (x1 < (1 : Int32))) :
    MetFree l (⟨"com/example/ramification/ramification/model/StrahlerOrders", "<init>", "([I[DLjava/util/Optional;)V"⟩ : MethodName) (head1 (Jvm.Cond.code (⟨"com/example/ramification/ramification/model/StrahlerOrders", "<init>", "([I[DLjava/util/Optional;)V"⟩ : MethodName) prog_88_method_1_code 5 none :: ws) ({ frames := 1, cells := 2, slots := 4, locals := 18 } : Room)) (fun a U => a = #[(.ref a1), (.ref a2), (.ref a3), .null] ∧ Z.Warmed39 U.vm ∧ U.heap = h0) (fun _ _ _ _ _ => True) (fun _ U o U' => ∃ v L, o = .returned v ∧ Q1_2 Z a1 k3 d0 d1 h0 n0 v U'.heap L ∧ FrameEnd U o U' L ({ frames := 1, cells := 2, slots := 4, locals := 18 } : Room).cells ({ frames := 1, cells := 2, slots := 4, locals := 18 } : Room).slots) := by
  refine MetFree.of_bodySF (plainFor_of_name pn_com_example_ramification_ramification_model_StrahlerOrders) hisR ?_
  intro p e s m args below meth c s₁ Bd hml0 hP hK
  obtain ⟨rfl, hZ, hh⟩ := hP
  have hx := Bd.exec
  have hby := Bd.bytes
  have hlk := BodyLoose.notSynchronized Bd
  have hml : c.maxLocals = 5 := hml0
  have hown : s.vm.findClass "com/example/ramification/ramification/model/StrahlerOrders" = some m.cls := findClass_of_methodNamed Bd.named
  have hnm := (name_of_methodNamed Bd.named Bd.method).1
  have X0 : Stand p l e ({ frames := 1, cells := 2, slots := 4, locals := 18 } : Room) s m #[(.ref a1), (.ref a2), (.ref a3), .null] below meth c s₁ [] 0 0 := Stand.of_body Bd
  have e0 : s₁.heap = h0 := by rw [← hh, Bd.state]; rfl
  have N0 := Fr.nil n0
  refine OwnR.of (s := s) (Q := Q1_2 Z a1 k3 d0 d1 h0 n0) (fun t k => castTop (ef_rm1_2 m a1 a2 a3) k) ?_
  show OwnR _ _ _ _ _ _ _ (s₁.setTop (mkF m 0 #[.val (.ref a1), .val (.ref a2), .val (.ref a3), .val .null, .unset] []))
  refine OwnR.of (fun _ hr => XS.aloadN X0.here hx rfl (hb hby d1_0) rfl rfl hr) ?_
  show OwnR _ _ _ _ _ _ _ (s₁.setTop (mkF m 1 #[.val (.ref a1), .val (.ref a2), .val (.ref a3), .val .null, .unset] [(.ref a1)]))
  obtain ⟨T1, X1, e1, st1⟩ := initO X0 hx hZ hown (hw _ (List.mem_of_getElem? (i := 9) rfl)) (hw _ (List.mem_of_getElem? (i := 10) rfl)) (hw _ (List.mem_of_getElem? (i := 11) rfl)) e0 (g := (mkF m 1 #[.val (.ref a1), .val (.ref a2), .val (.ref a3), .val .null, .unset] [(.ref a1)])) rfl (by rw [hml]; rfl) rfl (hb hby d1_1) (by decide) (W := 0) (by show 2 * 0 + _ ≤ _; exact Nat.le_of_eq rfl) (by decide)
  refine OwnR.of (st1) ?_
  show OwnR _ _ _ _ _ _ _ (T1.setTop (mkF m 4 #[.val (.ref a1), .val (.ref a2), .val (.ref a3), .val .null, .unset] []))
  refine OwnR.of (fun _ hr => XS.aloadN X1.here hx rfl (hb hby d1_4) rfl rfl hr) ?_
  show OwnR _ _ _ _ _ _ _ (T1.setTop (mkF m 5 #[.val (.ref a1), .val (.ref a2), .val (.ref a3), .val .null, .unset] [(.ref a2)]))
  obtain ⟨cl2, Ar2, -, S2, N2, -, -⟩ := id V_a2
  refine OwnR.of (X1.arraylength hx (by rw [e1]; exact Ar2.1) (State.isArrayOf_alike hZ.alike Ar2.2.1) (g := (mkF m 5 #[.val (.ref a1), .val (.ref a2), .val (.ref a3), .val .null, .unset] [(.ref a2)])) rfl rfl (hb hby d1_5)) ?_
  show OwnR _ _ _ _ _ _ _ (T1.setTop (mkF m 6 #[.val (.ref a1), .val (.ref a2), .val (.ref a3), .val .null, .unset] [(.int cl2.slots.size.toInt32)]))
  rw [len_of S2 N2]
  show OwnR _ _ _ _ _ _ _ (T1.setTop (mkF m 6 #[.val (.ref a1), .val (.ref a2), .val (.ref a3), .val .null, .unset] [(.int (2 : Int32))]))
  refine OwnR.of (fun _ hr => XS.aloadN X1.here hx rfl (hb hby d1_6) rfl rfl hr) ?_
  show OwnR _ _ _ _ _ _ _ (T1.setTop (mkF m 7 #[.val (.ref a1), .val (.ref a2), .val (.ref a3), .val .null, .unset] [(.ref a3), (.int (2 : Int32))]))
  obtain ⟨cl3, Ar3, -, S3, N3, -, -⟩ := id V_a3
  refine OwnR.of (X1.arraylength hx (by rw [e1]; exact Ar3.1) (State.isArrayOf_alike hZ.alike Ar3.2.1) (g := (mkF m 7 #[.val (.ref a1), .val (.ref a2), .val (.ref a3), .val .null, .unset] [(.ref a3), (.int (2 : Int32))])) rfl rfl (hb hby d1_7)) ?_
  show OwnR _ _ _ _ _ _ _ (T1.setTop (mkF m 8 #[.val (.ref a1), .val (.ref a2), .val (.ref a3), .val .null, .unset] [(.int cl3.slots.size.toInt32), (.int (2 : Int32))]))
  rw [len_of S3 N3]
  show OwnR _ _ _ _ _ _ _ (T1.setTop (mkF m 8 #[.val (.ref a1), .val (.ref a2), .val (.ref a3), .val .null, .unset] [(.int (2 : Int32)), (.int (2 : Int32))]))
  refine OwnR.of (fun _ hr => XS.icmpYes X1.here hx rfl (pc0 := 8) (pc' := 28) rfl (hb hby d1_8) rfl (teq (by decide : (2 : Int32) = (2 : Int32))).1 (by decide) (by decide) hr) ?_
  show OwnR _ _ _ _ _ _ _ (T1.setTop (mkF m 28 #[.val (.ref a1), .val (.ref a2), .val (.ref a3), .val .null, .unset] []))
  refine OwnR.of (fun _ hr => XS.iconst X1.here hx rfl (hb hby d1_28) hr) ?_
  show OwnR _ _ _ _ _ _ _ (T1.setTop (mkF m 29 #[.val (.ref a1), .val (.ref a2), .val (.ref a3), .val .null, .unset] [(.int (0 : Int32))]))
  refine OwnR.of (fun _ hr => XS.istore X1.here hx rfl (hb hby d1_29) rfl (l' := #[.val (.ref a1), .val (.ref a2), .val (.ref a3), .val .null, .val (.int (0 : Int32))]) rfl hr) ?_
  show OwnR _ _ _ _ _ _ _ (T1.setTop (mkF m 31 #[.val (.ref a1), .val (.ref a2), .val (.ref a3), .val .null, .val (.int (0 : Int32))] []))
  refine OwnR.of (fun _ hr => XS.iload X1.here hx rfl (hb hby d1_31) rfl hr) ?_
  show OwnR _ _ _ _ _ _ _ (T1.setTop (mkF m 33 #[.val (.ref a1), .val (.ref a2), .val (.ref a3), .val .null, .val (.int (0 : Int32))] [(.int (0 : Int32))]))
  refine OwnR.of (fun _ hr => XS.aloadN X1.here hx rfl (hb hby d1_33) rfl rfl hr) ?_
  show OwnR _ _ _ _ _ _ _ (T1.setTop (mkF m 34 #[.val (.ref a1), .val (.ref a2), .val (.ref a3), .val .null, .val (.int (0 : Int32))] [(.ref a2), (.int (0 : Int32))]))
  obtain ⟨cl4, Ar4, -, S4, N4, -, -⟩ := id V_a2
  refine OwnR.of (X1.arraylength hx (by rw [e1]; exact Ar4.1) (State.isArrayOf_alike hZ.alike Ar4.2.1) (g := (mkF m 34 #[.val (.ref a1), .val (.ref a2), .val (.ref a3), .val .null, .val (.int (0 : Int32))] [(.ref a2), (.int (0 : Int32))])) rfl rfl (hb hby d1_34)) ?_
  show OwnR _ _ _ _ _ _ _ (T1.setTop (mkF m 35 #[.val (.ref a1), .val (.ref a2), .val (.ref a3), .val .null, .val (.int (0 : Int32))] [(.int cl4.slots.size.toInt32), (.int (0 : Int32))]))
  rw [len_of S4 N4]
  show OwnR _ _ _ _ _ _ _ (T1.setTop (mkF m 35 #[.val (.ref a1), .val (.ref a2), .val (.ref a3), .val .null, .val (.int (0 : Int32))] [(.int (2 : Int32)), (.int (0 : Int32))]))
  refine OwnR.of (fun _ hr => XS.icmpNo X1.here hx rfl (hb hby d1_35) rfl (tlt (by decide : (0 : Int32) < (2 : Int32))).2.1 hr) ?_
  show OwnR _ _ _ _ _ _ _ (T1.setTop (mkF m 38 #[.val (.ref a1), .val (.ref a2), .val (.ref a3), .val .null, .val (.int (0 : Int32))] []))
  refine OwnR.of (fun _ hr => XS.aloadN X1.here hx rfl (hb hby d1_38) rfl rfl hr) ?_
  show OwnR _ _ _ _ _ _ _ (T1.setTop (mkF m 39 #[.val (.ref a1), .val (.ref a2), .val (.ref a3), .val .null, .val (.int (0 : Int32))] [(.ref a2)]))
  refine OwnR.of (fun _ hr => XS.iload X1.here hx rfl (hb hby d1_39) rfl hr) ?_
  show OwnR _ _ _ _ _ _ _ (T1.setTop (mkF m 41 #[.val (.ref a1), .val (.ref a2), .val (.ref a3), .val .null, .val (.int (0 : Int32))] [(.int (0 : Int32)), (.ref a2)]))
  obtain ⟨cl5, Ar5, -, S5, N5, H5, G5⟩ := id V_a2
  have hin5 : ¬ ((0 : Int32) < 0 ∨ cl5.slots.size ≤ ((0 : Int32)).toNatClampNeg) := (inb_of S5 ⟨by decide, by decide⟩)
  refine OwnR.of (X1.iaload hx (j := (0 : Int32)) (v := (.int x0)) (by rw [e1]; exact Ar5.1) (State.isArrayOf_alike hZ.alike Ar5.2.1) Ar5.2.2 hin5 (Has.at H5 hin5 rfl) (g := (mkF m 41 #[.val (.ref a1), .val (.ref a2), .val (.ref a3), .val .null, .val (.int (0 : Int32))] [(.int (0 : Int32)), (.ref a2)])) rfl rfl (hb hby d1_41)) ?_
  show OwnR _ _ _ _ _ _ _ (T1.setTop (mkF m 42 #[.val (.ref a1), .val (.ref a2), .val (.ref a3), .val .null, .val (.int (0 : Int32))] [(.int x0)]))
  refine OwnR.of (fun _ hr => XS.iconst X1.here hx rfl (hb hby d1_42) hr) ?_
  show OwnR _ _ _ _ _ _ _ (T1.setTop (mkF m 43 #[.val (.ref a1), .val (.ref a2), .val (.ref a3), .val .null, .val (.int (0 : Int32))] [(.int (1 : Int32)), (.int x0)]))
  refine OwnR.of (fun _ hr => XS.icmpYes X1.here hx rfl (pc0 := 43) (pc' := 67) rfl (hb hby d1_43) rfl (flt hx0).2.1 (by decide) (by decide) hr) ?_
  show OwnR _ _ _ _ _ _ _ (T1.setTop (mkF m 67 #[.val (.ref a1), .val (.ref a2), .val (.ref a3), .val .null, .val (.int (0 : Int32))] []))
  refine OwnR.of (fun _ hr => XS.iinc X1.here hx rfl (hb hby d1_67) rfl (l' := #[.val (.ref a1), .val (.ref a2), .val (.ref a3), .val .null, .val (.int ((0 : Int32) + (1 : Int32)))]) rfl hr) ?_
  show OwnR _ _ _ _ _ _ _ (T1.setTop (mkF m 70 #[.val (.ref a1), .val (.ref a2), .val (.ref a3), .val .null, .val (.int ((0 : Int32) + (1 : Int32)))] []))
  rw [(by decide : ((0 : Int32) + (1 : Int32)) = (1 : Int32))]
  show OwnR _ _ _ _ _ _ _ (T1.setTop (mkF m 70 #[.val (.ref a1), .val (.ref a2), .val (.ref a3), .val .null, .val (.int (1 : Int32))] []))
  refine OwnR.of (fun _ hr => XS.goto X1.here hx rfl (pc0 := 70) (pc' := 31) rfl (hb hby d1_70) (by decide) (by decide) hr) ?_
  show OwnR _ _ _ _ _ _ _ (T1.setTop (mkF m 31 #[.val (.ref a1), .val (.ref a2), .val (.ref a3), .val .null, .val (.int (1 : Int32))] []))
  refine OwnR.of (fun _ hr => XS.iload X1.here hx rfl (hb hby d1_31) rfl hr) ?_
  show OwnR _ _ _ _ _ _ _ (T1.setTop (mkF m 33 #[.val (.ref a1), .val (.ref a2), .val (.ref a3), .val .null, .val (.int (1 : Int32))] [(.int (1 : Int32))]))
  refine OwnR.of (fun _ hr => XS.aloadN X1.here hx rfl (hb hby d1_33) rfl rfl hr) ?_
  show OwnR _ _ _ _ _ _ _ (T1.setTop (mkF m 34 #[.val (.ref a1), .val (.ref a2), .val (.ref a3), .val .null, .val (.int (1 : Int32))] [(.ref a2), (.int (1 : Int32))]))
  obtain ⟨cl6, Ar6, -, S6, N6, -, -⟩ := id V_a2
  refine OwnR.of (X1.arraylength hx (by rw [e1]; exact Ar6.1) (State.isArrayOf_alike hZ.alike Ar6.2.1) (g := (mkF m 34 #[.val (.ref a1), .val (.ref a2), .val (.ref a3), .val .null, .val (.int (1 : Int32))] [(.ref a2), (.int (1 : Int32))])) rfl rfl (hb hby d1_34)) ?_
  show OwnR _ _ _ _ _ _ _ (T1.setTop (mkF m 35 #[.val (.ref a1), .val (.ref a2), .val (.ref a3), .val .null, .val (.int (1 : Int32))] [(.int cl6.slots.size.toInt32), (.int (1 : Int32))]))
  rw [len_of S6 N6]
  show OwnR _ _ _ _ _ _ _ (T1.setTop (mkF m 35 #[.val (.ref a1), .val (.ref a2), .val (.ref a3), .val .null, .val (.int (1 : Int32))] [(.int (2 : Int32)), (.int (1 : Int32))]))
  refine OwnR.of (fun _ hr => XS.icmpNo X1.here hx rfl (hb hby d1_35) rfl (tlt (by decide : (1 : Int32) < (2 : Int32))).2.1 hr) ?_
  show OwnR _ _ _ _ _ _ _ (T1.setTop (mkF m 38 #[.val (.ref a1), .val (.ref a2), .val (.ref a3), .val .null, .val (.int (1 : Int32))] []))
  refine OwnR.of (fun _ hr => XS.aloadN X1.here hx rfl (hb hby d1_38) rfl rfl hr) ?_
  show OwnR _ _ _ _ _ _ _ (T1.setTop (mkF m 39 #[.val (.ref a1), .val (.ref a2), .val (.ref a3), .val .null, .val (.int (1 : Int32))] [(.ref a2)]))
  refine OwnR.of (fun _ hr => XS.iload X1.here hx rfl (hb hby d1_39) rfl hr) ?_
  show OwnR _ _ _ _ _ _ _ (T1.setTop (mkF m 41 #[.val (.ref a1), .val (.ref a2), .val (.ref a3), .val .null, .val (.int (1 : Int32))] [(.int (1 : Int32)), (.ref a2)]))
  obtain ⟨cl7, Ar7, -, S7, N7, H7, G7⟩ := id V_a2
  have hin7 : ¬ ((1 : Int32) < 0 ∨ cl7.slots.size ≤ ((1 : Int32)).toNatClampNeg) := (inb_of S7 ⟨by decide, by decide⟩)
  refine OwnR.of (X1.iaload hx (j := (1 : Int32)) (v := (.int x1)) (by rw [e1]; exact Ar7.1) (State.isArrayOf_alike hZ.alike Ar7.2.1) Ar7.2.2 hin7 (Has.at H7 hin7 rfl) (g := (mkF m 41 #[.val (.ref a1), .val (.ref a2), .val (.ref a3), .val .null, .val (.int (1 : Int32))] [(.int (1 : Int32)), (.ref a2)])) rfl rfl (hb hby d1_41)) ?_
  show OwnR _ _ _ _ _ _ _ (T1.setTop (mkF m 42 #[.val (.ref a1), .val (.ref a2), .val (.ref a3), .val .null, .val (.int (1 : Int32))] [(.int x1)]))
  refine OwnR.of (fun _ hr => XS.iconst X1.here hx rfl (hb hby d1_42) hr) ?_
  show OwnR _ _ _ _ _ _ _ (T1.setTop (mkF m 43 #[.val (.ref a1), .val (.ref a2), .val (.ref a3), .val .null, .val (.int (1 : Int32))] [(.int (1 : Int32)), (.int x1)]))
  refine OwnR.of (fun _ hr => XS.icmpYes X1.here hx rfl (pc0 := 43) (pc' := 67) rfl (hb hby d1_43) rfl (flt hx1).2.1 (by decide) (by decide) hr) ?_
  show OwnR _ _ _ _ _ _ _ (T1.setTop (mkF m 67 #[.val (.ref a1), .val (.ref a2), .val (.ref a3), .val .null, .val (.int (1 : Int32))] []))
  refine OwnR.of (fun _ hr => XS.iinc X1.here hx rfl (hb hby d1_67) rfl (l' := #[.val (.ref a1), .val (.ref a2), .val (.ref a3), .val .null, .val (.int ((1 : Int32) + (1 : Int32)))]) rfl hr) ?_
  show OwnR _ _ _ _ _ _ _ (T1.setTop (mkF m 70 #[.val (.ref a1), .val (.ref a2), .val (.ref a3), .val .null, .val (.int ((1 : Int32) + (1 : Int32)))] []))
  rw [(by decide : ((1 : Int32) + (1 : Int32)) = (2 : Int32))]
  show OwnR _ _ _ _ _ _ _ (T1.setTop (mkF m 70 #[.val (.ref a1), .val (.ref a2), .val (.ref a3), .val .null, .val (.int (2 : Int32))] []))
  refine OwnR.of (fun _ hr => XS.goto X1.here hx rfl (pc0 := 70) (pc' := 31) rfl (hb hby d1_70) (by decide) (by decide) hr) ?_
  show OwnR _ _ _ _ _ _ _ (T1.setTop (mkF m 31 #[.val (.ref a1), .val (.ref a2), .val (.ref a3), .val .null, .val (.int (2 : Int32))] []))
  refine OwnR.of (fun _ hr => XS.iload X1.here hx rfl (hb hby d1_31) rfl hr) ?_
  show OwnR _ _ _ _ _ _ _ (T1.setTop (mkF m 33 #[.val (.ref a1), .val (.ref a2), .val (.ref a3), .val .null, .val (.int (2 : Int32))] [(.int (2 : Int32))]))
  refine OwnR.of (fun _ hr => XS.aloadN X1.here hx rfl (hb hby d1_33) rfl rfl hr) ?_
  show OwnR _ _ _ _ _ _ _ (T1.setTop (mkF m 34 #[.val (.ref a1), .val (.ref a2), .val (.ref a3), .val .null, .val (.int (2 : Int32))] [(.ref a2), (.int (2 : Int32))]))
  obtain ⟨cl8, Ar8, -, S8, N8, -, -⟩ := id V_a2
  refine OwnR.of (X1.arraylength hx (by rw [e1]; exact Ar8.1) (State.isArrayOf_alike hZ.alike Ar8.2.1) (g := (mkF m 34 #[.val (.ref a1), .val (.ref a2), .val (.ref a3), .val .null, .val (.int (2 : Int32))] [(.ref a2), (.int (2 : Int32))])) rfl rfl (hb hby d1_34)) ?_
  show OwnR _ _ _ _ _ _ _ (T1.setTop (mkF m 35 #[.val (.ref a1), .val (.ref a2), .val (.ref a3), .val .null, .val (.int (2 : Int32))] [(.int cl8.slots.size.toInt32), (.int (2 : Int32))]))
  rw [len_of S8 N8]
  show OwnR _ _ _ _ _ _ _ (T1.setTop (mkF m 35 #[.val (.ref a1), .val (.ref a2), .val (.ref a3), .val .null, .val (.int (2 : Int32))] [(.int (2 : Int32)), (.int (2 : Int32))]))
  refine OwnR.of (fun _ hr => XS.icmpYes X1.here hx rfl (pc0 := 35) (pc' := 73) rfl (hb hby d1_35) rfl (flt (by decide : ¬ ((2 : Int32) < (2 : Int32)))).2.1 (by decide) (by decide) hr) ?_
  show OwnR _ _ _ _ _ _ _ (T1.setTop (mkF m 73 #[.val (.ref a1), .val (.ref a2), .val (.ref a3), .val .null, .val (.int (2 : Int32))] []))
  refine OwnR.of (fun _ hr => XS.aloadN X1.here hx rfl (hb hby d1_73) rfl rfl hr) ?_
  show OwnR _ _ _ _ _ _ _ (T1.setTop (mkF m 74 #[.val (.ref a1), .val (.ref a2), .val (.ref a3), .val .null, .val (.int (2 : Int32))] [(.ref a1)]))
  refine OwnR.of (fun _ hr => XS.aloadN X1.here hx rfl (hb hby d1_74) rfl rfl hr) ?_
  show OwnR _ _ _ _ _ _ _ (T1.setTop (mkF m 75 #[.val (.ref a1), .val (.ref a2), .val (.ref a3), .val .null, .val (.int (2 : Int32))] [(.ref a2), (.ref a1)]))
  obtain ⟨T9, h9, X9, e9, E9, V9, AE9, st9⟩ := cloneH X1 hx hZ hown (hw _ (List.mem_of_getElem? (i := 12) rfl)) (hw _ (List.mem_of_getElem? (i := 13) rfl)) (hw _ (List.mem_of_getElem? (i := 17) rfl)) (hw _ (List.mem_of_getElem? (i := 15) rfl)) (hw _ (List.mem_of_getElem? (i := 16) rfl)) (hw _ (List.mem_of_getElem? (i := 18) rfl)) e1 (Arv.arh V_a2) E_a2 (g := (mkF m 75 #[.val (.ref a1), .val (.ref a2), .val (.ref a3), .val .null, .val (.int (2 : Int32))] [(.ref a2), (.ref a1)])) rfl (by rw [hml]; rfl) rfl (hb hby d1_75) (by decide) (W := 1) (by show 2 * 0 + _ ≤ _; exact Nat.le_of_eq rfl) (by decide) (cap := 2) (by decide) (by decide) (by decide)
  obtain ⟨b9, g9⟩ : ∃ z, z = h0.size := ⟨_, rfl⟩
  rw [← g9] at V9 AE9 st9
  refine OwnR.of (st9) ?_
  have gn_b9 : n0 ≤ b9 := Nat.le_trans (Nat.le_trans Z0 (Keep.refl h0 [a1]).1) (Nat.le_of_eq g9.symm)
  have sz_b9 : h0.size ≤ b9 := Nat.le_trans (Keep.refl h0 [a1]).1 (Nat.le_of_eq g9.symm)
  have K9 : Keep h0 h9 [a1] := Keep.ext (Keep.refl h0 [a1]) E9
  have V9 : Arv Z h9 b9 k2 .int (2 : Int32) [(.int x0), (.int x1)] (.int (0 : Int32)) := V9
  show OwnR _ _ _ _ _ _ _ (T9.setTop (mkF m 78 #[.val (.ref a1), .val (.ref a2), .val (.ref a3), .val .null, .val (.int (2 : Int32))] [(.ref b9), (.ref a1)]))
  obtain ⟨T10, X10, e10, st10⟩ := castY X9 hx hZ hown (hw _ (List.mem_of_getElem? (i := 19) rfl)) e9 (Ins.self AE9) (g := (mkF m 78 #[.val (.ref a1), .val (.ref a2), .val (.ref a3), .val .null, .val (.int (2 : Int32))] [(.ref b9), (.ref a1)])) rfl rfl (hb hby d1_78)
  refine OwnR.of (st10) ?_
  show OwnR _ _ _ _ _ _ _ (T10.setTop (mkF m 81 #[.val (.ref a1), .val (.ref a2), .val (.ref a3), .val .null, .val (.int (2 : Int32))] [(.ref b9), (.ref a1)]))
  obtain ⟨T11, h11, X11, e11, W11, st11⟩ := putF X10 hx hZ hown (host := "") (Or.inl (hw _ (List.mem_of_getElem? (i := 21) rfl))) Via.refl e10 (Fld.ext E9 F_branches_a1) (Exa.keep E_a1 K9) (Or.inr ⟨(hw _ (List.mem_of_getElem? (i := 22) rfl)), rfl, hnm⟩) (hw _ (List.mem_of_getElem? (i := 4) rfl)) (ty := (.array .int)) (by decide) rfl rfl (g := (mkF m 81 #[.val (.ref a1), .val (.ref a2), .val (.ref a3), .val .null, .val (.int (2 : Int32))] [(.ref b9), (.ref a1)])) rfl rfl (hb hby d1_81)
  refine OwnR.of (st11) ?_
  have F11 := Fld.same W11 (Fld.ext E9 F_branches_a1)
  have K11 : Keep h0 h11 [a1] := Keep.wr K9 W11 (Or.inl (List.mem_of_getElem? (i := 0) rfl))
  have N11 := Fr.snoc X11 N0 g_a1
  show OwnR _ _ _ _ _ _ _ (T11.setTop (mkF m 84 #[.val (.ref a1), .val (.ref a2), .val (.ref a3), .val .null, .val (.int (2 : Int32))] []))
  refine OwnR.of (fun _ hr => XS.aloadN X11.here hx rfl (hb hby d1_84) rfl rfl hr) ?_
  show OwnR _ _ _ _ _ _ _ (T11.setTop (mkF m 85 #[.val (.ref a1), .val (.ref a2), .val (.ref a3), .val .null, .val (.int (2 : Int32))] [(.ref a1)]))
  refine OwnR.of (fun _ hr => XS.aloadN X11.here hx rfl (hb hby d1_85) rfl rfl hr) ?_
  show OwnR _ _ _ _ _ _ _ (T11.setTop (mkF m 86 #[.val (.ref a1), .val (.ref a2), .val (.ref a3), .val .null, .val (.int (2 : Int32))] [(.ref a3), (.ref a1)]))
  obtain ⟨T12, h12, X12, e12, E12, V12, AE12, st12⟩ := cloneH X11 hx hZ hown (hw _ (List.mem_of_getElem? (i := 23) rfl)) (hw _ (List.mem_of_getElem? (i := 24) rfl)) (hw _ (List.mem_of_getElem? (i := 17) rfl)) (hw _ (List.mem_of_getElem? (i := 15) rfl)) (hw _ (List.mem_of_getElem? (i := 25) rfl)) (hw _ (List.mem_of_getElem? (i := 26) rfl)) e11 (Arv.arh (Arv.keep V_a3 K11 (ninS (Ne.symm ne_13) nin0))) (Exa.keep E_a3 K11) (g := (mkF m 86 #[.val (.ref a1), .val (.ref a2), .val (.ref a3), .val .null, .val (.int (2 : Int32))] [(.ref a3), (.ref a1)])) rfl (by rw [hml]; rfl) rfl (hb hby d1_86) (by decide) (W := 1) (by show 2 * 0 + _ ≤ _; exact Nat.le_of_eq rfl) (by decide) (cap := 2) (by decide) (by decide) (by decide)
  obtain ⟨b12, g12⟩ : ∃ z, z = h11.size := ⟨_, rfl⟩
  rw [← g12] at V12 AE12 st12
  refine OwnR.of (st12) ?_
  have gn_b12 : n0 ≤ b12 := Nat.le_trans (Nat.le_trans Z0 K11.1) (Nat.le_of_eq g12.symm)
  have sz_b12 : h0.size ≤ b12 := Nat.le_trans K11.1 (Nat.le_of_eq g12.symm)
  have K12 : Keep h0 h12 [a1] := Keep.ext K11 E12
  have V12 : Arv Z h12 b12 k3 .double (2 : Int32) [(.double d0), (.double d1)] (.double (0 : UInt64)) := V12
  show OwnR _ _ _ _ _ _ _ (T12.setTop (mkF m 89 #[.val (.ref a1), .val (.ref a2), .val (.ref a3), .val .null, .val (.int (2 : Int32))] [(.ref b12), (.ref a1)]))
  obtain ⟨T13, X13, e13, st13⟩ := castY X12 hx hZ hown (hw _ (List.mem_of_getElem? (i := 27) rfl)) e12 (Ins.self AE12) (g := (mkF m 89 #[.val (.ref a1), .val (.ref a2), .val (.ref a3), .val .null, .val (.int (2 : Int32))] [(.ref b12), (.ref a1)])) rfl rfl (hb hby d1_89)
  refine OwnR.of (st13) ?_
  show OwnR _ _ _ _ _ _ _ (T13.setTop (mkF m 92 #[.val (.ref a1), .val (.ref a2), .val (.ref a3), .val .null, .val (.int (2 : Int32))] [(.ref b12), (.ref a1)]))
  obtain ⟨T14, h14, X14, e14, W14, st14⟩ := putF X13 hx hZ hown (host := "") (Or.inl (hw _ (List.mem_of_getElem? (i := 29) rfl))) Via.refl e13 (Fld.ext E12 (Fld.other W11 (Fld.ext E9 F_lengths_a1) (Or.inr (slot_ne (Or.inr (hw _ (List.mem_of_getElem? (i := 30) rfl))) (Or.inr (hw _ (List.mem_of_getElem? (i := 22) rfl))) (by decide) (t := (.array .double)) (t' := (.array .int)) (by decide) (by decide))))) (Exa.keep E_a1 K12) (Or.inr ⟨(hw _ (List.mem_of_getElem? (i := 30) rfl)), rfl, hnm⟩) (hw _ (List.mem_of_getElem? (i := 4) rfl)) (ty := (.array .double)) (by decide) rfl rfl (g := (mkF m 92 #[.val (.ref a1), .val (.ref a2), .val (.ref a3), .val .null, .val (.int (2 : Int32))] [(.ref b12), (.ref a1)])) rfl rfl (hb hby d1_92)
  refine OwnR.of (st14) ?_
  have F14 := Fld.same W14 (Fld.ext E12 (Fld.other W11 (Fld.ext E9 F_lengths_a1) (Or.inr (slot_ne (Or.inr (hw _ (List.mem_of_getElem? (i := 30) rfl))) (Or.inr (hw _ (List.mem_of_getElem? (i := 22) rfl))) (by decide) (t := (.array .double)) (t' := (.array .int)) (by decide) (by decide)))))
  have K14 : Keep h0 h14 [a1] := Keep.wr K12 W14 (Or.inl (List.mem_of_getElem? (i := 0) rfl))
  have N14 := Fr.snoc X14 N11 g_a1
  show OwnR _ _ _ _ _ _ _ (T14.setTop (mkF m 95 #[.val (.ref a1), .val (.ref a2), .val (.ref a3), .val .null, .val (.int (2 : Int32))] []))
  refine OwnR.of (fun _ hr => XS.aloadN X14.here hx rfl (hb hby d1_95) rfl rfl hr) ?_
  show OwnR _ _ _ _ _ _ _ (T14.setTop (mkF m 96 #[.val (.ref a1), .val (.ref a2), .val (.ref a3), .val .null, .val (.int (2 : Int32))] [(.ref a1)]))
  refine OwnR.of (fun _ hr => XS.aloadN X14.here hx rfl (hb hby d1_96) rfl rfl hr) ?_
  show OwnR _ _ _ _ _ _ _ (T14.setTop (mkF m 97 #[.val (.ref a1), .val (.ref a2), .val (.ref a3), .val .null, .val (.int (2 : Int32))] [.null, (.ref a1)]))
  obtain ⟨T15, h15, X15, e15, W15, st15⟩ := putF X14 hx hZ hown (host := "") (Or.inl (hw _ (List.mem_of_getElem? (i := 31) rfl))) Via.refl e14 (Fld.other W14 (Fld.ext E12 (Fld.other W11 (Fld.ext E9 F_unit_a1) (Or.inr (slot_ne (Or.inr (hw _ (List.mem_of_getElem? (i := 32) rfl))) (Or.inr (hw _ (List.mem_of_getElem? (i := 22) rfl))) (by decide) (t := (.object "java/util/Optional")) (t' := (.array .int)) (by decide) (by decide))))) (Or.inr (slot_ne (Or.inr (hw _ (List.mem_of_getElem? (i := 32) rfl))) (Or.inr (hw _ (List.mem_of_getElem? (i := 30) rfl))) (by decide) (t := (.object "java/util/Optional")) (t' := (.array .double)) (by decide) (by decide)))) (Exa.keep E_a1 K14) (Or.inr ⟨(hw _ (List.mem_of_getElem? (i := 32) rfl)), rfl, hnm⟩) (hw _ (List.mem_of_getElem? (i := 4) rfl)) (ty := (.object "java/util/Optional")) (by decide) rfl rfl (g := (mkF m 97 #[.val (.ref a1), .val (.ref a2), .val (.ref a3), .val .null, .val (.int (2 : Int32))] [.null, (.ref a1)])) rfl rfl (hb hby d1_97)
  refine OwnR.of (st15) ?_
  have F15 := Fld.same W15 (Fld.other W14 (Fld.ext E12 (Fld.other W11 (Fld.ext E9 F_unit_a1) (Or.inr (slot_ne (Or.inr (hw _ (List.mem_of_getElem? (i := 32) rfl))) (Or.inr (hw _ (List.mem_of_getElem? (i := 22) rfl))) (by decide) (t := (.object "java/util/Optional")) (t' := (.array .int)) (by decide) (by decide))))) (Or.inr (slot_ne (Or.inr (hw _ (List.mem_of_getElem? (i := 32) rfl))) (Or.inr (hw _ (List.mem_of_getElem? (i := 30) rfl))) (by decide) (t := (.object "java/util/Optional")) (t' := (.array .double)) (by decide) (by decide))))
  have K15 : Keep h0 h15 [a1] := Keep.wr K14 W15 (Or.inl (List.mem_of_getElem? (i := 0) rfl))
  have N15 := Fr.snoc X15 N14 g_a1
  show OwnR _ _ _ _ _ _ _ (T15.setTop (mkF m 100 #[.val (.ref a1), .val (.ref a2), .val (.ref a3), .val .null, .val (.int (2 : Int32))] []))
  refine own_leafV X15 hx hlk Bd.returns (hb hby d1_100) (by decide) (by decide) ?_
  show Q1_2 Z a1 k3 d0 d1 h0 n0 _ T15.heap _
  rw [show T15.heap = h15 from e15]
  refine ⟨b12, rfl, N15, ⟨K15, (Exa.keep E_a1 K15), (Fld.other W15 F14 (Or.inr (slot_ne (Or.inr (hw _ (List.mem_of_getElem? (i := 30) rfl))) (Or.inr (hw _ (List.mem_of_getElem? (i := 32) rfl))) (by decide) (t := (.array .double)) (t' := (.object "java/util/Optional")) (by decide) (by decide)))), (Arv.other (Arv.other V12 W14 (Ne.symm (Nat.ne_of_lt (Nat.lt_of_lt_of_le (Exa.keep E_a1 K11).lt (Nat.le_of_eq g12.symm))))) W15 (Ne.symm (Nat.ne_of_lt (Nat.lt_of_lt_of_le (Exa.keep E_a1 K11).lt (Nat.le_of_eq g12.symm))))), sz_b12⟩⟩
theorem ef_rm3_2 (m : MethodId) (x0 : Addr) : entryFrame m #[(.ref x0)] 8 = mkF m 0 #[.val (.ref x0), .unset, .unset, .unset, .unset, .unset, .unset, .unset] [] := by first | (simp [entryFrame, mkF, argsToLocals, Value.category]; done) | rfl
def Q3_2 (Z : State) (z0 : Int64) (z1 : Int64) (h0 : Heap) (n0 : Nat) (v : Option Value) (h : Heap) (L : List Loc) : Prop := v = some (.double (FP.l2d (((0 : Int64) + z0) + z1))) ∧ Fr n0 L ∧ h = h0
set_option maxRecDepth 65536 in
set_option maxHeartbeats 40000000 in
theorem rm3_2 (l : Launch) (Z : State) (a0 : Array Value) (hw : ∀ d ∈ tables_1, d.before a0 Z = true) (ws : List Jvm.Cond) (a1 : Addr) (a3 : Addr) (k3 : ClassId) (z0 z1 : Int64) (h0 : Heap) (n0 : Nat) (Z0 : n0 ≤ h0.size) (E_a1 : Exa Z h0 a1 "com/example/ramification/ramification/model/StrahlerOrders") (F_lengths_a1 : Fld Z h0 a1 "com/example/ramification/ramification/model/StrahlerOrders" "lengths" "[D" (.ref a3)) (V_a3 : Arv Z h0 a3 k3 .double (2 : Int32) [(.double (FP.l2d z0)), (.double (FP.l2d z1))] (.double (0 : UInt64))) (hs0 : OwnS 1 z0) (hs1 : OwnS 1 z1) :
    MetFree l (⟨"com/example/ramification/ramification/model/StrahlerOrders", "getTotalLength", "()D"⟩ : MethodName) (head1 (Jvm.Cond.code (⟨"com/example/ramification/ramification/model/StrahlerOrders", "getTotalLength", "()D"⟩ : MethodName) prog_88_method_8_code 8 (some .double) :: ws) ({ frames := 0, cells := 0, slots := 0, locals := 0 } : Room)) (fun a U => a = #[(.ref a1)] ∧ Z.Warmed39 U.vm ∧ U.heap = h0) (fun _ _ _ _ _ => True) (fun _ U o U' => ∃ v L, o = .returned v ∧ Q3_2 Z z0 z1 h0 n0 v U'.heap L ∧ FrameEnd U o U' L ({ frames := 0, cells := 0, slots := 0, locals := 0 } : Room).cells ({ frames := 0, cells := 0, slots := 0, locals := 0 } : Room).slots) := by
  refine MetFree.of_bodySF (plainFor_of_name pn_com_example_ramification_ramification_model_StrahlerOrders) hisR ?_
  intro p e s m args below meth c s₁ Bd hml0 hP hK
  obtain ⟨rfl, hZ, hh⟩ := hP
  have hx := Bd.exec
  have hby := Bd.bytes
  have hlk := BodyLoose.notSynchronized Bd
  have hml : c.maxLocals = 8 := hml0
  have hown : s.vm.findClass "com/example/ramification/ramification/model/StrahlerOrders" = some m.cls := findClass_of_methodNamed Bd.named
  have hnm := (name_of_methodNamed Bd.named Bd.method).1
  have X0 : Stand p l e ({ frames := 0, cells := 0, slots := 0, locals := 0 } : Room) s m #[(.ref a1)] below meth c s₁ [] 0 0 := Stand.of_body Bd
  have e0 : s₁.heap = h0 := by rw [← hh, Bd.state]; rfl
  have N0 := Fr.nil n0
  refine OwnR.of (s := s) (Q := Q3_2 Z z0 z1 h0 n0) (fun t k => castTop (ef_rm3_2 m a1) k) ?_
  show OwnR _ _ _ _ _ _ _ (s₁.setTop (mkF m 0 #[.val (.ref a1), .unset, .unset, .unset, .unset, .unset, .unset, .unset] []))
  refine OwnR.of (fun _ hr => XS.dconst0 X0.here hx rfl (hb hby d3_0) (v := (FP.l2d (0 : Int64))) (by decide +kernel) hr) ?_
  show OwnR _ _ _ _ _ _ _ (s₁.setTop (mkF m 1 #[.val (.ref a1), .unset, .unset, .unset, .unset, .unset, .unset, .unset] [(.double (FP.l2d (0 : Int64)))]))
  refine OwnR.of (fun _ hr => XS.dstoreN X0.here hx rfl (hb hby d3_1) rfl (l' := #[.val (.ref a1), .val (.double (FP.l2d (0 : Int64))), .second, .unset, .unset, .unset, .unset, .unset]) rfl hr) ?_
  show OwnR _ _ _ _ _ _ _ (s₁.setTop (mkF m 2 #[.val (.ref a1), .val (.double (FP.l2d (0 : Int64))), .second, .unset, .unset, .unset, .unset, .unset] []))
  refine OwnR.of (fun _ hr => XS.aloadN X0.here hx rfl (hb hby d3_2) rfl rfl hr) ?_
  show OwnR _ _ _ _ _ _ _ (s₁.setTop (mkF m 3 #[.val (.ref a1), .val (.double (FP.l2d (0 : Int64))), .second, .unset, .unset, .unset, .unset, .unset] [(.ref a1)]))
  obtain ⟨T1, X1, e1, st1⟩ := getF X0 hx hZ hown (host := "") (Or.inl (hw _ (List.mem_of_getElem? (i := 29) rfl))) Via.refl e0 F_lengths_a1 (g := (mkF m 3 #[.val (.ref a1), .val (.double (FP.l2d (0 : Int64))), .second, .unset, .unset, .unset, .unset, .unset] [(.ref a1)])) rfl rfl (hb hby d3_3)
  refine OwnR.of (st1) ?_
  show OwnR _ _ _ _ _ _ _ (T1.setTop (mkF m 6 #[.val (.ref a1), .val (.double (FP.l2d (0 : Int64))), .second, .unset, .unset, .unset, .unset, .unset] [(.ref a3)]))
  refine OwnR.of (fun _ hr => XS.astoreN X1.here hx rfl (hb hby d3_6) rfl rfl (l' := #[.val (.ref a1), .val (.double (FP.l2d (0 : Int64))), .second, .val (.ref a3), .unset, .unset, .unset, .unset]) rfl hr) ?_
  show OwnR _ _ _ _ _ _ _ (T1.setTop (mkF m 7 #[.val (.ref a1), .val (.double (FP.l2d (0 : Int64))), .second, .val (.ref a3), .unset, .unset, .unset, .unset] []))
  refine OwnR.of (fun _ hr => XS.aloadN X1.here hx rfl (hb hby d3_7) rfl rfl hr) ?_
  show OwnR _ _ _ _ _ _ _ (T1.setTop (mkF m 8 #[.val (.ref a1), .val (.double (FP.l2d (0 : Int64))), .second, .val (.ref a3), .unset, .unset, .unset, .unset] [(.ref a3)]))
  obtain ⟨cl2, Ar2, -, S2, N2, -, -⟩ := id V_a3
  refine OwnR.of (X1.arraylength hx (by rw [e1]; exact Ar2.1) (State.isArrayOf_alike hZ.alike Ar2.2.1) (g := (mkF m 8 #[.val (.ref a1), .val (.double (FP.l2d (0 : Int64))), .second, .val (.ref a3), .unset, .unset, .unset, .unset] [(.ref a3)])) rfl rfl (hb hby d3_8)) ?_
  show OwnR _ _ _ _ _ _ _ (T1.setTop (mkF m 9 #[.val (.ref a1), .val (.double (FP.l2d (0 : Int64))), .second, .val (.ref a3), .unset, .unset, .unset, .unset] [(.int cl2.slots.size.toInt32)]))
  rw [len_of S2 N2]
  show OwnR _ _ _ _ _ _ _ (T1.setTop (mkF m 9 #[.val (.ref a1), .val (.double (FP.l2d (0 : Int64))), .second, .val (.ref a3), .unset, .unset, .unset, .unset] [(.int (2 : Int32))]))
  refine OwnR.of (fun _ hr => XS.istore X1.here hx rfl (hb hby d3_9) rfl (l' := #[.val (.ref a1), .val (.double (FP.l2d (0 : Int64))), .second, .val (.ref a3), .val (.int (2 : Int32)), .unset, .unset, .unset]) rfl hr) ?_
  show OwnR _ _ _ _ _ _ _ (T1.setTop (mkF m 11 #[.val (.ref a1), .val (.double (FP.l2d (0 : Int64))), .second, .val (.ref a3), .val (.int (2 : Int32)), .unset, .unset, .unset] []))
  refine OwnR.of (fun _ hr => XS.iconst X1.here hx rfl (hb hby d3_11) hr) ?_
  show OwnR _ _ _ _ _ _ _ (T1.setTop (mkF m 12 #[.val (.ref a1), .val (.double (FP.l2d (0 : Int64))), .second, .val (.ref a3), .val (.int (2 : Int32)), .unset, .unset, .unset] [(.int (0 : Int32))]))
  refine OwnR.of (fun _ hr => XS.istore X1.here hx rfl (hb hby d3_12) rfl (l' := #[.val (.ref a1), .val (.double (FP.l2d (0 : Int64))), .second, .val (.ref a3), .val (.int (2 : Int32)), .val (.int (0 : Int32)), .unset, .unset]) rfl hr) ?_
  show OwnR _ _ _ _ _ _ _ (T1.setTop (mkF m 14 #[.val (.ref a1), .val (.double (FP.l2d (0 : Int64))), .second, .val (.ref a3), .val (.int (2 : Int32)), .val (.int (0 : Int32)), .unset, .unset] []))
  refine OwnR.of (fun _ hr => XS.iload X1.here hx rfl (hb hby d3_14) rfl hr) ?_
  show OwnR _ _ _ _ _ _ _ (T1.setTop (mkF m 16 #[.val (.ref a1), .val (.double (FP.l2d (0 : Int64))), .second, .val (.ref a3), .val (.int (2 : Int32)), .val (.int (0 : Int32)), .unset, .unset] [(.int (0 : Int32))]))
  refine OwnR.of (fun _ hr => XS.iload X1.here hx rfl (hb hby d3_16) rfl hr) ?_
  show OwnR _ _ _ _ _ _ _ (T1.setTop (mkF m 18 #[.val (.ref a1), .val (.double (FP.l2d (0 : Int64))), .second, .val (.ref a3), .val (.int (2 : Int32)), .val (.int (0 : Int32)), .unset, .unset] [(.int (2 : Int32)), (.int (0 : Int32))]))
  refine OwnR.of (fun _ hr => XS.icmpNo X1.here hx rfl (hb hby d3_18) rfl (tlt (by decide : (0 : Int32) < (2 : Int32))).2.1 hr) ?_
  show OwnR _ _ _ _ _ _ _ (T1.setTop (mkF m 21 #[.val (.ref a1), .val (.double (FP.l2d (0 : Int64))), .second, .val (.ref a3), .val (.int (2 : Int32)), .val (.int (0 : Int32)), .unset, .unset] []))
  refine OwnR.of (fun _ hr => XS.aloadN X1.here hx rfl (hb hby d3_21) rfl rfl hr) ?_
  show OwnR _ _ _ _ _ _ _ (T1.setTop (mkF m 22 #[.val (.ref a1), .val (.double (FP.l2d (0 : Int64))), .second, .val (.ref a3), .val (.int (2 : Int32)), .val (.int (0 : Int32)), .unset, .unset] [(.ref a3)]))
  refine OwnR.of (fun _ hr => XS.iload X1.here hx rfl (hb hby d3_22) rfl hr) ?_
  show OwnR _ _ _ _ _ _ _ (T1.setTop (mkF m 24 #[.val (.ref a1), .val (.double (FP.l2d (0 : Int64))), .second, .val (.ref a3), .val (.int (2 : Int32)), .val (.int (0 : Int32)), .unset, .unset] [(.int (0 : Int32)), (.ref a3)]))
  obtain ⟨cl3, Ar3, -, S3, N3, H3, G3⟩ := id V_a3
  have hin3 : ¬ ((0 : Int32) < 0 ∨ cl3.slots.size ≤ ((0 : Int32)).toNatClampNeg) := (inb_of S3 ⟨by decide, by decide⟩)
  refine OwnR.of (X1.daload hx (j := (0 : Int32)) (v := (.double (FP.l2d z0))) (by rw [e1]; exact Ar3.1) (State.isArrayOf_alike hZ.alike Ar3.2.1) Ar3.2.2 hin3 (Has.at H3 hin3 rfl) (g := (mkF m 24 #[.val (.ref a1), .val (.double (FP.l2d (0 : Int64))), .second, .val (.ref a3), .val (.int (2 : Int32)), .val (.int (0 : Int32)), .unset, .unset] [(.int (0 : Int32)), (.ref a3)])) rfl rfl (hb hby d3_24)) ?_
  show OwnR _ _ _ _ _ _ _ (T1.setTop (mkF m 25 #[.val (.ref a1), .val (.double (FP.l2d (0 : Int64))), .second, .val (.ref a3), .val (.int (2 : Int32)), .val (.int (0 : Int32)), .unset, .unset] [(.double (FP.l2d z0))]))
  refine OwnR.of (fun _ hr => XS.dstore X1.here hx rfl (hb hby d3_25) rfl (l' := #[.val (.ref a1), .val (.double (FP.l2d (0 : Int64))), .second, .val (.ref a3), .val (.int (2 : Int32)), .val (.int (0 : Int32)), .val (.double (FP.l2d z0)), .second]) rfl hr) ?_
  show OwnR _ _ _ _ _ _ _ (T1.setTop (mkF m 27 #[.val (.ref a1), .val (.double (FP.l2d (0 : Int64))), .second, .val (.ref a3), .val (.int (2 : Int32)), .val (.int (0 : Int32)), .val (.double (FP.l2d z0)), .second] []))
  refine OwnR.of (fun _ hr => XS.dloadN X1.here hx rfl (hb hby d3_27) rfl hr) ?_
  show OwnR _ _ _ _ _ _ _ (T1.setTop (mkF m 28 #[.val (.ref a1), .val (.double (FP.l2d (0 : Int64))), .second, .val (.ref a3), .val (.int (2 : Int32)), .val (.int (0 : Int32)), .val (.double (FP.l2d z0)), .second] [(.double (FP.l2d (0 : Int64)))]))
  refine OwnR.of (fun _ hr => XS.dload X1.here hx rfl (hb hby d3_28) rfl hr) ?_
  show OwnR _ _ _ _ _ _ _ (T1.setTop (mkF m 30 #[.val (.ref a1), .val (.double (FP.l2d (0 : Int64))), .second, .val (.ref a3), .val (.int (2 : Int32)), .val (.int (0 : Int32)), .val (.double (FP.l2d z0)), .second] [(.double (FP.l2d z0)), (.double (FP.l2d (0 : Int64)))]))
  refine OwnR.of (fun _ hr => XS.daddS X1.here hx rfl (hb hby d3_30) rfl (nn_w (dadd_w (own_b own_s0 (by decide) (by decide)) (own_b hs0 (by decide) (by decide)))) (dadd_w (own_b own_s0 (by decide) (by decide)) (own_b hs0 (by decide) (by decide))) hr) ?_
  show OwnR _ _ _ _ _ _ _ (T1.setTop (mkF m 31 #[.val (.ref a1), .val (.double (FP.l2d (0 : Int64))), .second, .val (.ref a3), .val (.int (2 : Int32)), .val (.int (0 : Int32)), .val (.double (FP.l2d z0)), .second] [(.double (FP.l2d ((0 : Int64) + z0)))]))
  refine OwnR.of (fun _ hr => XS.dstoreN X1.here hx rfl (hb hby d3_31) rfl (l' := #[.val (.ref a1), .val (.double (FP.l2d ((0 : Int64) + z0))), .second, .val (.ref a3), .val (.int (2 : Int32)), .val (.int (0 : Int32)), .val (.double (FP.l2d z0)), .second]) rfl hr) ?_
  show OwnR _ _ _ _ _ _ _ (T1.setTop (mkF m 32 #[.val (.ref a1), .val (.double (FP.l2d ((0 : Int64) + z0))), .second, .val (.ref a3), .val (.int (2 : Int32)), .val (.int (0 : Int32)), .val (.double (FP.l2d z0)), .second] []))
  refine OwnR.of (fun _ hr => XS.iinc X1.here hx rfl (hb hby d3_32) rfl (l' := #[.val (.ref a1), .val (.double (FP.l2d ((0 : Int64) + z0))), .second, .val (.ref a3), .val (.int (2 : Int32)), .val (.int ((0 : Int32) + (1 : Int32))), .val (.double (FP.l2d z0)), .second]) rfl hr) ?_
  show OwnR _ _ _ _ _ _ _ (T1.setTop (mkF m 35 #[.val (.ref a1), .val (.double (FP.l2d ((0 : Int64) + z0))), .second, .val (.ref a3), .val (.int (2 : Int32)), .val (.int ((0 : Int32) + (1 : Int32))), .val (.double (FP.l2d z0)), .second] []))
  rw [(by decide : ((0 : Int32) + (1 : Int32)) = (1 : Int32))]
  show OwnR _ _ _ _ _ _ _ (T1.setTop (mkF m 35 #[.val (.ref a1), .val (.double (FP.l2d ((0 : Int64) + z0))), .second, .val (.ref a3), .val (.int (2 : Int32)), .val (.int (1 : Int32)), .val (.double (FP.l2d z0)), .second] []))
  refine OwnR.of (fun _ hr => XS.goto X1.here hx rfl (pc0 := 35) (pc' := 14) rfl (hb hby d3_35) (by decide) (by decide) hr) ?_
  show OwnR _ _ _ _ _ _ _ (T1.setTop (mkF m 14 #[.val (.ref a1), .val (.double (FP.l2d ((0 : Int64) + z0))), .second, .val (.ref a3), .val (.int (2 : Int32)), .val (.int (1 : Int32)), .val (.double (FP.l2d z0)), .second] []))
  refine OwnR.of (fun _ hr => XS.iload X1.here hx rfl (hb hby d3_14) rfl hr) ?_
  show OwnR _ _ _ _ _ _ _ (T1.setTop (mkF m 16 #[.val (.ref a1), .val (.double (FP.l2d ((0 : Int64) + z0))), .second, .val (.ref a3), .val (.int (2 : Int32)), .val (.int (1 : Int32)), .val (.double (FP.l2d z0)), .second] [(.int (1 : Int32))]))
  refine OwnR.of (fun _ hr => XS.iload X1.here hx rfl (hb hby d3_16) rfl hr) ?_
  show OwnR _ _ _ _ _ _ _ (T1.setTop (mkF m 18 #[.val (.ref a1), .val (.double (FP.l2d ((0 : Int64) + z0))), .second, .val (.ref a3), .val (.int (2 : Int32)), .val (.int (1 : Int32)), .val (.double (FP.l2d z0)), .second] [(.int (2 : Int32)), (.int (1 : Int32))]))
  refine OwnR.of (fun _ hr => XS.icmpNo X1.here hx rfl (hb hby d3_18) rfl (tlt (by decide : (1 : Int32) < (2 : Int32))).2.1 hr) ?_
  show OwnR _ _ _ _ _ _ _ (T1.setTop (mkF m 21 #[.val (.ref a1), .val (.double (FP.l2d ((0 : Int64) + z0))), .second, .val (.ref a3), .val (.int (2 : Int32)), .val (.int (1 : Int32)), .val (.double (FP.l2d z0)), .second] []))
  refine OwnR.of (fun _ hr => XS.aloadN X1.here hx rfl (hb hby d3_21) rfl rfl hr) ?_
  show OwnR _ _ _ _ _ _ _ (T1.setTop (mkF m 22 #[.val (.ref a1), .val (.double (FP.l2d ((0 : Int64) + z0))), .second, .val (.ref a3), .val (.int (2 : Int32)), .val (.int (1 : Int32)), .val (.double (FP.l2d z0)), .second] [(.ref a3)]))
  refine OwnR.of (fun _ hr => XS.iload X1.here hx rfl (hb hby d3_22) rfl hr) ?_
  show OwnR _ _ _ _ _ _ _ (T1.setTop (mkF m 24 #[.val (.ref a1), .val (.double (FP.l2d ((0 : Int64) + z0))), .second, .val (.ref a3), .val (.int (2 : Int32)), .val (.int (1 : Int32)), .val (.double (FP.l2d z0)), .second] [(.int (1 : Int32)), (.ref a3)]))
  obtain ⟨cl4, Ar4, -, S4, N4, H4, G4⟩ := id V_a3
  have hin4 : ¬ ((1 : Int32) < 0 ∨ cl4.slots.size ≤ ((1 : Int32)).toNatClampNeg) := (inb_of S4 ⟨by decide, by decide⟩)
  refine OwnR.of (X1.daload hx (j := (1 : Int32)) (v := (.double (FP.l2d z1))) (by rw [e1]; exact Ar4.1) (State.isArrayOf_alike hZ.alike Ar4.2.1) Ar4.2.2 hin4 (Has.at H4 hin4 rfl) (g := (mkF m 24 #[.val (.ref a1), .val (.double (FP.l2d ((0 : Int64) + z0))), .second, .val (.ref a3), .val (.int (2 : Int32)), .val (.int (1 : Int32)), .val (.double (FP.l2d z0)), .second] [(.int (1 : Int32)), (.ref a3)])) rfl rfl (hb hby d3_24)) ?_
  show OwnR _ _ _ _ _ _ _ (T1.setTop (mkF m 25 #[.val (.ref a1), .val (.double (FP.l2d ((0 : Int64) + z0))), .second, .val (.ref a3), .val (.int (2 : Int32)), .val (.int (1 : Int32)), .val (.double (FP.l2d z0)), .second] [(.double (FP.l2d z1))]))
  refine OwnR.of (fun _ hr => XS.dstore X1.here hx rfl (hb hby d3_25) rfl (l' := #[.val (.ref a1), .val (.double (FP.l2d ((0 : Int64) + z0))), .second, .val (.ref a3), .val (.int (2 : Int32)), .val (.int (1 : Int32)), .val (.double (FP.l2d z1)), .second]) rfl hr) ?_
  show OwnR _ _ _ _ _ _ _ (T1.setTop (mkF m 27 #[.val (.ref a1), .val (.double (FP.l2d ((0 : Int64) + z0))), .second, .val (.ref a3), .val (.int (2 : Int32)), .val (.int (1 : Int32)), .val (.double (FP.l2d z1)), .second] []))
  refine OwnR.of (fun _ hr => XS.dloadN X1.here hx rfl (hb hby d3_27) rfl hr) ?_
  show OwnR _ _ _ _ _ _ _ (T1.setTop (mkF m 28 #[.val (.ref a1), .val (.double (FP.l2d ((0 : Int64) + z0))), .second, .val (.ref a3), .val (.int (2 : Int32)), .val (.int (1 : Int32)), .val (.double (FP.l2d z1)), .second] [(.double (FP.l2d ((0 : Int64) + z0)))]))
  refine OwnR.of (fun _ hr => XS.dload X1.here hx rfl (hb hby d3_28) rfl hr) ?_
  show OwnR _ _ _ _ _ _ _ (T1.setTop (mkF m 30 #[.val (.ref a1), .val (.double (FP.l2d ((0 : Int64) + z0))), .second, .val (.ref a3), .val (.int (2 : Int32)), .val (.int (1 : Int32)), .val (.double (FP.l2d z1)), .second] [(.double (FP.l2d z1)), (.double (FP.l2d ((0 : Int64) + z0)))]))
  refine OwnR.of (fun _ hr => XS.daddS X1.here hx rfl (hb hby d3_30) rfl (nn_w (dadd_w (own_b (own_sa own_s0 hs0 (by decide) (by decide)) (by decide) (by decide)) (own_b hs1 (by decide) (by decide)))) (dadd_w (own_b (own_sa own_s0 hs0 (by decide) (by decide)) (by decide) (by decide)) (own_b hs1 (by decide) (by decide))) hr) ?_
  show OwnR _ _ _ _ _ _ _ (T1.setTop (mkF m 31 #[.val (.ref a1), .val (.double (FP.l2d ((0 : Int64) + z0))), .second, .val (.ref a3), .val (.int (2 : Int32)), .val (.int (1 : Int32)), .val (.double (FP.l2d z1)), .second] [(.double (FP.l2d (((0 : Int64) + z0) + z1)))]))
  refine OwnR.of (fun _ hr => XS.dstoreN X1.here hx rfl (hb hby d3_31) rfl (l' := #[.val (.ref a1), .val (.double (FP.l2d (((0 : Int64) + z0) + z1))), .second, .val (.ref a3), .val (.int (2 : Int32)), .val (.int (1 : Int32)), .val (.double (FP.l2d z1)), .second]) rfl hr) ?_
  show OwnR _ _ _ _ _ _ _ (T1.setTop (mkF m 32 #[.val (.ref a1), .val (.double (FP.l2d (((0 : Int64) + z0) + z1))), .second, .val (.ref a3), .val (.int (2 : Int32)), .val (.int (1 : Int32)), .val (.double (FP.l2d z1)), .second] []))
  refine OwnR.of (fun _ hr => XS.iinc X1.here hx rfl (hb hby d3_32) rfl (l' := #[.val (.ref a1), .val (.double (FP.l2d (((0 : Int64) + z0) + z1))), .second, .val (.ref a3), .val (.int (2 : Int32)), .val (.int ((1 : Int32) + (1 : Int32))), .val (.double (FP.l2d z1)), .second]) rfl hr) ?_
  show OwnR _ _ _ _ _ _ _ (T1.setTop (mkF m 35 #[.val (.ref a1), .val (.double (FP.l2d (((0 : Int64) + z0) + z1))), .second, .val (.ref a3), .val (.int (2 : Int32)), .val (.int ((1 : Int32) + (1 : Int32))), .val (.double (FP.l2d z1)), .second] []))
  rw [(by decide : ((1 : Int32) + (1 : Int32)) = (2 : Int32))]
  show OwnR _ _ _ _ _ _ _ (T1.setTop (mkF m 35 #[.val (.ref a1), .val (.double (FP.l2d (((0 : Int64) + z0) + z1))), .second, .val (.ref a3), .val (.int (2 : Int32)), .val (.int (2 : Int32)), .val (.double (FP.l2d z1)), .second] []))
  refine OwnR.of (fun _ hr => XS.goto X1.here hx rfl (pc0 := 35) (pc' := 14) rfl (hb hby d3_35) (by decide) (by decide) hr) ?_
  show OwnR _ _ _ _ _ _ _ (T1.setTop (mkF m 14 #[.val (.ref a1), .val (.double (FP.l2d (((0 : Int64) + z0) + z1))), .second, .val (.ref a3), .val (.int (2 : Int32)), .val (.int (2 : Int32)), .val (.double (FP.l2d z1)), .second] []))
  refine OwnR.of (fun _ hr => XS.iload X1.here hx rfl (hb hby d3_14) rfl hr) ?_
  show OwnR _ _ _ _ _ _ _ (T1.setTop (mkF m 16 #[.val (.ref a1), .val (.double (FP.l2d (((0 : Int64) + z0) + z1))), .second, .val (.ref a3), .val (.int (2 : Int32)), .val (.int (2 : Int32)), .val (.double (FP.l2d z1)), .second] [(.int (2 : Int32))]))
  refine OwnR.of (fun _ hr => XS.iload X1.here hx rfl (hb hby d3_16) rfl hr) ?_
  show OwnR _ _ _ _ _ _ _ (T1.setTop (mkF m 18 #[.val (.ref a1), .val (.double (FP.l2d (((0 : Int64) + z0) + z1))), .second, .val (.ref a3), .val (.int (2 : Int32)), .val (.int (2 : Int32)), .val (.double (FP.l2d z1)), .second] [(.int (2 : Int32)), (.int (2 : Int32))]))
  refine OwnR.of (fun _ hr => XS.icmpYes X1.here hx rfl (pc0 := 18) (pc' := 38) rfl (hb hby d3_18) rfl (flt (by decide : ¬ ((2 : Int32) < (2 : Int32)))).2.1 (by decide) (by decide) hr) ?_
  show OwnR _ _ _ _ _ _ _ (T1.setTop (mkF m 38 #[.val (.ref a1), .val (.double (FP.l2d (((0 : Int64) + z0) + z1))), .second, .val (.ref a3), .val (.int (2 : Int32)), .val (.int (2 : Int32)), .val (.double (FP.l2d z1)), .second] []))
  refine OwnR.of (fun _ hr => XS.dloadN X1.here hx rfl (hb hby d3_38) rfl hr) ?_
  show OwnR _ _ _ _ _ _ _ (T1.setTop (mkF m 39 #[.val (.ref a1), .val (.double (FP.l2d (((0 : Int64) + z0) + z1))), .second, .val (.ref a3), .val (.int (2 : Int32)), .val (.int (2 : Int32)), .val (.double (FP.l2d z1)), .second] [(.double (FP.l2d (((0 : Int64) + z0) + z1)))]))
  refine own_leafD X1 hx hlk Bd.returns (hb hby d3_39) (by decide) (by decide) ?_
  show Q3_2 Z z0 z1 h0 n0 _ T1.heap _
  rw [show T1.heap = h0 from e1]
  refine ⟨?_, N0, rfl⟩
  show (some (.double (FP.l2d (((0 : Int64) + z0) + z1))) : Option Value) = some (.double (FP.l2d (((0 : Int64) + z0) + z1)))
  rfl
theorem ef_rm1_3 (m : MethodId) (x0 : Addr) (x1 : Addr) (x2 : Addr) : entryFrame m #[(.ref x0), (.ref x1), (.ref x2), .null] 5 = mkF m 0 #[.val (.ref x0), .val (.ref x1), .val (.ref x2), .val .null, .unset] [] := by first | (simp [entryFrame, mkF, argsToLocals, Value.category]; done) | rfl
def Q1_3 (Z : State) (a1 : Addr) (k3 : ClassId) (d0 : UInt64) (d1 : UInt64) (d2 : UInt64) (h0 : Heap) (n0 : Nat) (v : Option Value) (h : Heap) (L : List Loc) : Prop := ∃ (bD : Addr), v = none ∧ Fr n0 L ∧ Keep h0 h [a1] ∧ Exa Z h a1 "com/example/ramification/ramification/model/StrahlerOrders" ∧ Fld Z h a1 "com/example/ramification/ramification/model/StrahlerOrders" "lengths" "[D" (.ref bD) ∧ Arv Z h bD k3 .double (3 : Int32) [(.double d0), (.double d1), (.double d2)] (.double (0 : UInt64)) ∧ h0.size ≤ bD
set_option maxRecDepth 65536 in
set_option maxHeartbeats 40000000 in
theorem rm1_3 (l : Launch) (Z : State) (a0 : Array Value) (hw : ∀ d ∈ tables_1, d.before a0 Z = true) (ws : List Jvm.Cond) (a1 : Addr) (a2 : Addr) (a3 : Addr) (k2 k3 : ClassId) (x0 x1 x2 : Int32) (d0 d1 d2 : UInt64) (h0 : Heap) (n0 : Nat) (Z0 : n0 ≤ h0.size) (E_a1 : Exa Z h0 a1 "com/example/ramification/ramification/model/StrahlerOrders") (F_branches_a1 : Fld Z h0 a1 "com/example/ramification/ramification/model/StrahlerOrders" "branches" "[I" .null) (F_lengths_a1 : Fld Z h0 a1 "com/example/ramification/ramification/model/StrahlerOrders" "lengths" "[D" .null) (F_unit_a1 : Fld Z h0 a1 "com/example/ramification/ramification/model/StrahlerOrders" "unit" "Ljava/util/Optional;" .null) (V_a2 : Arv Z h0 a2 k2 .int (3 : Int32) [(.int x0), (.int x1), (.int x2)] (.int (0 : Int32))) (V_a3 : Arv Z h0 a3 k3 .double (3 : Int32) [(.double d0), (.double d1), (.double d2)] (.double (0 : UInt64))) (E_a2 : Exa Z h0 a2 "[I") (E_a3 : Exa Z h0 a3 "[D") (g_a1 : n0 ≤ a1) (ne_12 : a1 ≠ a2) (ne_13 : a1 ≠ a3) (hx0 : ¬ (x0 < (1 : Int32))) (hx1 : ¬ (x1 < (1 : Int32))) (hx2 : ¬ (x2 < (1 : Int32))) :
    MetFree l (⟨"com/example/ramification/ramification/model/StrahlerOrders", "<init>", "([I[DLjava/util/Optional;)V"⟩ : MethodName) (head1 (Jvm.Cond.code (⟨"com/example/ramification/ramification/model/StrahlerOrders", "<init>", "([I[DLjava/util/Optional;)V"⟩ : MethodName) prog_88_method_1_code 5 none :: ws) ({ frames := 1, cells := 2, slots := 6, locals := 18 } : Room)) (fun a U => a = #[(.ref a1), (.ref a2), (.ref a3), .null] ∧ Z.Warmed39 U.vm ∧ U.heap = h0) (fun _ _ _ _ _ => True) (fun _ U o U' => ∃ v L, o = .returned v ∧ Q1_3 Z a1 k3 d0 d1 d2 h0 n0 v U'.heap L ∧ FrameEnd U o U' L ({ frames := 1, cells := 2, slots := 6, locals := 18 } : Room).cells ({ frames := 1, cells := 2, slots := 6, locals := 18 } : Room).slots) := by
  refine MetFree.of_bodySF (plainFor_of_name pn_com_example_ramification_ramification_model_StrahlerOrders) hisR ?_
  intro p e s m args below meth c s₁ Bd hml0 hP hK
  obtain ⟨rfl, hZ, hh⟩ := hP
  have hx := Bd.exec
  have hby := Bd.bytes
  have hlk := BodyLoose.notSynchronized Bd
  have hml : c.maxLocals = 5 := hml0
  have hown : s.vm.findClass "com/example/ramification/ramification/model/StrahlerOrders" = some m.cls := findClass_of_methodNamed Bd.named
  have hnm := (name_of_methodNamed Bd.named Bd.method).1
  have X0 : Stand p l e ({ frames := 1, cells := 2, slots := 6, locals := 18 } : Room) s m #[(.ref a1), (.ref a2), (.ref a3), .null] below meth c s₁ [] 0 0 := Stand.of_body Bd
  have e0 : s₁.heap = h0 := by rw [← hh, Bd.state]; rfl
  have N0 := Fr.nil n0
  refine OwnR.of (s := s) (Q := Q1_3 Z a1 k3 d0 d1 d2 h0 n0) (fun t k => castTop (ef_rm1_3 m a1 a2 a3) k) ?_
  show OwnR _ _ _ _ _ _ _ (s₁.setTop (mkF m 0 #[.val (.ref a1), .val (.ref a2), .val (.ref a3), .val .null, .unset] []))
  refine OwnR.of (fun _ hr => XS.aloadN X0.here hx rfl (hb hby d1_0) rfl rfl hr) ?_
  show OwnR _ _ _ _ _ _ _ (s₁.setTop (mkF m 1 #[.val (.ref a1), .val (.ref a2), .val (.ref a3), .val .null, .unset] [(.ref a1)]))
  obtain ⟨T1, X1, e1, st1⟩ := initO X0 hx hZ hown (hw _ (List.mem_of_getElem? (i := 9) rfl)) (hw _ (List.mem_of_getElem? (i := 10) rfl)) (hw _ (List.mem_of_getElem? (i := 11) rfl)) e0 (g := (mkF m 1 #[.val (.ref a1), .val (.ref a2), .val (.ref a3), .val .null, .unset] [(.ref a1)])) rfl (by rw [hml]; rfl) rfl (hb hby d1_1) (by decide) (W := 0) (by show 2 * 0 + _ ≤ _; exact Nat.le_of_eq rfl) (by decide)
  refine OwnR.of (st1) ?_
  show OwnR _ _ _ _ _ _ _ (T1.setTop (mkF m 4 #[.val (.ref a1), .val (.ref a2), .val (.ref a3), .val .null, .unset] []))
  refine OwnR.of (fun _ hr => XS.aloadN X1.here hx rfl (hb hby d1_4) rfl rfl hr) ?_
  show OwnR _ _ _ _ _ _ _ (T1.setTop (mkF m 5 #[.val (.ref a1), .val (.ref a2), .val (.ref a3), .val .null, .unset] [(.ref a2)]))
  obtain ⟨cl2, Ar2, -, S2, N2, -, -⟩ := id V_a2
  refine OwnR.of (X1.arraylength hx (by rw [e1]; exact Ar2.1) (State.isArrayOf_alike hZ.alike Ar2.2.1) (g := (mkF m 5 #[.val (.ref a1), .val (.ref a2), .val (.ref a3), .val .null, .unset] [(.ref a2)])) rfl rfl (hb hby d1_5)) ?_
  show OwnR _ _ _ _ _ _ _ (T1.setTop (mkF m 6 #[.val (.ref a1), .val (.ref a2), .val (.ref a3), .val .null, .unset] [(.int cl2.slots.size.toInt32)]))
  rw [len_of S2 N2]
  show OwnR _ _ _ _ _ _ _ (T1.setTop (mkF m 6 #[.val (.ref a1), .val (.ref a2), .val (.ref a3), .val .null, .unset] [(.int (3 : Int32))]))
  refine OwnR.of (fun _ hr => XS.aloadN X1.here hx rfl (hb hby d1_6) rfl rfl hr) ?_
  show OwnR _ _ _ _ _ _ _ (T1.setTop (mkF m 7 #[.val (.ref a1), .val (.ref a2), .val (.ref a3), .val .null, .unset] [(.ref a3), (.int (3 : Int32))]))
  obtain ⟨cl3, Ar3, -, S3, N3, -, -⟩ := id V_a3
  refine OwnR.of (X1.arraylength hx (by rw [e1]; exact Ar3.1) (State.isArrayOf_alike hZ.alike Ar3.2.1) (g := (mkF m 7 #[.val (.ref a1), .val (.ref a2), .val (.ref a3), .val .null, .unset] [(.ref a3), (.int (3 : Int32))])) rfl rfl (hb hby d1_7)) ?_
  show OwnR _ _ _ _ _ _ _ (T1.setTop (mkF m 8 #[.val (.ref a1), .val (.ref a2), .val (.ref a3), .val .null, .unset] [(.int cl3.slots.size.toInt32), (.int (3 : Int32))]))
  rw [len_of S3 N3]
  show OwnR _ _ _ _ _ _ _ (T1.setTop (mkF m 8 #[.val (.ref a1), .val (.ref a2), .val (.ref a3), .val .null, .unset] [(.int (3 : Int32)), (.int (3 : Int32))]))
  refine OwnR.of (fun _ hr => XS.icmpYes X1.here hx rfl (pc0 := 8) (pc' := 28) rfl (hb hby d1_8) rfl (teq (by decide : (3 : Int32) = (3 : Int32))).1 (by decide) (by decide) hr) ?_
  show OwnR _ _ _ _ _ _ _ (T1.setTop (mkF m 28 #[.val (.ref a1), .val (.ref a2), .val (.ref a3), .val .null, .unset] []))
  refine OwnR.of (fun _ hr => XS.iconst X1.here hx rfl (hb hby d1_28) hr) ?_
  show OwnR _ _ _ _ _ _ _ (T1.setTop (mkF m 29 #[.val (.ref a1), .val (.ref a2), .val (.ref a3), .val .null, .unset] [(.int (0 : Int32))]))
  refine OwnR.of (fun _ hr => XS.istore X1.here hx rfl (hb hby d1_29) rfl (l' := #[.val (.ref a1), .val (.ref a2), .val (.ref a3), .val .null, .val (.int (0 : Int32))]) rfl hr) ?_
  show OwnR _ _ _ _ _ _ _ (T1.setTop (mkF m 31 #[.val (.ref a1), .val (.ref a2), .val (.ref a3), .val .null, .val (.int (0 : Int32))] []))
  refine OwnR.of (fun _ hr => XS.iload X1.here hx rfl (hb hby d1_31) rfl hr) ?_
  show OwnR _ _ _ _ _ _ _ (T1.setTop (mkF m 33 #[.val (.ref a1), .val (.ref a2), .val (.ref a3), .val .null, .val (.int (0 : Int32))] [(.int (0 : Int32))]))
  refine OwnR.of (fun _ hr => XS.aloadN X1.here hx rfl (hb hby d1_33) rfl rfl hr) ?_
  show OwnR _ _ _ _ _ _ _ (T1.setTop (mkF m 34 #[.val (.ref a1), .val (.ref a2), .val (.ref a3), .val .null, .val (.int (0 : Int32))] [(.ref a2), (.int (0 : Int32))]))
  obtain ⟨cl4, Ar4, -, S4, N4, -, -⟩ := id V_a2
  refine OwnR.of (X1.arraylength hx (by rw [e1]; exact Ar4.1) (State.isArrayOf_alike hZ.alike Ar4.2.1) (g := (mkF m 34 #[.val (.ref a1), .val (.ref a2), .val (.ref a3), .val .null, .val (.int (0 : Int32))] [(.ref a2), (.int (0 : Int32))])) rfl rfl (hb hby d1_34)) ?_
  show OwnR _ _ _ _ _ _ _ (T1.setTop (mkF m 35 #[.val (.ref a1), .val (.ref a2), .val (.ref a3), .val .null, .val (.int (0 : Int32))] [(.int cl4.slots.size.toInt32), (.int (0 : Int32))]))
  rw [len_of S4 N4]
  show OwnR _ _ _ _ _ _ _ (T1.setTop (mkF m 35 #[.val (.ref a1), .val (.ref a2), .val (.ref a3), .val .null, .val (.int (0 : Int32))] [(.int (3 : Int32)), (.int (0 : Int32))]))
  refine OwnR.of (fun _ hr => XS.icmpNo X1.here hx rfl (hb hby d1_35) rfl (tlt (by decide : (0 : Int32) < (3 : Int32))).2.1 hr) ?_
  show OwnR _ _ _ _ _ _ _ (T1.setTop (mkF m 38 #[.val (.ref a1), .val (.ref a2), .val (.ref a3), .val .null, .val (.int (0 : Int32))] []))
  refine OwnR.of (fun _ hr => XS.aloadN X1.here hx rfl (hb hby d1_38) rfl rfl hr) ?_
  show OwnR _ _ _ _ _ _ _ (T1.setTop (mkF m 39 #[.val (.ref a1), .val (.ref a2), .val (.ref a3), .val .null, .val (.int (0 : Int32))] [(.ref a2)]))
  refine OwnR.of (fun _ hr => XS.iload X1.here hx rfl (hb hby d1_39) rfl hr) ?_
  show OwnR _ _ _ _ _ _ _ (T1.setTop (mkF m 41 #[.val (.ref a1), .val (.ref a2), .val (.ref a3), .val .null, .val (.int (0 : Int32))] [(.int (0 : Int32)), (.ref a2)]))
  obtain ⟨cl5, Ar5, -, S5, N5, H5, G5⟩ := id V_a2
  have hin5 : ¬ ((0 : Int32) < 0 ∨ cl5.slots.size ≤ ((0 : Int32)).toNatClampNeg) := (inb_of S5 ⟨by decide, by decide⟩)
  refine OwnR.of (X1.iaload hx (j := (0 : Int32)) (v := (.int x0)) (by rw [e1]; exact Ar5.1) (State.isArrayOf_alike hZ.alike Ar5.2.1) Ar5.2.2 hin5 (Has.at H5 hin5 rfl) (g := (mkF m 41 #[.val (.ref a1), .val (.ref a2), .val (.ref a3), .val .null, .val (.int (0 : Int32))] [(.int (0 : Int32)), (.ref a2)])) rfl rfl (hb hby d1_41)) ?_
  show OwnR _ _ _ _ _ _ _ (T1.setTop (mkF m 42 #[.val (.ref a1), .val (.ref a2), .val (.ref a3), .val .null, .val (.int (0 : Int32))] [(.int x0)]))
  refine OwnR.of (fun _ hr => XS.iconst X1.here hx rfl (hb hby d1_42) hr) ?_
  show OwnR _ _ _ _ _ _ _ (T1.setTop (mkF m 43 #[.val (.ref a1), .val (.ref a2), .val (.ref a3), .val .null, .val (.int (0 : Int32))] [(.int (1 : Int32)), (.int x0)]))
  refine OwnR.of (fun _ hr => XS.icmpYes X1.here hx rfl (pc0 := 43) (pc' := 67) rfl (hb hby d1_43) rfl (flt hx0).2.1 (by decide) (by decide) hr) ?_
  show OwnR _ _ _ _ _ _ _ (T1.setTop (mkF m 67 #[.val (.ref a1), .val (.ref a2), .val (.ref a3), .val .null, .val (.int (0 : Int32))] []))
  refine OwnR.of (fun _ hr => XS.iinc X1.here hx rfl (hb hby d1_67) rfl (l' := #[.val (.ref a1), .val (.ref a2), .val (.ref a3), .val .null, .val (.int ((0 : Int32) + (1 : Int32)))]) rfl hr) ?_
  show OwnR _ _ _ _ _ _ _ (T1.setTop (mkF m 70 #[.val (.ref a1), .val (.ref a2), .val (.ref a3), .val .null, .val (.int ((0 : Int32) + (1 : Int32)))] []))
  rw [(by decide : ((0 : Int32) + (1 : Int32)) = (1 : Int32))]
  show OwnR _ _ _ _ _ _ _ (T1.setTop (mkF m 70 #[.val (.ref a1), .val (.ref a2), .val (.ref a3), .val .null, .val (.int (1 : Int32))] []))
  refine OwnR.of (fun _ hr => XS.goto X1.here hx rfl (pc0 := 70) (pc' := 31) rfl (hb hby d1_70) (by decide) (by decide) hr) ?_
  show OwnR _ _ _ _ _ _ _ (T1.setTop (mkF m 31 #[.val (.ref a1), .val (.ref a2), .val (.ref a3), .val .null, .val (.int (1 : Int32))] []))
  refine OwnR.of (fun _ hr => XS.iload X1.here hx rfl (hb hby d1_31) rfl hr) ?_
  show OwnR _ _ _ _ _ _ _ (T1.setTop (mkF m 33 #[.val (.ref a1), .val (.ref a2), .val (.ref a3), .val .null, .val (.int (1 : Int32))] [(.int (1 : Int32))]))
  refine OwnR.of (fun _ hr => XS.aloadN X1.here hx rfl (hb hby d1_33) rfl rfl hr) ?_
  show OwnR _ _ _ _ _ _ _ (T1.setTop (mkF m 34 #[.val (.ref a1), .val (.ref a2), .val (.ref a3), .val .null, .val (.int (1 : Int32))] [(.ref a2), (.int (1 : Int32))]))
  obtain ⟨cl6, Ar6, -, S6, N6, -, -⟩ := id V_a2
  refine OwnR.of (X1.arraylength hx (by rw [e1]; exact Ar6.1) (State.isArrayOf_alike hZ.alike Ar6.2.1) (g := (mkF m 34 #[.val (.ref a1), .val (.ref a2), .val (.ref a3), .val .null, .val (.int (1 : Int32))] [(.ref a2), (.int (1 : Int32))])) rfl rfl (hb hby d1_34)) ?_
  show OwnR _ _ _ _ _ _ _ (T1.setTop (mkF m 35 #[.val (.ref a1), .val (.ref a2), .val (.ref a3), .val .null, .val (.int (1 : Int32))] [(.int cl6.slots.size.toInt32), (.int (1 : Int32))]))
  rw [len_of S6 N6]
  show OwnR _ _ _ _ _ _ _ (T1.setTop (mkF m 35 #[.val (.ref a1), .val (.ref a2), .val (.ref a3), .val .null, .val (.int (1 : Int32))] [(.int (3 : Int32)), (.int (1 : Int32))]))
  refine OwnR.of (fun _ hr => XS.icmpNo X1.here hx rfl (hb hby d1_35) rfl (tlt (by decide : (1 : Int32) < (3 : Int32))).2.1 hr) ?_
  show OwnR _ _ _ _ _ _ _ (T1.setTop (mkF m 38 #[.val (.ref a1), .val (.ref a2), .val (.ref a3), .val .null, .val (.int (1 : Int32))] []))
  refine OwnR.of (fun _ hr => XS.aloadN X1.here hx rfl (hb hby d1_38) rfl rfl hr) ?_
  show OwnR _ _ _ _ _ _ _ (T1.setTop (mkF m 39 #[.val (.ref a1), .val (.ref a2), .val (.ref a3), .val .null, .val (.int (1 : Int32))] [(.ref a2)]))
  refine OwnR.of (fun _ hr => XS.iload X1.here hx rfl (hb hby d1_39) rfl hr) ?_
  show OwnR _ _ _ _ _ _ _ (T1.setTop (mkF m 41 #[.val (.ref a1), .val (.ref a2), .val (.ref a3), .val .null, .val (.int (1 : Int32))] [(.int (1 : Int32)), (.ref a2)]))
  obtain ⟨cl7, Ar7, -, S7, N7, H7, G7⟩ := id V_a2
  have hin7 : ¬ ((1 : Int32) < 0 ∨ cl7.slots.size ≤ ((1 : Int32)).toNatClampNeg) := (inb_of S7 ⟨by decide, by decide⟩)
  refine OwnR.of (X1.iaload hx (j := (1 : Int32)) (v := (.int x1)) (by rw [e1]; exact Ar7.1) (State.isArrayOf_alike hZ.alike Ar7.2.1) Ar7.2.2 hin7 (Has.at H7 hin7 rfl) (g := (mkF m 41 #[.val (.ref a1), .val (.ref a2), .val (.ref a3), .val .null, .val (.int (1 : Int32))] [(.int (1 : Int32)), (.ref a2)])) rfl rfl (hb hby d1_41)) ?_
  show OwnR _ _ _ _ _ _ _ (T1.setTop (mkF m 42 #[.val (.ref a1), .val (.ref a2), .val (.ref a3), .val .null, .val (.int (1 : Int32))] [(.int x1)]))
  refine OwnR.of (fun _ hr => XS.iconst X1.here hx rfl (hb hby d1_42) hr) ?_
  show OwnR _ _ _ _ _ _ _ (T1.setTop (mkF m 43 #[.val (.ref a1), .val (.ref a2), .val (.ref a3), .val .null, .val (.int (1 : Int32))] [(.int (1 : Int32)), (.int x1)]))
  refine OwnR.of (fun _ hr => XS.icmpYes X1.here hx rfl (pc0 := 43) (pc' := 67) rfl (hb hby d1_43) rfl (flt hx1).2.1 (by decide) (by decide) hr) ?_
  show OwnR _ _ _ _ _ _ _ (T1.setTop (mkF m 67 #[.val (.ref a1), .val (.ref a2), .val (.ref a3), .val .null, .val (.int (1 : Int32))] []))
  refine OwnR.of (fun _ hr => XS.iinc X1.here hx rfl (hb hby d1_67) rfl (l' := #[.val (.ref a1), .val (.ref a2), .val (.ref a3), .val .null, .val (.int ((1 : Int32) + (1 : Int32)))]) rfl hr) ?_
  show OwnR _ _ _ _ _ _ _ (T1.setTop (mkF m 70 #[.val (.ref a1), .val (.ref a2), .val (.ref a3), .val .null, .val (.int ((1 : Int32) + (1 : Int32)))] []))
  rw [(by decide : ((1 : Int32) + (1 : Int32)) = (2 : Int32))]
  show OwnR _ _ _ _ _ _ _ (T1.setTop (mkF m 70 #[.val (.ref a1), .val (.ref a2), .val (.ref a3), .val .null, .val (.int (2 : Int32))] []))
  refine OwnR.of (fun _ hr => XS.goto X1.here hx rfl (pc0 := 70) (pc' := 31) rfl (hb hby d1_70) (by decide) (by decide) hr) ?_
  show OwnR _ _ _ _ _ _ _ (T1.setTop (mkF m 31 #[.val (.ref a1), .val (.ref a2), .val (.ref a3), .val .null, .val (.int (2 : Int32))] []))
  refine OwnR.of (fun _ hr => XS.iload X1.here hx rfl (hb hby d1_31) rfl hr) ?_
  show OwnR _ _ _ _ _ _ _ (T1.setTop (mkF m 33 #[.val (.ref a1), .val (.ref a2), .val (.ref a3), .val .null, .val (.int (2 : Int32))] [(.int (2 : Int32))]))
  refine OwnR.of (fun _ hr => XS.aloadN X1.here hx rfl (hb hby d1_33) rfl rfl hr) ?_
  show OwnR _ _ _ _ _ _ _ (T1.setTop (mkF m 34 #[.val (.ref a1), .val (.ref a2), .val (.ref a3), .val .null, .val (.int (2 : Int32))] [(.ref a2), (.int (2 : Int32))]))
  obtain ⟨cl8, Ar8, -, S8, N8, -, -⟩ := id V_a2
  refine OwnR.of (X1.arraylength hx (by rw [e1]; exact Ar8.1) (State.isArrayOf_alike hZ.alike Ar8.2.1) (g := (mkF m 34 #[.val (.ref a1), .val (.ref a2), .val (.ref a3), .val .null, .val (.int (2 : Int32))] [(.ref a2), (.int (2 : Int32))])) rfl rfl (hb hby d1_34)) ?_
  show OwnR _ _ _ _ _ _ _ (T1.setTop (mkF m 35 #[.val (.ref a1), .val (.ref a2), .val (.ref a3), .val .null, .val (.int (2 : Int32))] [(.int cl8.slots.size.toInt32), (.int (2 : Int32))]))
  rw [len_of S8 N8]
  show OwnR _ _ _ _ _ _ _ (T1.setTop (mkF m 35 #[.val (.ref a1), .val (.ref a2), .val (.ref a3), .val .null, .val (.int (2 : Int32))] [(.int (3 : Int32)), (.int (2 : Int32))]))
  refine OwnR.of (fun _ hr => XS.icmpNo X1.here hx rfl (hb hby d1_35) rfl (tlt (by decide : (2 : Int32) < (3 : Int32))).2.1 hr) ?_
  show OwnR _ _ _ _ _ _ _ (T1.setTop (mkF m 38 #[.val (.ref a1), .val (.ref a2), .val (.ref a3), .val .null, .val (.int (2 : Int32))] []))
  refine OwnR.of (fun _ hr => XS.aloadN X1.here hx rfl (hb hby d1_38) rfl rfl hr) ?_
  show OwnR _ _ _ _ _ _ _ (T1.setTop (mkF m 39 #[.val (.ref a1), .val (.ref a2), .val (.ref a3), .val .null, .val (.int (2 : Int32))] [(.ref a2)]))
  refine OwnR.of (fun _ hr => XS.iload X1.here hx rfl (hb hby d1_39) rfl hr) ?_
  show OwnR _ _ _ _ _ _ _ (T1.setTop (mkF m 41 #[.val (.ref a1), .val (.ref a2), .val (.ref a3), .val .null, .val (.int (2 : Int32))] [(.int (2 : Int32)), (.ref a2)]))
  obtain ⟨cl9, Ar9, -, S9, N9, H9, G9⟩ := id V_a2
  have hin9 : ¬ ((2 : Int32) < 0 ∨ cl9.slots.size ≤ ((2 : Int32)).toNatClampNeg) := (inb_of S9 ⟨by decide, by decide⟩)
  refine OwnR.of (X1.iaload hx (j := (2 : Int32)) (v := (.int x2)) (by rw [e1]; exact Ar9.1) (State.isArrayOf_alike hZ.alike Ar9.2.1) Ar9.2.2 hin9 (Has.at H9 hin9 rfl) (g := (mkF m 41 #[.val (.ref a1), .val (.ref a2), .val (.ref a3), .val .null, .val (.int (2 : Int32))] [(.int (2 : Int32)), (.ref a2)])) rfl rfl (hb hby d1_41)) ?_
  show OwnR _ _ _ _ _ _ _ (T1.setTop (mkF m 42 #[.val (.ref a1), .val (.ref a2), .val (.ref a3), .val .null, .val (.int (2 : Int32))] [(.int x2)]))
  refine OwnR.of (fun _ hr => XS.iconst X1.here hx rfl (hb hby d1_42) hr) ?_
  show OwnR _ _ _ _ _ _ _ (T1.setTop (mkF m 43 #[.val (.ref a1), .val (.ref a2), .val (.ref a3), .val .null, .val (.int (2 : Int32))] [(.int (1 : Int32)), (.int x2)]))
  refine OwnR.of (fun _ hr => XS.icmpYes X1.here hx rfl (pc0 := 43) (pc' := 67) rfl (hb hby d1_43) rfl (flt hx2).2.1 (by decide) (by decide) hr) ?_
  show OwnR _ _ _ _ _ _ _ (T1.setTop (mkF m 67 #[.val (.ref a1), .val (.ref a2), .val (.ref a3), .val .null, .val (.int (2 : Int32))] []))
  refine OwnR.of (fun _ hr => XS.iinc X1.here hx rfl (hb hby d1_67) rfl (l' := #[.val (.ref a1), .val (.ref a2), .val (.ref a3), .val .null, .val (.int ((2 : Int32) + (1 : Int32)))]) rfl hr) ?_
  show OwnR _ _ _ _ _ _ _ (T1.setTop (mkF m 70 #[.val (.ref a1), .val (.ref a2), .val (.ref a3), .val .null, .val (.int ((2 : Int32) + (1 : Int32)))] []))
  rw [(by decide : ((2 : Int32) + (1 : Int32)) = (3 : Int32))]
  show OwnR _ _ _ _ _ _ _ (T1.setTop (mkF m 70 #[.val (.ref a1), .val (.ref a2), .val (.ref a3), .val .null, .val (.int (3 : Int32))] []))
  refine OwnR.of (fun _ hr => XS.goto X1.here hx rfl (pc0 := 70) (pc' := 31) rfl (hb hby d1_70) (by decide) (by decide) hr) ?_
  show OwnR _ _ _ _ _ _ _ (T1.setTop (mkF m 31 #[.val (.ref a1), .val (.ref a2), .val (.ref a3), .val .null, .val (.int (3 : Int32))] []))
  refine OwnR.of (fun _ hr => XS.iload X1.here hx rfl (hb hby d1_31) rfl hr) ?_
  show OwnR _ _ _ _ _ _ _ (T1.setTop (mkF m 33 #[.val (.ref a1), .val (.ref a2), .val (.ref a3), .val .null, .val (.int (3 : Int32))] [(.int (3 : Int32))]))
  refine OwnR.of (fun _ hr => XS.aloadN X1.here hx rfl (hb hby d1_33) rfl rfl hr) ?_
  show OwnR _ _ _ _ _ _ _ (T1.setTop (mkF m 34 #[.val (.ref a1), .val (.ref a2), .val (.ref a3), .val .null, .val (.int (3 : Int32))] [(.ref a2), (.int (3 : Int32))]))
  obtain ⟨cl10, Ar10, -, S10, N10, -, -⟩ := id V_a2
  refine OwnR.of (X1.arraylength hx (by rw [e1]; exact Ar10.1) (State.isArrayOf_alike hZ.alike Ar10.2.1) (g := (mkF m 34 #[.val (.ref a1), .val (.ref a2), .val (.ref a3), .val .null, .val (.int (3 : Int32))] [(.ref a2), (.int (3 : Int32))])) rfl rfl (hb hby d1_34)) ?_
  show OwnR _ _ _ _ _ _ _ (T1.setTop (mkF m 35 #[.val (.ref a1), .val (.ref a2), .val (.ref a3), .val .null, .val (.int (3 : Int32))] [(.int cl10.slots.size.toInt32), (.int (3 : Int32))]))
  rw [len_of S10 N10]
  show OwnR _ _ _ _ _ _ _ (T1.setTop (mkF m 35 #[.val (.ref a1), .val (.ref a2), .val (.ref a3), .val .null, .val (.int (3 : Int32))] [(.int (3 : Int32)), (.int (3 : Int32))]))
  refine OwnR.of (fun _ hr => XS.icmpYes X1.here hx rfl (pc0 := 35) (pc' := 73) rfl (hb hby d1_35) rfl (flt (by decide : ¬ ((3 : Int32) < (3 : Int32)))).2.1 (by decide) (by decide) hr) ?_
  show OwnR _ _ _ _ _ _ _ (T1.setTop (mkF m 73 #[.val (.ref a1), .val (.ref a2), .val (.ref a3), .val .null, .val (.int (3 : Int32))] []))
  refine OwnR.of (fun _ hr => XS.aloadN X1.here hx rfl (hb hby d1_73) rfl rfl hr) ?_
  show OwnR _ _ _ _ _ _ _ (T1.setTop (mkF m 74 #[.val (.ref a1), .val (.ref a2), .val (.ref a3), .val .null, .val (.int (3 : Int32))] [(.ref a1)]))
  refine OwnR.of (fun _ hr => XS.aloadN X1.here hx rfl (hb hby d1_74) rfl rfl hr) ?_
  show OwnR _ _ _ _ _ _ _ (T1.setTop (mkF m 75 #[.val (.ref a1), .val (.ref a2), .val (.ref a3), .val .null, .val (.int (3 : Int32))] [(.ref a2), (.ref a1)]))
  obtain ⟨T11, h11, X11, e11, E11, V11, AE11, st11⟩ := cloneH X1 hx hZ hown (hw _ (List.mem_of_getElem? (i := 12) rfl)) (hw _ (List.mem_of_getElem? (i := 13) rfl)) (hw _ (List.mem_of_getElem? (i := 17) rfl)) (hw _ (List.mem_of_getElem? (i := 15) rfl)) (hw _ (List.mem_of_getElem? (i := 16) rfl)) (hw _ (List.mem_of_getElem? (i := 18) rfl)) e1 (Arv.arh V_a2) E_a2 (g := (mkF m 75 #[.val (.ref a1), .val (.ref a2), .val (.ref a3), .val .null, .val (.int (3 : Int32))] [(.ref a2), (.ref a1)])) rfl (by rw [hml]; rfl) rfl (hb hby d1_75) (by decide) (W := 1) (by show 2 * 0 + _ ≤ _; exact Nat.le_of_eq rfl) (by decide) (cap := 3) (by decide) (by decide) (by decide)
  obtain ⟨b11, g11⟩ : ∃ z, z = h0.size := ⟨_, rfl⟩
  rw [← g11] at V11 AE11 st11
  refine OwnR.of (st11) ?_
  have gn_b11 : n0 ≤ b11 := Nat.le_trans (Nat.le_trans Z0 (Keep.refl h0 [a1]).1) (Nat.le_of_eq g11.symm)
  have sz_b11 : h0.size ≤ b11 := Nat.le_trans (Keep.refl h0 [a1]).1 (Nat.le_of_eq g11.symm)
  have K11 : Keep h0 h11 [a1] := Keep.ext (Keep.refl h0 [a1]) E11
  have V11 : Arv Z h11 b11 k2 .int (3 : Int32) [(.int x0), (.int x1), (.int x2)] (.int (0 : Int32)) := V11
  show OwnR _ _ _ _ _ _ _ (T11.setTop (mkF m 78 #[.val (.ref a1), .val (.ref a2), .val (.ref a3), .val .null, .val (.int (3 : Int32))] [(.ref b11), (.ref a1)]))
  obtain ⟨T12, X12, e12, st12⟩ := castY X11 hx hZ hown (hw _ (List.mem_of_getElem? (i := 19) rfl)) e11 (Ins.self AE11) (g := (mkF m 78 #[.val (.ref a1), .val (.ref a2), .val (.ref a3), .val .null, .val (.int (3 : Int32))] [(.ref b11), (.ref a1)])) rfl rfl (hb hby d1_78)
  refine OwnR.of (st12) ?_
  show OwnR _ _ _ _ _ _ _ (T12.setTop (mkF m 81 #[.val (.ref a1), .val (.ref a2), .val (.ref a3), .val .null, .val (.int (3 : Int32))] [(.ref b11), (.ref a1)]))
  obtain ⟨T13, h13, X13, e13, W13, st13⟩ := putF X12 hx hZ hown (host := "") (Or.inl (hw _ (List.mem_of_getElem? (i := 21) rfl))) Via.refl e12 (Fld.ext E11 F_branches_a1) (Exa.keep E_a1 K11) (Or.inr ⟨(hw _ (List.mem_of_getElem? (i := 22) rfl)), rfl, hnm⟩) (hw _ (List.mem_of_getElem? (i := 4) rfl)) (ty := (.array .int)) (by decide) rfl rfl (g := (mkF m 81 #[.val (.ref a1), .val (.ref a2), .val (.ref a3), .val .null, .val (.int (3 : Int32))] [(.ref b11), (.ref a1)])) rfl rfl (hb hby d1_81)
  refine OwnR.of (st13) ?_
  have F13 := Fld.same W13 (Fld.ext E11 F_branches_a1)
  have K13 : Keep h0 h13 [a1] := Keep.wr K11 W13 (Or.inl (List.mem_of_getElem? (i := 0) rfl))
  have N13 := Fr.snoc X13 N0 g_a1
  show OwnR _ _ _ _ _ _ _ (T13.setTop (mkF m 84 #[.val (.ref a1), .val (.ref a2), .val (.ref a3), .val .null, .val (.int (3 : Int32))] []))
  refine OwnR.of (fun _ hr => XS.aloadN X13.here hx rfl (hb hby d1_84) rfl rfl hr) ?_
  show OwnR _ _ _ _ _ _ _ (T13.setTop (mkF m 85 #[.val (.ref a1), .val (.ref a2), .val (.ref a3), .val .null, .val (.int (3 : Int32))] [(.ref a1)]))
  refine OwnR.of (fun _ hr => XS.aloadN X13.here hx rfl (hb hby d1_85) rfl rfl hr) ?_
  show OwnR _ _ _ _ _ _ _ (T13.setTop (mkF m 86 #[.val (.ref a1), .val (.ref a2), .val (.ref a3), .val .null, .val (.int (3 : Int32))] [(.ref a3), (.ref a1)]))
  obtain ⟨T14, h14, X14, e14, E14, V14, AE14, st14⟩ := cloneH X13 hx hZ hown (hw _ (List.mem_of_getElem? (i := 23) rfl)) (hw _ (List.mem_of_getElem? (i := 24) rfl)) (hw _ (List.mem_of_getElem? (i := 17) rfl)) (hw _ (List.mem_of_getElem? (i := 15) rfl)) (hw _ (List.mem_of_getElem? (i := 25) rfl)) (hw _ (List.mem_of_getElem? (i := 26) rfl)) e13 (Arv.arh (Arv.keep V_a3 K13 (ninS (Ne.symm ne_13) nin0))) (Exa.keep E_a3 K13) (g := (mkF m 86 #[.val (.ref a1), .val (.ref a2), .val (.ref a3), .val .null, .val (.int (3 : Int32))] [(.ref a3), (.ref a1)])) rfl (by rw [hml]; rfl) rfl (hb hby d1_86) (by decide) (W := 1) (by show 2 * 0 + _ ≤ _; exact Nat.le_of_eq rfl) (by decide) (cap := 3) (by decide) (by decide) (by decide)
  obtain ⟨b14, g14⟩ : ∃ z, z = h13.size := ⟨_, rfl⟩
  rw [← g14] at V14 AE14 st14
  refine OwnR.of (st14) ?_
  have gn_b14 : n0 ≤ b14 := Nat.le_trans (Nat.le_trans Z0 K13.1) (Nat.le_of_eq g14.symm)
  have sz_b14 : h0.size ≤ b14 := Nat.le_trans K13.1 (Nat.le_of_eq g14.symm)
  have K14 : Keep h0 h14 [a1] := Keep.ext K13 E14
  have V14 : Arv Z h14 b14 k3 .double (3 : Int32) [(.double d0), (.double d1), (.double d2)] (.double (0 : UInt64)) := V14
  show OwnR _ _ _ _ _ _ _ (T14.setTop (mkF m 89 #[.val (.ref a1), .val (.ref a2), .val (.ref a3), .val .null, .val (.int (3 : Int32))] [(.ref b14), (.ref a1)]))
  obtain ⟨T15, X15, e15, st15⟩ := castY X14 hx hZ hown (hw _ (List.mem_of_getElem? (i := 27) rfl)) e14 (Ins.self AE14) (g := (mkF m 89 #[.val (.ref a1), .val (.ref a2), .val (.ref a3), .val .null, .val (.int (3 : Int32))] [(.ref b14), (.ref a1)])) rfl rfl (hb hby d1_89)
  refine OwnR.of (st15) ?_
  show OwnR _ _ _ _ _ _ _ (T15.setTop (mkF m 92 #[.val (.ref a1), .val (.ref a2), .val (.ref a3), .val .null, .val (.int (3 : Int32))] [(.ref b14), (.ref a1)]))
  obtain ⟨T16, h16, X16, e16, W16, st16⟩ := putF X15 hx hZ hown (host := "") (Or.inl (hw _ (List.mem_of_getElem? (i := 29) rfl))) Via.refl e15 (Fld.ext E14 (Fld.other W13 (Fld.ext E11 F_lengths_a1) (Or.inr (slot_ne (Or.inr (hw _ (List.mem_of_getElem? (i := 30) rfl))) (Or.inr (hw _ (List.mem_of_getElem? (i := 22) rfl))) (by decide) (t := (.array .double)) (t' := (.array .int)) (by decide) (by decide))))) (Exa.keep E_a1 K14) (Or.inr ⟨(hw _ (List.mem_of_getElem? (i := 30) rfl)), rfl, hnm⟩) (hw _ (List.mem_of_getElem? (i := 4) rfl)) (ty := (.array .double)) (by decide) rfl rfl (g := (mkF m 92 #[.val (.ref a1), .val (.ref a2), .val (.ref a3), .val .null, .val (.int (3 : Int32))] [(.ref b14), (.ref a1)])) rfl rfl (hb hby d1_92)
  refine OwnR.of (st16) ?_
  have F16 := Fld.same W16 (Fld.ext E14 (Fld.other W13 (Fld.ext E11 F_lengths_a1) (Or.inr (slot_ne (Or.inr (hw _ (List.mem_of_getElem? (i := 30) rfl))) (Or.inr (hw _ (List.mem_of_getElem? (i := 22) rfl))) (by decide) (t := (.array .double)) (t' := (.array .int)) (by decide) (by decide)))))
  have K16 : Keep h0 h16 [a1] := Keep.wr K14 W16 (Or.inl (List.mem_of_getElem? (i := 0) rfl))
  have N16 := Fr.snoc X16 N13 g_a1
  show OwnR _ _ _ _ _ _ _ (T16.setTop (mkF m 95 #[.val (.ref a1), .val (.ref a2), .val (.ref a3), .val .null, .val (.int (3 : Int32))] []))
  refine OwnR.of (fun _ hr => XS.aloadN X16.here hx rfl (hb hby d1_95) rfl rfl hr) ?_
  show OwnR _ _ _ _ _ _ _ (T16.setTop (mkF m 96 #[.val (.ref a1), .val (.ref a2), .val (.ref a3), .val .null, .val (.int (3 : Int32))] [(.ref a1)]))
  refine OwnR.of (fun _ hr => XS.aloadN X16.here hx rfl (hb hby d1_96) rfl rfl hr) ?_
  show OwnR _ _ _ _ _ _ _ (T16.setTop (mkF m 97 #[.val (.ref a1), .val (.ref a2), .val (.ref a3), .val .null, .val (.int (3 : Int32))] [.null, (.ref a1)]))
  obtain ⟨T17, h17, X17, e17, W17, st17⟩ := putF X16 hx hZ hown (host := "") (Or.inl (hw _ (List.mem_of_getElem? (i := 31) rfl))) Via.refl e16 (Fld.other W16 (Fld.ext E14 (Fld.other W13 (Fld.ext E11 F_unit_a1) (Or.inr (slot_ne (Or.inr (hw _ (List.mem_of_getElem? (i := 32) rfl))) (Or.inr (hw _ (List.mem_of_getElem? (i := 22) rfl))) (by decide) (t := (.object "java/util/Optional")) (t' := (.array .int)) (by decide) (by decide))))) (Or.inr (slot_ne (Or.inr (hw _ (List.mem_of_getElem? (i := 32) rfl))) (Or.inr (hw _ (List.mem_of_getElem? (i := 30) rfl))) (by decide) (t := (.object "java/util/Optional")) (t' := (.array .double)) (by decide) (by decide)))) (Exa.keep E_a1 K16) (Or.inr ⟨(hw _ (List.mem_of_getElem? (i := 32) rfl)), rfl, hnm⟩) (hw _ (List.mem_of_getElem? (i := 4) rfl)) (ty := (.object "java/util/Optional")) (by decide) rfl rfl (g := (mkF m 97 #[.val (.ref a1), .val (.ref a2), .val (.ref a3), .val .null, .val (.int (3 : Int32))] [.null, (.ref a1)])) rfl rfl (hb hby d1_97)
  refine OwnR.of (st17) ?_
  have F17 := Fld.same W17 (Fld.other W16 (Fld.ext E14 (Fld.other W13 (Fld.ext E11 F_unit_a1) (Or.inr (slot_ne (Or.inr (hw _ (List.mem_of_getElem? (i := 32) rfl))) (Or.inr (hw _ (List.mem_of_getElem? (i := 22) rfl))) (by decide) (t := (.object "java/util/Optional")) (t' := (.array .int)) (by decide) (by decide))))) (Or.inr (slot_ne (Or.inr (hw _ (List.mem_of_getElem? (i := 32) rfl))) (Or.inr (hw _ (List.mem_of_getElem? (i := 30) rfl))) (by decide) (t := (.object "java/util/Optional")) (t' := (.array .double)) (by decide) (by decide))))
  have K17 : Keep h0 h17 [a1] := Keep.wr K16 W17 (Or.inl (List.mem_of_getElem? (i := 0) rfl))
  have N17 := Fr.snoc X17 N16 g_a1
  show OwnR _ _ _ _ _ _ _ (T17.setTop (mkF m 100 #[.val (.ref a1), .val (.ref a2), .val (.ref a3), .val .null, .val (.int (3 : Int32))] []))
  refine own_leafV X17 hx hlk Bd.returns (hb hby d1_100) (by decide) (by decide) ?_
  show Q1_3 Z a1 k3 d0 d1 d2 h0 n0 _ T17.heap _
  rw [show T17.heap = h17 from e17]
  refine ⟨b14, rfl, N17, ⟨K17, (Exa.keep E_a1 K17), (Fld.other W17 F16 (Or.inr (slot_ne (Or.inr (hw _ (List.mem_of_getElem? (i := 30) rfl))) (Or.inr (hw _ (List.mem_of_getElem? (i := 32) rfl))) (by decide) (t := (.array .double)) (t' := (.object "java/util/Optional")) (by decide) (by decide)))), (Arv.other (Arv.other V14 W16 (Ne.symm (Nat.ne_of_lt (Nat.lt_of_lt_of_le (Exa.keep E_a1 K13).lt (Nat.le_of_eq g14.symm))))) W17 (Ne.symm (Nat.ne_of_lt (Nat.lt_of_lt_of_le (Exa.keep E_a1 K13).lt (Nat.le_of_eq g14.symm))))), sz_b14⟩⟩
theorem ef_rm3_3 (m : MethodId) (x0 : Addr) : entryFrame m #[(.ref x0)] 8 = mkF m 0 #[.val (.ref x0), .unset, .unset, .unset, .unset, .unset, .unset, .unset] [] := by first | (simp [entryFrame, mkF, argsToLocals, Value.category]; done) | rfl
def Q3_3 (Z : State) (z0 : Int64) (z1 : Int64) (z2 : Int64) (h0 : Heap) (n0 : Nat) (v : Option Value) (h : Heap) (L : List Loc) : Prop := v = some (.double (FP.l2d ((((0 : Int64) + z0) + z1) + z2))) ∧ Fr n0 L ∧ h = h0
set_option maxRecDepth 65536 in
set_option maxHeartbeats 40000000 in
theorem rm3_3 (l : Launch) (Z : State) (a0 : Array Value) (hw : ∀ d ∈ tables_1, d.before a0 Z = true) (ws : List Jvm.Cond) (a1 : Addr) (a3 : Addr) (k3 : ClassId) (z0 z1 z2 : Int64) (h0 : Heap) (n0 : Nat) (Z0 : n0 ≤ h0.size) (E_a1 : Exa Z h0 a1 "com/example/ramification/ramification/model/StrahlerOrders") (F_lengths_a1 : Fld Z h0 a1 "com/example/ramification/ramification/model/StrahlerOrders" "lengths" "[D" (.ref a3)) (V_a3 : Arv Z h0 a3 k3 .double (3 : Int32) [(.double (FP.l2d z0)), (.double (FP.l2d z1)), (.double (FP.l2d z2))] (.double (0 : UInt64))) (hs0 : OwnS 1 z0) (hs1 : OwnS 1 z1) (hs2 : OwnS 1 z2) :
    MetFree l (⟨"com/example/ramification/ramification/model/StrahlerOrders", "getTotalLength", "()D"⟩ : MethodName) (head1 (Jvm.Cond.code (⟨"com/example/ramification/ramification/model/StrahlerOrders", "getTotalLength", "()D"⟩ : MethodName) prog_88_method_8_code 8 (some .double) :: ws) ({ frames := 0, cells := 0, slots := 0, locals := 0 } : Room)) (fun a U => a = #[(.ref a1)] ∧ Z.Warmed39 U.vm ∧ U.heap = h0) (fun _ _ _ _ _ => True) (fun _ U o U' => ∃ v L, o = .returned v ∧ Q3_3 Z z0 z1 z2 h0 n0 v U'.heap L ∧ FrameEnd U o U' L ({ frames := 0, cells := 0, slots := 0, locals := 0 } : Room).cells ({ frames := 0, cells := 0, slots := 0, locals := 0 } : Room).slots) := by
  refine MetFree.of_bodySF (plainFor_of_name pn_com_example_ramification_ramification_model_StrahlerOrders) hisR ?_
  intro p e s m args below meth c s₁ Bd hml0 hP hK
  obtain ⟨rfl, hZ, hh⟩ := hP
  have hx := Bd.exec
  have hby := Bd.bytes
  have hlk := BodyLoose.notSynchronized Bd
  have hml : c.maxLocals = 8 := hml0
  have hown : s.vm.findClass "com/example/ramification/ramification/model/StrahlerOrders" = some m.cls := findClass_of_methodNamed Bd.named
  have hnm := (name_of_methodNamed Bd.named Bd.method).1
  have X0 : Stand p l e ({ frames := 0, cells := 0, slots := 0, locals := 0 } : Room) s m #[(.ref a1)] below meth c s₁ [] 0 0 := Stand.of_body Bd
  have e0 : s₁.heap = h0 := by rw [← hh, Bd.state]; rfl
  have N0 := Fr.nil n0
  refine OwnR.of (s := s) (Q := Q3_3 Z z0 z1 z2 h0 n0) (fun t k => castTop (ef_rm3_3 m a1) k) ?_
  show OwnR _ _ _ _ _ _ _ (s₁.setTop (mkF m 0 #[.val (.ref a1), .unset, .unset, .unset, .unset, .unset, .unset, .unset] []))
  refine OwnR.of (fun _ hr => XS.dconst0 X0.here hx rfl (hb hby d3_0) (v := (FP.l2d (0 : Int64))) (by decide +kernel) hr) ?_
  show OwnR _ _ _ _ _ _ _ (s₁.setTop (mkF m 1 #[.val (.ref a1), .unset, .unset, .unset, .unset, .unset, .unset, .unset] [(.double (FP.l2d (0 : Int64)))]))
  refine OwnR.of (fun _ hr => XS.dstoreN X0.here hx rfl (hb hby d3_1) rfl (l' := #[.val (.ref a1), .val (.double (FP.l2d (0 : Int64))), .second, .unset, .unset, .unset, .unset, .unset]) rfl hr) ?_
  show OwnR _ _ _ _ _ _ _ (s₁.setTop (mkF m 2 #[.val (.ref a1), .val (.double (FP.l2d (0 : Int64))), .second, .unset, .unset, .unset, .unset, .unset] []))
  refine OwnR.of (fun _ hr => XS.aloadN X0.here hx rfl (hb hby d3_2) rfl rfl hr) ?_
  show OwnR _ _ _ _ _ _ _ (s₁.setTop (mkF m 3 #[.val (.ref a1), .val (.double (FP.l2d (0 : Int64))), .second, .unset, .unset, .unset, .unset, .unset] [(.ref a1)]))
  obtain ⟨T1, X1, e1, st1⟩ := getF X0 hx hZ hown (host := "") (Or.inl (hw _ (List.mem_of_getElem? (i := 29) rfl))) Via.refl e0 F_lengths_a1 (g := (mkF m 3 #[.val (.ref a1), .val (.double (FP.l2d (0 : Int64))), .second, .unset, .unset, .unset, .unset, .unset] [(.ref a1)])) rfl rfl (hb hby d3_3)
  refine OwnR.of (st1) ?_
  show OwnR _ _ _ _ _ _ _ (T1.setTop (mkF m 6 #[.val (.ref a1), .val (.double (FP.l2d (0 : Int64))), .second, .unset, .unset, .unset, .unset, .unset] [(.ref a3)]))
  refine OwnR.of (fun _ hr => XS.astoreN X1.here hx rfl (hb hby d3_6) rfl rfl (l' := #[.val (.ref a1), .val (.double (FP.l2d (0 : Int64))), .second, .val (.ref a3), .unset, .unset, .unset, .unset]) rfl hr) ?_
  show OwnR _ _ _ _ _ _ _ (T1.setTop (mkF m 7 #[.val (.ref a1), .val (.double (FP.l2d (0 : Int64))), .second, .val (.ref a3), .unset, .unset, .unset, .unset] []))
  refine OwnR.of (fun _ hr => XS.aloadN X1.here hx rfl (hb hby d3_7) rfl rfl hr) ?_
  show OwnR _ _ _ _ _ _ _ (T1.setTop (mkF m 8 #[.val (.ref a1), .val (.double (FP.l2d (0 : Int64))), .second, .val (.ref a3), .unset, .unset, .unset, .unset] [(.ref a3)]))
  obtain ⟨cl2, Ar2, -, S2, N2, -, -⟩ := id V_a3
  refine OwnR.of (X1.arraylength hx (by rw [e1]; exact Ar2.1) (State.isArrayOf_alike hZ.alike Ar2.2.1) (g := (mkF m 8 #[.val (.ref a1), .val (.double (FP.l2d (0 : Int64))), .second, .val (.ref a3), .unset, .unset, .unset, .unset] [(.ref a3)])) rfl rfl (hb hby d3_8)) ?_
  show OwnR _ _ _ _ _ _ _ (T1.setTop (mkF m 9 #[.val (.ref a1), .val (.double (FP.l2d (0 : Int64))), .second, .val (.ref a3), .unset, .unset, .unset, .unset] [(.int cl2.slots.size.toInt32)]))
  rw [len_of S2 N2]
  show OwnR _ _ _ _ _ _ _ (T1.setTop (mkF m 9 #[.val (.ref a1), .val (.double (FP.l2d (0 : Int64))), .second, .val (.ref a3), .unset, .unset, .unset, .unset] [(.int (3 : Int32))]))
  refine OwnR.of (fun _ hr => XS.istore X1.here hx rfl (hb hby d3_9) rfl (l' := #[.val (.ref a1), .val (.double (FP.l2d (0 : Int64))), .second, .val (.ref a3), .val (.int (3 : Int32)), .unset, .unset, .unset]) rfl hr) ?_
  show OwnR _ _ _ _ _ _ _ (T1.setTop (mkF m 11 #[.val (.ref a1), .val (.double (FP.l2d (0 : Int64))), .second, .val (.ref a3), .val (.int (3 : Int32)), .unset, .unset, .unset] []))
  refine OwnR.of (fun _ hr => XS.iconst X1.here hx rfl (hb hby d3_11) hr) ?_
  show OwnR _ _ _ _ _ _ _ (T1.setTop (mkF m 12 #[.val (.ref a1), .val (.double (FP.l2d (0 : Int64))), .second, .val (.ref a3), .val (.int (3 : Int32)), .unset, .unset, .unset] [(.int (0 : Int32))]))
  refine OwnR.of (fun _ hr => XS.istore X1.here hx rfl (hb hby d3_12) rfl (l' := #[.val (.ref a1), .val (.double (FP.l2d (0 : Int64))), .second, .val (.ref a3), .val (.int (3 : Int32)), .val (.int (0 : Int32)), .unset, .unset]) rfl hr) ?_
  show OwnR _ _ _ _ _ _ _ (T1.setTop (mkF m 14 #[.val (.ref a1), .val (.double (FP.l2d (0 : Int64))), .second, .val (.ref a3), .val (.int (3 : Int32)), .val (.int (0 : Int32)), .unset, .unset] []))
  refine OwnR.of (fun _ hr => XS.iload X1.here hx rfl (hb hby d3_14) rfl hr) ?_
  show OwnR _ _ _ _ _ _ _ (T1.setTop (mkF m 16 #[.val (.ref a1), .val (.double (FP.l2d (0 : Int64))), .second, .val (.ref a3), .val (.int (3 : Int32)), .val (.int (0 : Int32)), .unset, .unset] [(.int (0 : Int32))]))
  refine OwnR.of (fun _ hr => XS.iload X1.here hx rfl (hb hby d3_16) rfl hr) ?_
  show OwnR _ _ _ _ _ _ _ (T1.setTop (mkF m 18 #[.val (.ref a1), .val (.double (FP.l2d (0 : Int64))), .second, .val (.ref a3), .val (.int (3 : Int32)), .val (.int (0 : Int32)), .unset, .unset] [(.int (3 : Int32)), (.int (0 : Int32))]))
  refine OwnR.of (fun _ hr => XS.icmpNo X1.here hx rfl (hb hby d3_18) rfl (tlt (by decide : (0 : Int32) < (3 : Int32))).2.1 hr) ?_
  show OwnR _ _ _ _ _ _ _ (T1.setTop (mkF m 21 #[.val (.ref a1), .val (.double (FP.l2d (0 : Int64))), .second, .val (.ref a3), .val (.int (3 : Int32)), .val (.int (0 : Int32)), .unset, .unset] []))
  refine OwnR.of (fun _ hr => XS.aloadN X1.here hx rfl (hb hby d3_21) rfl rfl hr) ?_
  show OwnR _ _ _ _ _ _ _ (T1.setTop (mkF m 22 #[.val (.ref a1), .val (.double (FP.l2d (0 : Int64))), .second, .val (.ref a3), .val (.int (3 : Int32)), .val (.int (0 : Int32)), .unset, .unset] [(.ref a3)]))
  refine OwnR.of (fun _ hr => XS.iload X1.here hx rfl (hb hby d3_22) rfl hr) ?_
  show OwnR _ _ _ _ _ _ _ (T1.setTop (mkF m 24 #[.val (.ref a1), .val (.double (FP.l2d (0 : Int64))), .second, .val (.ref a3), .val (.int (3 : Int32)), .val (.int (0 : Int32)), .unset, .unset] [(.int (0 : Int32)), (.ref a3)]))
  obtain ⟨cl3, Ar3, -, S3, N3, H3, G3⟩ := id V_a3
  have hin3 : ¬ ((0 : Int32) < 0 ∨ cl3.slots.size ≤ ((0 : Int32)).toNatClampNeg) := (inb_of S3 ⟨by decide, by decide⟩)
  refine OwnR.of (X1.daload hx (j := (0 : Int32)) (v := (.double (FP.l2d z0))) (by rw [e1]; exact Ar3.1) (State.isArrayOf_alike hZ.alike Ar3.2.1) Ar3.2.2 hin3 (Has.at H3 hin3 rfl) (g := (mkF m 24 #[.val (.ref a1), .val (.double (FP.l2d (0 : Int64))), .second, .val (.ref a3), .val (.int (3 : Int32)), .val (.int (0 : Int32)), .unset, .unset] [(.int (0 : Int32)), (.ref a3)])) rfl rfl (hb hby d3_24)) ?_
  show OwnR _ _ _ _ _ _ _ (T1.setTop (mkF m 25 #[.val (.ref a1), .val (.double (FP.l2d (0 : Int64))), .second, .val (.ref a3), .val (.int (3 : Int32)), .val (.int (0 : Int32)), .unset, .unset] [(.double (FP.l2d z0))]))
  refine OwnR.of (fun _ hr => XS.dstore X1.here hx rfl (hb hby d3_25) rfl (l' := #[.val (.ref a1), .val (.double (FP.l2d (0 : Int64))), .second, .val (.ref a3), .val (.int (3 : Int32)), .val (.int (0 : Int32)), .val (.double (FP.l2d z0)), .second]) rfl hr) ?_
  show OwnR _ _ _ _ _ _ _ (T1.setTop (mkF m 27 #[.val (.ref a1), .val (.double (FP.l2d (0 : Int64))), .second, .val (.ref a3), .val (.int (3 : Int32)), .val (.int (0 : Int32)), .val (.double (FP.l2d z0)), .second] []))
  refine OwnR.of (fun _ hr => XS.dloadN X1.here hx rfl (hb hby d3_27) rfl hr) ?_
  show OwnR _ _ _ _ _ _ _ (T1.setTop (mkF m 28 #[.val (.ref a1), .val (.double (FP.l2d (0 : Int64))), .second, .val (.ref a3), .val (.int (3 : Int32)), .val (.int (0 : Int32)), .val (.double (FP.l2d z0)), .second] [(.double (FP.l2d (0 : Int64)))]))
  refine OwnR.of (fun _ hr => XS.dload X1.here hx rfl (hb hby d3_28) rfl hr) ?_
  show OwnR _ _ _ _ _ _ _ (T1.setTop (mkF m 30 #[.val (.ref a1), .val (.double (FP.l2d (0 : Int64))), .second, .val (.ref a3), .val (.int (3 : Int32)), .val (.int (0 : Int32)), .val (.double (FP.l2d z0)), .second] [(.double (FP.l2d z0)), (.double (FP.l2d (0 : Int64)))]))
  refine OwnR.of (fun _ hr => XS.daddS X1.here hx rfl (hb hby d3_30) rfl (nn_w (dadd_w (own_b own_s0 (by decide) (by decide)) (own_b hs0 (by decide) (by decide)))) (dadd_w (own_b own_s0 (by decide) (by decide)) (own_b hs0 (by decide) (by decide))) hr) ?_
  show OwnR _ _ _ _ _ _ _ (T1.setTop (mkF m 31 #[.val (.ref a1), .val (.double (FP.l2d (0 : Int64))), .second, .val (.ref a3), .val (.int (3 : Int32)), .val (.int (0 : Int32)), .val (.double (FP.l2d z0)), .second] [(.double (FP.l2d ((0 : Int64) + z0)))]))
  refine OwnR.of (fun _ hr => XS.dstoreN X1.here hx rfl (hb hby d3_31) rfl (l' := #[.val (.ref a1), .val (.double (FP.l2d ((0 : Int64) + z0))), .second, .val (.ref a3), .val (.int (3 : Int32)), .val (.int (0 : Int32)), .val (.double (FP.l2d z0)), .second]) rfl hr) ?_
  show OwnR _ _ _ _ _ _ _ (T1.setTop (mkF m 32 #[.val (.ref a1), .val (.double (FP.l2d ((0 : Int64) + z0))), .second, .val (.ref a3), .val (.int (3 : Int32)), .val (.int (0 : Int32)), .val (.double (FP.l2d z0)), .second] []))
  refine OwnR.of (fun _ hr => XS.iinc X1.here hx rfl (hb hby d3_32) rfl (l' := #[.val (.ref a1), .val (.double (FP.l2d ((0 : Int64) + z0))), .second, .val (.ref a3), .val (.int (3 : Int32)), .val (.int ((0 : Int32) + (1 : Int32))), .val (.double (FP.l2d z0)), .second]) rfl hr) ?_
  show OwnR _ _ _ _ _ _ _ (T1.setTop (mkF m 35 #[.val (.ref a1), .val (.double (FP.l2d ((0 : Int64) + z0))), .second, .val (.ref a3), .val (.int (3 : Int32)), .val (.int ((0 : Int32) + (1 : Int32))), .val (.double (FP.l2d z0)), .second] []))
  rw [(by decide : ((0 : Int32) + (1 : Int32)) = (1 : Int32))]
  show OwnR _ _ _ _ _ _ _ (T1.setTop (mkF m 35 #[.val (.ref a1), .val (.double (FP.l2d ((0 : Int64) + z0))), .second, .val (.ref a3), .val (.int (3 : Int32)), .val (.int (1 : Int32)), .val (.double (FP.l2d z0)), .second] []))
  refine OwnR.of (fun _ hr => XS.goto X1.here hx rfl (pc0 := 35) (pc' := 14) rfl (hb hby d3_35) (by decide) (by decide) hr) ?_
  show OwnR _ _ _ _ _ _ _ (T1.setTop (mkF m 14 #[.val (.ref a1), .val (.double (FP.l2d ((0 : Int64) + z0))), .second, .val (.ref a3), .val (.int (3 : Int32)), .val (.int (1 : Int32)), .val (.double (FP.l2d z0)), .second] []))
  refine OwnR.of (fun _ hr => XS.iload X1.here hx rfl (hb hby d3_14) rfl hr) ?_
  show OwnR _ _ _ _ _ _ _ (T1.setTop (mkF m 16 #[.val (.ref a1), .val (.double (FP.l2d ((0 : Int64) + z0))), .second, .val (.ref a3), .val (.int (3 : Int32)), .val (.int (1 : Int32)), .val (.double (FP.l2d z0)), .second] [(.int (1 : Int32))]))
  refine OwnR.of (fun _ hr => XS.iload X1.here hx rfl (hb hby d3_16) rfl hr) ?_
  show OwnR _ _ _ _ _ _ _ (T1.setTop (mkF m 18 #[.val (.ref a1), .val (.double (FP.l2d ((0 : Int64) + z0))), .second, .val (.ref a3), .val (.int (3 : Int32)), .val (.int (1 : Int32)), .val (.double (FP.l2d z0)), .second] [(.int (3 : Int32)), (.int (1 : Int32))]))
  refine OwnR.of (fun _ hr => XS.icmpNo X1.here hx rfl (hb hby d3_18) rfl (tlt (by decide : (1 : Int32) < (3 : Int32))).2.1 hr) ?_
  show OwnR _ _ _ _ _ _ _ (T1.setTop (mkF m 21 #[.val (.ref a1), .val (.double (FP.l2d ((0 : Int64) + z0))), .second, .val (.ref a3), .val (.int (3 : Int32)), .val (.int (1 : Int32)), .val (.double (FP.l2d z0)), .second] []))
  refine OwnR.of (fun _ hr => XS.aloadN X1.here hx rfl (hb hby d3_21) rfl rfl hr) ?_
  show OwnR _ _ _ _ _ _ _ (T1.setTop (mkF m 22 #[.val (.ref a1), .val (.double (FP.l2d ((0 : Int64) + z0))), .second, .val (.ref a3), .val (.int (3 : Int32)), .val (.int (1 : Int32)), .val (.double (FP.l2d z0)), .second] [(.ref a3)]))
  refine OwnR.of (fun _ hr => XS.iload X1.here hx rfl (hb hby d3_22) rfl hr) ?_
  show OwnR _ _ _ _ _ _ _ (T1.setTop (mkF m 24 #[.val (.ref a1), .val (.double (FP.l2d ((0 : Int64) + z0))), .second, .val (.ref a3), .val (.int (3 : Int32)), .val (.int (1 : Int32)), .val (.double (FP.l2d z0)), .second] [(.int (1 : Int32)), (.ref a3)]))
  obtain ⟨cl4, Ar4, -, S4, N4, H4, G4⟩ := id V_a3
  have hin4 : ¬ ((1 : Int32) < 0 ∨ cl4.slots.size ≤ ((1 : Int32)).toNatClampNeg) := (inb_of S4 ⟨by decide, by decide⟩)
  refine OwnR.of (X1.daload hx (j := (1 : Int32)) (v := (.double (FP.l2d z1))) (by rw [e1]; exact Ar4.1) (State.isArrayOf_alike hZ.alike Ar4.2.1) Ar4.2.2 hin4 (Has.at H4 hin4 rfl) (g := (mkF m 24 #[.val (.ref a1), .val (.double (FP.l2d ((0 : Int64) + z0))), .second, .val (.ref a3), .val (.int (3 : Int32)), .val (.int (1 : Int32)), .val (.double (FP.l2d z0)), .second] [(.int (1 : Int32)), (.ref a3)])) rfl rfl (hb hby d3_24)) ?_
  show OwnR _ _ _ _ _ _ _ (T1.setTop (mkF m 25 #[.val (.ref a1), .val (.double (FP.l2d ((0 : Int64) + z0))), .second, .val (.ref a3), .val (.int (3 : Int32)), .val (.int (1 : Int32)), .val (.double (FP.l2d z0)), .second] [(.double (FP.l2d z1))]))
  refine OwnR.of (fun _ hr => XS.dstore X1.here hx rfl (hb hby d3_25) rfl (l' := #[.val (.ref a1), .val (.double (FP.l2d ((0 : Int64) + z0))), .second, .val (.ref a3), .val (.int (3 : Int32)), .val (.int (1 : Int32)), .val (.double (FP.l2d z1)), .second]) rfl hr) ?_
  show OwnR _ _ _ _ _ _ _ (T1.setTop (mkF m 27 #[.val (.ref a1), .val (.double (FP.l2d ((0 : Int64) + z0))), .second, .val (.ref a3), .val (.int (3 : Int32)), .val (.int (1 : Int32)), .val (.double (FP.l2d z1)), .second] []))
  refine OwnR.of (fun _ hr => XS.dloadN X1.here hx rfl (hb hby d3_27) rfl hr) ?_
  show OwnR _ _ _ _ _ _ _ (T1.setTop (mkF m 28 #[.val (.ref a1), .val (.double (FP.l2d ((0 : Int64) + z0))), .second, .val (.ref a3), .val (.int (3 : Int32)), .val (.int (1 : Int32)), .val (.double (FP.l2d z1)), .second] [(.double (FP.l2d ((0 : Int64) + z0)))]))
  refine OwnR.of (fun _ hr => XS.dload X1.here hx rfl (hb hby d3_28) rfl hr) ?_
  show OwnR _ _ _ _ _ _ _ (T1.setTop (mkF m 30 #[.val (.ref a1), .val (.double (FP.l2d ((0 : Int64) + z0))), .second, .val (.ref a3), .val (.int (3 : Int32)), .val (.int (1 : Int32)), .val (.double (FP.l2d z1)), .second] [(.double (FP.l2d z1)), (.double (FP.l2d ((0 : Int64) + z0)))]))
  refine OwnR.of (fun _ hr => XS.daddS X1.here hx rfl (hb hby d3_30) rfl (nn_w (dadd_w (own_b (own_sa own_s0 hs0 (by decide) (by decide)) (by decide) (by decide)) (own_b hs1 (by decide) (by decide)))) (dadd_w (own_b (own_sa own_s0 hs0 (by decide) (by decide)) (by decide) (by decide)) (own_b hs1 (by decide) (by decide))) hr) ?_
  show OwnR _ _ _ _ _ _ _ (T1.setTop (mkF m 31 #[.val (.ref a1), .val (.double (FP.l2d ((0 : Int64) + z0))), .second, .val (.ref a3), .val (.int (3 : Int32)), .val (.int (1 : Int32)), .val (.double (FP.l2d z1)), .second] [(.double (FP.l2d (((0 : Int64) + z0) + z1)))]))
  refine OwnR.of (fun _ hr => XS.dstoreN X1.here hx rfl (hb hby d3_31) rfl (l' := #[.val (.ref a1), .val (.double (FP.l2d (((0 : Int64) + z0) + z1))), .second, .val (.ref a3), .val (.int (3 : Int32)), .val (.int (1 : Int32)), .val (.double (FP.l2d z1)), .second]) rfl hr) ?_
  show OwnR _ _ _ _ _ _ _ (T1.setTop (mkF m 32 #[.val (.ref a1), .val (.double (FP.l2d (((0 : Int64) + z0) + z1))), .second, .val (.ref a3), .val (.int (3 : Int32)), .val (.int (1 : Int32)), .val (.double (FP.l2d z1)), .second] []))
  refine OwnR.of (fun _ hr => XS.iinc X1.here hx rfl (hb hby d3_32) rfl (l' := #[.val (.ref a1), .val (.double (FP.l2d (((0 : Int64) + z0) + z1))), .second, .val (.ref a3), .val (.int (3 : Int32)), .val (.int ((1 : Int32) + (1 : Int32))), .val (.double (FP.l2d z1)), .second]) rfl hr) ?_
  show OwnR _ _ _ _ _ _ _ (T1.setTop (mkF m 35 #[.val (.ref a1), .val (.double (FP.l2d (((0 : Int64) + z0) + z1))), .second, .val (.ref a3), .val (.int (3 : Int32)), .val (.int ((1 : Int32) + (1 : Int32))), .val (.double (FP.l2d z1)), .second] []))
  rw [(by decide : ((1 : Int32) + (1 : Int32)) = (2 : Int32))]
  show OwnR _ _ _ _ _ _ _ (T1.setTop (mkF m 35 #[.val (.ref a1), .val (.double (FP.l2d (((0 : Int64) + z0) + z1))), .second, .val (.ref a3), .val (.int (3 : Int32)), .val (.int (2 : Int32)), .val (.double (FP.l2d z1)), .second] []))
  refine OwnR.of (fun _ hr => XS.goto X1.here hx rfl (pc0 := 35) (pc' := 14) rfl (hb hby d3_35) (by decide) (by decide) hr) ?_
  show OwnR _ _ _ _ _ _ _ (T1.setTop (mkF m 14 #[.val (.ref a1), .val (.double (FP.l2d (((0 : Int64) + z0) + z1))), .second, .val (.ref a3), .val (.int (3 : Int32)), .val (.int (2 : Int32)), .val (.double (FP.l2d z1)), .second] []))
  refine OwnR.of (fun _ hr => XS.iload X1.here hx rfl (hb hby d3_14) rfl hr) ?_
  show OwnR _ _ _ _ _ _ _ (T1.setTop (mkF m 16 #[.val (.ref a1), .val (.double (FP.l2d (((0 : Int64) + z0) + z1))), .second, .val (.ref a3), .val (.int (3 : Int32)), .val (.int (2 : Int32)), .val (.double (FP.l2d z1)), .second] [(.int (2 : Int32))]))
  refine OwnR.of (fun _ hr => XS.iload X1.here hx rfl (hb hby d3_16) rfl hr) ?_
  show OwnR _ _ _ _ _ _ _ (T1.setTop (mkF m 18 #[.val (.ref a1), .val (.double (FP.l2d (((0 : Int64) + z0) + z1))), .second, .val (.ref a3), .val (.int (3 : Int32)), .val (.int (2 : Int32)), .val (.double (FP.l2d z1)), .second] [(.int (3 : Int32)), (.int (2 : Int32))]))
  refine OwnR.of (fun _ hr => XS.icmpNo X1.here hx rfl (hb hby d3_18) rfl (tlt (by decide : (2 : Int32) < (3 : Int32))).2.1 hr) ?_
  show OwnR _ _ _ _ _ _ _ (T1.setTop (mkF m 21 #[.val (.ref a1), .val (.double (FP.l2d (((0 : Int64) + z0) + z1))), .second, .val (.ref a3), .val (.int (3 : Int32)), .val (.int (2 : Int32)), .val (.double (FP.l2d z1)), .second] []))
  refine OwnR.of (fun _ hr => XS.aloadN X1.here hx rfl (hb hby d3_21) rfl rfl hr) ?_
  show OwnR _ _ _ _ _ _ _ (T1.setTop (mkF m 22 #[.val (.ref a1), .val (.double (FP.l2d (((0 : Int64) + z0) + z1))), .second, .val (.ref a3), .val (.int (3 : Int32)), .val (.int (2 : Int32)), .val (.double (FP.l2d z1)), .second] [(.ref a3)]))
  refine OwnR.of (fun _ hr => XS.iload X1.here hx rfl (hb hby d3_22) rfl hr) ?_
  show OwnR _ _ _ _ _ _ _ (T1.setTop (mkF m 24 #[.val (.ref a1), .val (.double (FP.l2d (((0 : Int64) + z0) + z1))), .second, .val (.ref a3), .val (.int (3 : Int32)), .val (.int (2 : Int32)), .val (.double (FP.l2d z1)), .second] [(.int (2 : Int32)), (.ref a3)]))
  obtain ⟨cl5, Ar5, -, S5, N5, H5, G5⟩ := id V_a3
  have hin5 : ¬ ((2 : Int32) < 0 ∨ cl5.slots.size ≤ ((2 : Int32)).toNatClampNeg) := (inb_of S5 ⟨by decide, by decide⟩)
  refine OwnR.of (X1.daload hx (j := (2 : Int32)) (v := (.double (FP.l2d z2))) (by rw [e1]; exact Ar5.1) (State.isArrayOf_alike hZ.alike Ar5.2.1) Ar5.2.2 hin5 (Has.at H5 hin5 rfl) (g := (mkF m 24 #[.val (.ref a1), .val (.double (FP.l2d (((0 : Int64) + z0) + z1))), .second, .val (.ref a3), .val (.int (3 : Int32)), .val (.int (2 : Int32)), .val (.double (FP.l2d z1)), .second] [(.int (2 : Int32)), (.ref a3)])) rfl rfl (hb hby d3_24)) ?_
  show OwnR _ _ _ _ _ _ _ (T1.setTop (mkF m 25 #[.val (.ref a1), .val (.double (FP.l2d (((0 : Int64) + z0) + z1))), .second, .val (.ref a3), .val (.int (3 : Int32)), .val (.int (2 : Int32)), .val (.double (FP.l2d z1)), .second] [(.double (FP.l2d z2))]))
  refine OwnR.of (fun _ hr => XS.dstore X1.here hx rfl (hb hby d3_25) rfl (l' := #[.val (.ref a1), .val (.double (FP.l2d (((0 : Int64) + z0) + z1))), .second, .val (.ref a3), .val (.int (3 : Int32)), .val (.int (2 : Int32)), .val (.double (FP.l2d z2)), .second]) rfl hr) ?_
  show OwnR _ _ _ _ _ _ _ (T1.setTop (mkF m 27 #[.val (.ref a1), .val (.double (FP.l2d (((0 : Int64) + z0) + z1))), .second, .val (.ref a3), .val (.int (3 : Int32)), .val (.int (2 : Int32)), .val (.double (FP.l2d z2)), .second] []))
  refine OwnR.of (fun _ hr => XS.dloadN X1.here hx rfl (hb hby d3_27) rfl hr) ?_
  show OwnR _ _ _ _ _ _ _ (T1.setTop (mkF m 28 #[.val (.ref a1), .val (.double (FP.l2d (((0 : Int64) + z0) + z1))), .second, .val (.ref a3), .val (.int (3 : Int32)), .val (.int (2 : Int32)), .val (.double (FP.l2d z2)), .second] [(.double (FP.l2d (((0 : Int64) + z0) + z1)))]))
  refine OwnR.of (fun _ hr => XS.dload X1.here hx rfl (hb hby d3_28) rfl hr) ?_
  show OwnR _ _ _ _ _ _ _ (T1.setTop (mkF m 30 #[.val (.ref a1), .val (.double (FP.l2d (((0 : Int64) + z0) + z1))), .second, .val (.ref a3), .val (.int (3 : Int32)), .val (.int (2 : Int32)), .val (.double (FP.l2d z2)), .second] [(.double (FP.l2d z2)), (.double (FP.l2d (((0 : Int64) + z0) + z1)))]))
  refine OwnR.of (fun _ hr => XS.daddS X1.here hx rfl (hb hby d3_30) rfl (nn_w (dadd_w (own_b (own_sa (own_sa own_s0 hs0 (by decide) (by decide)) hs1 (by decide) (by decide)) (by decide) (by decide)) (own_b hs2 (by decide) (by decide)))) (dadd_w (own_b (own_sa (own_sa own_s0 hs0 (by decide) (by decide)) hs1 (by decide) (by decide)) (by decide) (by decide)) (own_b hs2 (by decide) (by decide))) hr) ?_
  show OwnR _ _ _ _ _ _ _ (T1.setTop (mkF m 31 #[.val (.ref a1), .val (.double (FP.l2d (((0 : Int64) + z0) + z1))), .second, .val (.ref a3), .val (.int (3 : Int32)), .val (.int (2 : Int32)), .val (.double (FP.l2d z2)), .second] [(.double (FP.l2d ((((0 : Int64) + z0) + z1) + z2)))]))
  refine OwnR.of (fun _ hr => XS.dstoreN X1.here hx rfl (hb hby d3_31) rfl (l' := #[.val (.ref a1), .val (.double (FP.l2d ((((0 : Int64) + z0) + z1) + z2))), .second, .val (.ref a3), .val (.int (3 : Int32)), .val (.int (2 : Int32)), .val (.double (FP.l2d z2)), .second]) rfl hr) ?_
  show OwnR _ _ _ _ _ _ _ (T1.setTop (mkF m 32 #[.val (.ref a1), .val (.double (FP.l2d ((((0 : Int64) + z0) + z1) + z2))), .second, .val (.ref a3), .val (.int (3 : Int32)), .val (.int (2 : Int32)), .val (.double (FP.l2d z2)), .second] []))
  refine OwnR.of (fun _ hr => XS.iinc X1.here hx rfl (hb hby d3_32) rfl (l' := #[.val (.ref a1), .val (.double (FP.l2d ((((0 : Int64) + z0) + z1) + z2))), .second, .val (.ref a3), .val (.int (3 : Int32)), .val (.int ((2 : Int32) + (1 : Int32))), .val (.double (FP.l2d z2)), .second]) rfl hr) ?_
  show OwnR _ _ _ _ _ _ _ (T1.setTop (mkF m 35 #[.val (.ref a1), .val (.double (FP.l2d ((((0 : Int64) + z0) + z1) + z2))), .second, .val (.ref a3), .val (.int (3 : Int32)), .val (.int ((2 : Int32) + (1 : Int32))), .val (.double (FP.l2d z2)), .second] []))
  rw [(by decide : ((2 : Int32) + (1 : Int32)) = (3 : Int32))]
  show OwnR _ _ _ _ _ _ _ (T1.setTop (mkF m 35 #[.val (.ref a1), .val (.double (FP.l2d ((((0 : Int64) + z0) + z1) + z2))), .second, .val (.ref a3), .val (.int (3 : Int32)), .val (.int (3 : Int32)), .val (.double (FP.l2d z2)), .second] []))
  refine OwnR.of (fun _ hr => XS.goto X1.here hx rfl (pc0 := 35) (pc' := 14) rfl (hb hby d3_35) (by decide) (by decide) hr) ?_
  show OwnR _ _ _ _ _ _ _ (T1.setTop (mkF m 14 #[.val (.ref a1), .val (.double (FP.l2d ((((0 : Int64) + z0) + z1) + z2))), .second, .val (.ref a3), .val (.int (3 : Int32)), .val (.int (3 : Int32)), .val (.double (FP.l2d z2)), .second] []))
  refine OwnR.of (fun _ hr => XS.iload X1.here hx rfl (hb hby d3_14) rfl hr) ?_
  show OwnR _ _ _ _ _ _ _ (T1.setTop (mkF m 16 #[.val (.ref a1), .val (.double (FP.l2d ((((0 : Int64) + z0) + z1) + z2))), .second, .val (.ref a3), .val (.int (3 : Int32)), .val (.int (3 : Int32)), .val (.double (FP.l2d z2)), .second] [(.int (3 : Int32))]))
  refine OwnR.of (fun _ hr => XS.iload X1.here hx rfl (hb hby d3_16) rfl hr) ?_
  show OwnR _ _ _ _ _ _ _ (T1.setTop (mkF m 18 #[.val (.ref a1), .val (.double (FP.l2d ((((0 : Int64) + z0) + z1) + z2))), .second, .val (.ref a3), .val (.int (3 : Int32)), .val (.int (3 : Int32)), .val (.double (FP.l2d z2)), .second] [(.int (3 : Int32)), (.int (3 : Int32))]))
  refine OwnR.of (fun _ hr => XS.icmpYes X1.here hx rfl (pc0 := 18) (pc' := 38) rfl (hb hby d3_18) rfl (flt (by decide : ¬ ((3 : Int32) < (3 : Int32)))).2.1 (by decide) (by decide) hr) ?_
  show OwnR _ _ _ _ _ _ _ (T1.setTop (mkF m 38 #[.val (.ref a1), .val (.double (FP.l2d ((((0 : Int64) + z0) + z1) + z2))), .second, .val (.ref a3), .val (.int (3 : Int32)), .val (.int (3 : Int32)), .val (.double (FP.l2d z2)), .second] []))
  refine OwnR.of (fun _ hr => XS.dloadN X1.here hx rfl (hb hby d3_38) rfl hr) ?_
  show OwnR _ _ _ _ _ _ _ (T1.setTop (mkF m 39 #[.val (.ref a1), .val (.double (FP.l2d ((((0 : Int64) + z0) + z1) + z2))), .second, .val (.ref a3), .val (.int (3 : Int32)), .val (.int (3 : Int32)), .val (.double (FP.l2d z2)), .second] [(.double (FP.l2d ((((0 : Int64) + z0) + z1) + z2)))]))
  refine own_leafD X1 hx hlk Bd.returns (hb hby d3_39) (by decide) (by decide) ?_
  show Q3_3 Z z0 z1 z2 h0 n0 _ T1.heap _
  rw [show T1.heap = h0 from e1]
  refine ⟨?_, N0, rfl⟩
  show (some (.double (FP.l2d ((((0 : Int64) + z0) + z1) + z2))) : Option Value) = some (.double (FP.l2d ((((0 : Int64) + z0) + z1) + z2)))
  rfl
theorem pn_com_example_ramification_ramification_model_StrahlerOrdersGetTotalLengthPinLaw : plainName "com/example/ramification/ramification/model/StrahlerOrdersGetTotalLengthPinLaw" = true := by first | (simp [plainName, overriddenIn]; done) | decide +kernel
theorem ef_rm0 (m : MethodId) (x0 : Int32) (x1 : Int32) (x2 : Int32) (x3 : Int32) (x4 : Int32) : entryFrame m #[(.int x0), (.int x1), (.int x2), (.int x3), (.int x4)] maxLocals = mkF m 0 #[.val (.int x0), .val (.int x1), .val (.int x2), .val (.int x3), .val (.int x4), .unset, .unset, .unset, .unset, .unset, .unset, .unset, .unset, .unset] [] := by first | (simp [entryFrame, mkF, argsToLocals, Value.category, maxLocals]; done) | rfl
theorem pd___I_DLjava_util_Optional__V : parseMethodDescriptor "([I[DLjava/util/Optional;)V" = some ⟨[(.array .int), (.array .double), (.object "java/util/Optional")], none⟩ := by decide +kernel
theorem pd___D : parseMethodDescriptor "()D" = some ⟨[], some .double⟩ := by decide +kernel
def Q0 (Z : State)  (h0 : Heap) (n0 : Nat) (v : Option Value) (h : Heap) (L : List Loc) : Prop := v = some (.int (1 : Int32)) ∧ Fr n0 L
set_option maxRecDepth 65536 in
set_option maxHeartbeats 40000000 in
theorem rm0 (l : Launch) (Z : State) (a0 : Array Value) (hw : ∀ d ∈ tables_1, d.before a0 Z = true) (ws : List Jvm.Cond) (p1 : Int32) (p2 : Int32) (p3 : Int32) (p4 : Int32) (p5 : Int32) (h0 : Heap) (n0 : Nat) (Z0 : n0 ≤ h0.size) :
    MetFree l x (head1 (Jvm.Cond.code x code maxLocals ret :: ws) room_1) (fun a U => a = #[(.int p1), (.int p2), (.int p3), (.int p4), (.int p5)] ∧ Z.Warmed39 U.vm ∧ U.heap = h0) (fun _ _ _ _ _ => True) (fun _ U o U' => ∃ v L, o = .returned v ∧ Q0 Z  h0 n0 v U'.heap L ∧ FrameEnd U o U' L 24 128) := by
  refine MetFree.of_bodySF (plainFor_of_name pn_com_example_ramification_ramification_model_StrahlerOrdersGetTotalLengthPinLaw) hisR ?_
  intro p e s m args below meth c s₁ Bd hml0 hP hK
  obtain ⟨rfl, hZ, hh⟩ := hP
  have hx := Bd.exec
  have hby := Bd.bytes
  have hlk := BodyLoose.notSynchronized Bd
  have hml : c.maxLocals = 14 := hml0
  have hown : s.vm.findClass "com/example/ramification/ramification/model/StrahlerOrdersGetTotalLengthPinLaw" = some m.cls := findClass_of_methodNamed Bd.named
  have hnm := (name_of_methodNamed Bd.named Bd.method).1
  have X0 : Stand p l e room_1 s m #[(.int p1), (.int p2), (.int p3), (.int p4), (.int p5)] below meth c s₁ [] 0 0 := Stand.of_body Bd
  have e0 : s₁.heap = h0 := by rw [← hh, Bd.state]; rfl
  have N0 := Fr.nil n0
  refine OwnR.of (s := s) (Q := Q0 Z  h0 n0) (fun t k => castTop (ef_rm0 m p1 p2 p3 p4 p5) k) ?_
  show OwnR _ _ _ _ _ _ _ (s₁.setTop (mkF m 0 #[.val (.int p1), .val (.int p2), .val (.int p3), .val (.int p4), .val (.int p5), .unset, .unset, .unset, .unset, .unset, .unset, .unset, .unset, .unset] []))
  refine OwnR.of (fun _ hr => XS.iloadN X0.here hx rfl (hb hby at_0) rfl hr) ?_
  show OwnR _ _ _ _ _ _ _ (s₁.setTop (mkF m 1 #[.val (.int p1), .val (.int p2), .val (.int p3), .val (.int p4), .val (.int p5), .unset, .unset, .unset, .unset, .unset, .unset, .unset, .unset, .unset] [(.int p1)]))
  refine OwnR.of (fun _ hr => XS.iconst X0.here hx rfl (hb hby at_1) hr) ?_
  show OwnR _ _ _ _ _ _ _ (s₁.setTop (mkF m 2 #[.val (.int p1), .val (.int p2), .val (.int p3), .val (.int p4), .val (.int p5), .unset, .unset, .unset, .unset, .unset, .unset, .unset, .unset, .unset] [(.int (3 : Int32)), (.int p1)]))
  refine OwnR.of (fun _ hr => XS.iand X0.here hx rfl (hb hby at_2) rfl hr) ?_
  show OwnR _ _ _ _ _ _ _ (s₁.setTop (mkF m 3 #[.val (.int p1), .val (.int p2), .val (.int p3), .val (.int p4), .val (.int p5), .unset, .unset, .unset, .unset, .unset, .unset, .unset, .unset, .unset] [(.int (p1 &&& (3 : Int32)))]))
  refine OwnR.of (fun _ hr => XS.istore X0.here hx rfl (hb hby at_3) rfl (l' := #[.val (.int p1), .val (.int p2), .val (.int p3), .val (.int p4), .val (.int p5), .val (.int (p1 &&& (3 : Int32))), .unset, .unset, .unset, .unset, .unset, .unset, .unset, .unset]) rfl hr) ?_
  show OwnR _ _ _ _ _ _ _ (s₁.setTop (mkF m 5 #[.val (.int p1), .val (.int p2), .val (.int p3), .val (.int p4), .val (.int p5), .val (.int (p1 &&& (3 : Int32))), .unset, .unset, .unset, .unset, .unset, .unset, .unset, .unset] []))
  obtain ⟨n, hn⟩ : ∃ z : Int32, z = (p1 &&& (3 : Int32)) := ⟨_, rfl⟩
  rw [← hn]
  show OwnR _ _ _ _ _ _ _ (s₁.setTop (mkF m 5 #[.val (.int p1), .val (.int p2), .val (.int p3), .val (.int p4), .val (.int p5), .val (.int n), .unset, .unset, .unset, .unset, .unset, .unset, .unset, .unset] []))
  have hn4 : n = (0 : Int32) ∨ n = (1 : Int32) ∨ n = (2 : Int32) ∨ n = (3 : Int32) := by rw [hn]; exact own_n4 p1
  refine OwnR.of (fun _ hr => XS.iload X0.here hx rfl (hb hby at_5) rfl hr) ?_
  show OwnR _ _ _ _ _ _ _ (s₁.setTop (mkF m 7 #[.val (.int p1), .val (.int p2), .val (.int p3), .val (.int p4), .val (.int p5), .val (.int n), .unset, .unset, .unset, .unset, .unset, .unset, .unset, .unset] [(.int p5)]))
  refine OwnR.of (X0.ldcInt hx hown (mvT hZ (hw _ (List.mem_of_getElem? (i := 0) rfl))) (g := (mkF m 7 #[.val (.int p1), .val (.int p2), .val (.int p3), .val (.int p4), .val (.int p5), .val (.int n), .unset, .unset, .unset, .unset, .unset, .unset, .unset, .unset] [(.int p5)])) rfl (hb hby at_7)) ?_
  show OwnR _ _ _ _ _ _ _ (s₁.setTop (mkF m 9 #[.val (.int p1), .val (.int p2), .val (.int p3), .val (.int p4), .val (.int p5), .val (.int n), .unset, .unset, .unset, .unset, .unset, .unset, .unset, .unset] [(.int (1073741823 : Int32)), (.int p5)]))
  refine OwnR.of (fun _ hr => XS.iand X0.here hx rfl (hb hby at_9) rfl hr) ?_
  show OwnR _ _ _ _ _ _ _ (s₁.setTop (mkF m 10 #[.val (.int p1), .val (.int p2), .val (.int p3), .val (.int p4), .val (.int p5), .val (.int n), .unset, .unset, .unset, .unset, .unset, .unset, .unset, .unset] [(.int (p5 &&& (1073741823 : Int32)))]))
  refine OwnR.of (fun _ hr => XS.iconst X0.here hx rfl (hb hby at_10) hr) ?_
  show OwnR _ _ _ _ _ _ _ (s₁.setTop (mkF m 11 #[.val (.int p1), .val (.int p2), .val (.int p3), .val (.int p4), .val (.int p5), .val (.int n), .unset, .unset, .unset, .unset, .unset, .unset, .unset, .unset] [(.int (1 : Int32)), (.int (p5 &&& (1073741823 : Int32)))]))
  refine OwnR.of (fun _ hr => XS.iadd X0.here hx rfl (hb hby at_11) rfl hr) ?_
  show OwnR _ _ _ _ _ _ _ (s₁.setTop (mkF m 12 #[.val (.int p1), .val (.int p2), .val (.int p3), .val (.int p4), .val (.int p5), .val (.int n), .unset, .unset, .unset, .unset, .unset, .unset, .unset, .unset] [(.int ((p5 &&& (1073741823 : Int32)) + (1 : Int32)))]))
  refine OwnR.of (fun _ hr => XS.istore X0.here hx rfl (hb hby at_12) rfl (l' := #[.val (.int p1), .val (.int p2), .val (.int p3), .val (.int p4), .val (.int p5), .val (.int n), .val (.int ((p5 &&& (1073741823 : Int32)) + (1 : Int32))), .unset, .unset, .unset, .unset, .unset, .unset, .unset]) rfl hr) ?_
  show OwnR _ _ _ _ _ _ _ (s₁.setTop (mkF m 14 #[.val (.int p1), .val (.int p2), .val (.int p3), .val (.int p4), .val (.int p5), .val (.int n), .val (.int ((p5 &&& (1073741823 : Int32)) + (1 : Int32))), .unset, .unset, .unset, .unset, .unset, .unset, .unset] []))
  obtain ⟨vb, hvb⟩ : ∃ z : Int32, z = ((p5 &&& (1073741823 : Int32)) + (1 : Int32)) := ⟨_, rfl⟩
  rw [← hvb]
  show OwnR _ _ _ _ _ _ _ (s₁.setTop (mkF m 14 #[.val (.int p1), .val (.int p2), .val (.int p3), .val (.int p4), .val (.int p5), .val (.int n), .val (.int vb), .unset, .unset, .unset, .unset, .unset, .unset, .unset] []))
  have hvb1 : ¬ (vb < (1 : Int32)) := by rw [hvb]; exact own_vb p5
  rcases hn4 with rfl | rfl | rfl | rfl
  · skip
    show OwnR _ _ _ _ _ _ _ (s₁.setTop (mkF m 14 #[.val (.int p1), .val (.int p2), .val (.int p3), .val (.int p4), .val (.int p5), .val (.int (0 : Int32)), .val (.int vb), .unset, .unset, .unset, .unset, .unset, .unset, .unset] []))
    refine OwnR.of (fun _ hr => XS.iload X0.here hx rfl (hb hby at_14) rfl hr) ?_
    show OwnR _ _ _ _ _ _ _ (s₁.setTop (mkF m 16 #[.val (.int p1), .val (.int p2), .val (.int p3), .val (.int p4), .val (.int p5), .val (.int (0 : Int32)), .val (.int vb), .unset, .unset, .unset, .unset, .unset, .unset, .unset] [(.int (0 : Int32))]))
    refine OwnR.of (fun _ hr => XS.ifNo X0.here hx rfl (hb hby at_16) rfl ((if0 _ _).trans (teq (by decide : (0 : Int32) = (0 : Int32))).2) hr) ?_
    show OwnR _ _ _ _ _ _ _ (s₁.setTop (mkF m 19 #[.val (.int p1), .val (.int p2), .val (.int p3), .val (.int p4), .val (.int p5), .val (.int (0 : Int32)), .val (.int vb), .unset, .unset, .unset, .unset, .unset, .unset, .unset] []))
    refine OwnR.of (fun _ hr => XS.iconst X0.here hx rfl (hb hby at_19) hr) ?_
    show OwnR _ _ _ _ _ _ _ (s₁.setTop (mkF m 20 #[.val (.int p1), .val (.int p2), .val (.int p3), .val (.int p4), .val (.int p5), .val (.int (0 : Int32)), .val (.int vb), .unset, .unset, .unset, .unset, .unset, .unset, .unset] [(.int (0 : Int32))]))
    obtain ⟨T6, h6, k6, X6, e6, E6, A6, AE6, st6⟩ := newPE X0 hx hZ (hw _ (List.mem_of_getElem? (i := 1) rfl)) e0 (g := (mkF m 20 #[.val (.int p1), .val (.int p2), .val (.int p3), .val (.int p4), .val (.int p5), .val (.int (0 : Int32)), .val (.int vb), .unset, .unset, .unset, .unset, .unset, .unset, .unset] [(.int (0 : Int32))])) rfl (hb hby at_20) rfl (by decide) (cap := 0) (by decide) (by decide) (by decide) (by decide) (ad := "[D") rfl
    obtain ⟨b6, g6⟩ : ∃ z, z = h0.size := ⟨_, rfl⟩
    rw [← g6] at A6 AE6 st6
    refine OwnR.of (st6) ?_
    have gn_b6 : n0 ≤ b6 := Nat.le_trans (Nat.le_trans Z0 (Keep.refl h0 []).1) (Nat.le_of_eq g6.symm)
    have sz_b6 : h0.size ≤ b6 := Nat.le_trans (Keep.refl h0 []).1 (Nat.le_of_eq g6.symm)
    have K6 : Keep h0 h6 [] := Keep.ext (Keep.refl h0 []) E6
    have V6 : Arv Z h6 b6 k6 .double (0 : Int32) [] (.double (0 : UInt64)) := (Arv.new A6 (by decide)).pad (pad_rep [] (.double (0 : UInt64)) 0)
    show OwnR _ _ _ _ _ _ _ (T6.setTop (mkF m 22 #[.val (.int p1), .val (.int p2), .val (.int p3), .val (.int p4), .val (.int p5), .val (.int (0 : Int32)), .val (.int vb), .unset, .unset, .unset, .unset, .unset, .unset, .unset] [(.ref b6)]))
    refine OwnR.of (fun _ hr => XS.astore X6.here hx rfl (hb hby at_22) rfl rfl (l' := #[.val (.int p1), .val (.int p2), .val (.int p3), .val (.int p4), .val (.int p5), .val (.int (0 : Int32)), .val (.int vb), .val (.ref b6), .unset, .unset, .unset, .unset, .unset, .unset]) rfl hr) ?_
    show OwnR _ _ _ _ _ _ _ (T6.setTop (mkF m 24 #[.val (.int p1), .val (.int p2), .val (.int p3), .val (.int p4), .val (.int p5), .val (.int (0 : Int32)), .val (.int vb), .val (.ref b6), .unset, .unset, .unset, .unset, .unset, .unset] []))
    refine OwnR.of (fun _ hr => XS.iconst X6.here hx rfl (hb hby at_24) hr) ?_
    show OwnR _ _ _ _ _ _ _ (T6.setTop (mkF m 25 #[.val (.int p1), .val (.int p2), .val (.int p3), .val (.int p4), .val (.int p5), .val (.int (0 : Int32)), .val (.int vb), .val (.ref b6), .unset, .unset, .unset, .unset, .unset, .unset] [(.int (0 : Int32))]))
    obtain ⟨T7, h7, k7, X7, e7, E7, A7, AE7, st7⟩ := newPE X6 hx hZ (hw _ (List.mem_of_getElem? (i := 2) rfl)) e6 (g := (mkF m 25 #[.val (.int p1), .val (.int p2), .val (.int p3), .val (.int p4), .val (.int p5), .val (.int (0 : Int32)), .val (.int vb), .val (.ref b6), .unset, .unset, .unset, .unset, .unset, .unset] [(.int (0 : Int32))])) rfl (hb hby at_25) rfl (by decide) (cap := 0) (by decide) (by decide) (by decide) (by decide) (ad := "[I") rfl
    obtain ⟨b7, g7⟩ : ∃ z, z = h6.size := ⟨_, rfl⟩
    rw [← g7] at A7 AE7 st7
    refine OwnR.of (st7) ?_
    have gn_b7 : n0 ≤ b7 := Nat.le_trans (Nat.le_trans Z0 K6.1) (Nat.le_of_eq g7.symm)
    have sz_b7 : h0.size ≤ b7 := Nat.le_trans K6.1 (Nat.le_of_eq g7.symm)
    have K7 : Keep h0 h7 [] := Keep.ext K6 E7
    have V7 : Arv Z h7 b7 k7 .int (0 : Int32) [] (.int (0 : Int32)) := (Arv.new A7 (by decide)).pad (pad_rep [] (.int (0 : Int32)) 0)
    show OwnR _ _ _ _ _ _ _ (T7.setTop (mkF m 27 #[.val (.int p1), .val (.int p2), .val (.int p3), .val (.int p4), .val (.int p5), .val (.int (0 : Int32)), .val (.int vb), .val (.ref b6), .unset, .unset, .unset, .unset, .unset, .unset] [(.ref b7)]))
    refine OwnR.of (fun _ hr => XS.astore X7.here hx rfl (hb hby at_27) rfl rfl (l' := #[.val (.int p1), .val (.int p2), .val (.int p3), .val (.int p4), .val (.int p5), .val (.int (0 : Int32)), .val (.int vb), .val (.ref b6), .val (.ref b7), .unset, .unset, .unset, .unset, .unset]) rfl hr) ?_
    show OwnR _ _ _ _ _ _ _ (T7.setTop (mkF m 29 #[.val (.int p1), .val (.int p2), .val (.int p3), .val (.int p4), .val (.int p5), .val (.int (0 : Int32)), .val (.int vb), .val (.ref b6), .val (.ref b7), .unset, .unset, .unset, .unset, .unset] []))
    refine OwnR.of (fun _ hr => XS.lconst X7.here hx rfl (hb hby at_29) hr) ?_
    show OwnR _ _ _ _ _ _ _ (T7.setTop (mkF m 30 #[.val (.int p1), .val (.int p2), .val (.int p3), .val (.int p4), .val (.int p5), .val (.int (0 : Int32)), .val (.int vb), .val (.ref b6), .val (.ref b7), .unset, .unset, .unset, .unset, .unset] [(.long (0 : Int64))]))
    refine OwnR.of (fun _ hr => XS.lstore X7.here hx rfl (hb hby at_30) rfl (l' := #[.val (.int p1), .val (.int p2), .val (.int p3), .val (.int p4), .val (.int p5), .val (.int (0 : Int32)), .val (.int vb), .val (.ref b6), .val (.ref b7), .val (.long (0 : Int64)), .second, .unset, .unset, .unset]) rfl hr) ?_
    show OwnR _ _ _ _ _ _ _ (T7.setTop (mkF m 32 #[.val (.int p1), .val (.int p2), .val (.int p3), .val (.int p4), .val (.int p5), .val (.int (0 : Int32)), .val (.int vb), .val (.ref b6), .val (.ref b7), .val (.long (0 : Int64)), .second, .unset, .unset, .unset] []))
    refine OwnR.of (fun _ hr => XS.goto X7.here hx rfl (pc0 := 32) (pc' := 162) rfl (hb hby at_32) (by decide) (by decide) hr) ?_
    show OwnR _ _ _ _ _ _ _ (T7.setTop (mkF m 162 #[.val (.int p1), .val (.int p2), .val (.int p3), .val (.int p4), .val (.int p5), .val (.int (0 : Int32)), .val (.int vb), .val (.ref b6), .val (.ref b7), .val (.long (0 : Int64)), .second, .unset, .unset, .unset] []))
    obtain ⟨T8, h8, X8, e8, E8, A8, D8, -, st8⟩ := newO X7 hx hZ hown (hw _ (List.mem_of_getElem? (i := 3) rfl)) (hw _ (List.mem_of_getElem? (i := 4) rfl)) (hw _ (List.mem_of_getElem? (i := 5) rfl)) e7 (g := (mkF m 162 #[.val (.int p1), .val (.int p2), .val (.int p3), .val (.int p4), .val (.int p5), .val (.int (0 : Int32)), .val (.int vb), .val (.ref b6), .val (.ref b7), .val (.long (0 : Int64)), .second, .unset, .unset, .unset] [])) rfl (hb hby at_162) (by decide) (by decide)
    obtain ⟨b8, g8⟩ : ∃ z, z = h7.size := ⟨_, rfl⟩
    rw [← g8] at A8 D8 st8
    refine OwnR.of (st8) ?_
    have gn_b8 : n0 ≤ b8 := Nat.le_trans (Nat.le_trans Z0 K7.1) (Nat.le_of_eq g8.symm)
    have sz_b8 : h0.size ≤ b8 := Nat.le_trans K7.1 (Nat.le_of_eq g8.symm)
    have K8 : Keep h0 h8 [] := Keep.ext K7 E8
    have F_branches_b8 : Fld Z h8 b8 "com/example/ramification/ramification/model/StrahlerOrders" "branches" "[I" .null := D8 (Or.inr (hw _ (List.mem_of_getElem? (i := 22) rfl))) (ty := (.array .int)) (by decide)
    have F_lengths_b8 : Fld Z h8 b8 "com/example/ramification/ramification/model/StrahlerOrders" "lengths" "[D" .null := D8 (Or.inr (hw _ (List.mem_of_getElem? (i := 30) rfl))) (ty := (.array .double)) (by decide)
    have F_unit_b8 : Fld Z h8 b8 "com/example/ramification/ramification/model/StrahlerOrders" "unit" "Ljava/util/Optional;" .null := D8 (Or.inr (hw _ (List.mem_of_getElem? (i := 32) rfl))) (ty := (.object "java/util/Optional")) (by decide)
    show OwnR _ _ _ _ _ _ _ (T8.setTop (mkF m 165 #[.val (.int p1), .val (.int p2), .val (.int p3), .val (.int p4), .val (.int p5), .val (.int (0 : Int32)), .val (.int vb), .val (.ref b6), .val (.ref b7), .val (.long (0 : Int64)), .second, .unset, .unset, .unset] [(.ref b8)]))
    refine OwnR.of (fun _ hr => XS.dup X8.here hx rfl (hb hby at_165) rfl rfl hr) ?_
    show OwnR _ _ _ _ _ _ _ (T8.setTop (mkF m 166 #[.val (.int p1), .val (.int p2), .val (.int p3), .val (.int p4), .val (.int p5), .val (.int (0 : Int32)), .val (.int vb), .val (.ref b6), .val (.ref b7), .val (.long (0 : Int64)), .second, .unset, .unset, .unset] [(.ref b8), (.ref b8)]))
    refine OwnR.of (fun _ hr => XS.aload X8.here hx rfl (hb hby at_166) rfl rfl hr) ?_
    show OwnR _ _ _ _ _ _ _ (T8.setTop (mkF m 168 #[.val (.int p1), .val (.int p2), .val (.int p3), .val (.int p4), .val (.int p5), .val (.int (0 : Int32)), .val (.int vb), .val (.ref b6), .val (.ref b7), .val (.long (0 : Int64)), .second, .unset, .unset, .unset] [(.ref b7), (.ref b8), (.ref b8)]))
    refine OwnR.of (fun _ hr => XS.aload X8.here hx rfl (hb hby at_168) rfl rfl hr) ?_
    show OwnR _ _ _ _ _ _ _ (T8.setTop (mkF m 170 #[.val (.int p1), .val (.int p2), .val (.int p3), .val (.int p4), .val (.int p5), .val (.int (0 : Int32)), .val (.int vb), .val (.ref b6), .val (.ref b7), .val (.long (0 : Int64)), .second, .unset, .unset, .unset] [(.ref b6), (.ref b7), (.ref b8), (.ref b8)]))
    refine OwnR.of (fun _ hr => XS.aconstNull X8.here hx rfl (hb hby at_170) hr) ?_
    show OwnR _ _ _ _ _ _ _ (T8.setTop (mkF m 171 #[.val (.int p1), .val (.int p2), .val (.int p3), .val (.int p4), .val (.int p5), .val (.int (0 : Int32)), .val (.int vb), .val (.ref b6), .val (.ref b7), .val (.long (0 : Int64)), .second, .unset, .unset, .unset] [.null, (.ref b6), (.ref b7), (.ref b8), (.ref b8)]))
    obtain ⟨_, _, ⟨T9, L9, kc9, ns9⟩, -, X9, ⟨Lc9, hQ9, l9, y9, z9⟩, st9⟩ := X8.specialBack hx (y := (⟨"com/example/ramification/ramification/model/StrahlerOrders", "<init>", "([I[DLjava/util/Optional;)V"⟩ : MethodName)) rfl hown (mvT hZ (hw _ (List.mem_of_getElem? (i := 6) rfl))) (mvT hZ (hw _ (List.mem_of_getElem? (i := 7) rfl))) (mvT hZ (hw _ (List.mem_of_getElem? (i := 8) rfl))) (by decide) (backOf (W := 1) (rm1_0 l Z a0 hw [] b8 b7 b6 k7 k6 h8 n0 (Nat.le_trans Z0 K8.1) A8 F_branches_b8 F_lengths_b8 F_unit_b8 (Arv.ext V7 E8) (Arv.ext (Arv.ext V6 E7) E8) (Exa.ext E8 AE7) (Exa.ext E8 (Exa.ext E7 AE6)) gn_b8 (Ne.symm (Nat.ne_of_lt (Nat.lt_of_lt_of_le AE7.lt (Nat.le_of_eq g8.symm)))) (Ne.symm (Nat.ne_of_lt (Nat.lt_of_lt_of_le (Exa.ext E7 AE6).lt (Nat.le_of_eq g8.symm))))) hZ (hw _ (List.mem_of_getElem? (i := 8) rfl)) (hw _ (List.mem_of_getElem? (i := 5) rfl)) (by decide) (by decide)) (g := (mkF m 171 #[.val (.int p1), .val (.int p2), .val (.int p3), .val (.int p4), .val (.int p5), .val (.int (0 : Int32)), .val (.int vb), .val (.ref b6), .val (.ref b7), .val (.long (0 : Int64)), .second, .unset, .unset, .unset] [.null, (.ref b6), (.ref b7), (.ref b8), (.ref b8)])) rfl (by rw [hml]; rfl) (Steps.refl _) (a := b8) (argsL := [(.ref b7), (.ref b6), .null]) (rest := [(.ref b8)]) (lenOf pd___I_DLjava_util_Optional__V rfl) rfl (by show 2 * 0 + _ ≤ _; exact Nat.le_of_eq rfl) (hb hby at_171) (fun _ _ => ⟨rfl, e8, (by decide : 3 + 2 ≤ _), (by decide : 3 + 0 ≤ _)⟩)
    dsimp only [Pt.U, Pt.locs, Pt.cells, Pt.slots] at X9 l9 y9 z9 st9 hQ9
    rw [l9, y9, z9] at X9
    obtain ⟨bD_9, rfl, N9q, P9_0, P9_1, P9_2, P9_3, P9_4⟩ := hQ9
    have K9 : Keep h0 T9.heap [] := Keep.trans K8 P9_0 (allS (Or.inr sz_b8) all0)
    have sz_bD_9 : h0.size ≤ bD_9 := Nat.le_trans K8.1 P9_4
    have N9 := Fr.app N0 N9q
    refine OwnR.of (fun _ hr => st9.trans hr) ?_
    show OwnR _ _ _ _ _ _ _ (T9.setTop (mkF m 174 #[.val (.int p1), .val (.int p2), .val (.int p3), .val (.int p4), .val (.int p5), .val (.int (0 : Int32)), .val (.int vb), .val (.ref b6), .val (.ref b7), .val (.long (0 : Int64)), .second, .unset, .unset, .unset] [(.ref b8)]))
    refine OwnR.of (fun _ hr => XS.astore X9.here hx rfl (hb hby at_174) rfl rfl (l' := #[.val (.int p1), .val (.int p2), .val (.int p3), .val (.int p4), .val (.int p5), .val (.int (0 : Int32)), .val (.int vb), .val (.ref b6), .val (.ref b7), .val (.long (0 : Int64)), .second, .val (.ref b8), .unset, .unset]) rfl hr) ?_
    show OwnR _ _ _ _ _ _ _ (T9.setTop (mkF m 176 #[.val (.int p1), .val (.int p2), .val (.int p3), .val (.int p4), .val (.int p5), .val (.int (0 : Int32)), .val (.int vb), .val (.ref b6), .val (.ref b7), .val (.long (0 : Int64)), .second, .val (.ref b8), .unset, .unset] []))
    refine OwnR.of (fun _ hr => XS.iload X9.here hx rfl (hb hby at_176) rfl hr) ?_
    show OwnR _ _ _ _ _ _ _ (T9.setTop (mkF m 178 #[.val (.int p1), .val (.int p2), .val (.int p3), .val (.int p4), .val (.int p5), .val (.int (0 : Int32)), .val (.int vb), .val (.ref b6), .val (.ref b7), .val (.long (0 : Int64)), .second, .val (.ref b8), .unset, .unset] [(.int (0 : Int32))]))
    refine OwnR.of (fun _ hr => XS.ifYes X9.here hx rfl (pc0 := 178) (pc' := 188) rfl (hb hby at_178) rfl ((if0 _ _).trans (flt (by decide : ¬ ((0 : Int32) < (0 : Int32)))).2.2.2) (by decide) (by decide) hr) ?_
    show OwnR _ _ _ _ _ _ _ (T9.setTop (mkF m 188 #[.val (.int p1), .val (.int p2), .val (.int p3), .val (.int p4), .val (.int p5), .val (.int (0 : Int32)), .val (.int vb), .val (.ref b6), .val (.ref b7), .val (.long (0 : Int64)), .second, .val (.ref b8), .unset, .unset] []))
    refine OwnR.of (fun _ hr => XS.aload X9.here hx rfl (hb hby at_188) rfl rfl hr) ?_
    show OwnR _ _ _ _ _ _ _ (T9.setTop (mkF m 190 #[.val (.int p1), .val (.int p2), .val (.int p3), .val (.int p4), .val (.int p5), .val (.int (0 : Int32)), .val (.int vb), .val (.ref b6), .val (.ref b7), .val (.long (0 : Int64)), .second, .val (.ref b8), .unset, .unset] [(.ref b8)]))
    obtain ⟨cq10, kq10, q10a, q10b, q10c⟩ := isOf hZ rfl P9_1
    obtain ⟨_, _, ⟨T10, L10, kc10, ns10⟩, -, X10, ⟨Lc10, hQ10, l10, y10, z10⟩, st10⟩ := X9.virtualBack hx (y := (⟨"com/example/ramification/ramification/model/StrahlerOrders", "getTotalLength", "()D"⟩ : MethodName)) (z := (⟨"com/example/ramification/ramification/model/StrahlerOrders", "getTotalLength", "()D"⟩ : MethodName)) hown (mvT hZ (hw _ (List.mem_of_getElem? (i := 33) rfl))) (mvT hZ (hw _ (List.mem_of_getElem? (i := 34) rfl))) (notFace_of_selects (args := #[]) (mvT hZ (hw _ (List.mem_of_getElem? (i := 36) rfl)))) (mvT hZ (hw _ (List.mem_of_getElem? (i := 36) rfl))) (mvT hZ (hw _ (List.mem_of_getElem? (i := 35) rfl))) (by decide) (backOf (W := 0) (rm3_0 l Z a0 hw [] b8 bD_9 k6 (T9.heap) n0 (Nat.le_trans Z0 K9.1) P9_1 P9_2 P9_3) hZ (hw _ (List.mem_of_getElem? (i := 37) rfl)) (hw _ (List.mem_of_getElem? (i := 5) rfl)) (by decide) (by decide)) q10a q10c (g := (mkF m 190 #[.val (.int p1), .val (.int p2), .val (.int p3), .val (.int p4), .val (.int p5), .val (.int (0 : Int32)), .val (.int vb), .val (.ref b6), .val (.ref b7), .val (.long (0 : Int64)), .second, .val (.ref b8), .unset, .unset] [(.ref b8)])) rfl (by rw [hml]; rfl) (Steps.refl _) (argsL := []) (rest := []) (lenOf pd___D rfl) rfl (by show 2 * 0 + _ ≤ _; exact Nat.le_of_eq rfl) (hb hby at_190) (fun _ _ => ⟨rfl, rfl, (by decide : 5 + 0 ≤ _), (by decide : 3 + 0 ≤ _)⟩)
    dsimp only [Pt.U, Pt.locs, Pt.cells, Pt.slots] at X10 l10 y10 z10 st10 hQ10
    rw [l10, y10, z10] at X10
    obtain ⟨rfl, N10q, e10⟩ := hQ10
    have N10 := Fr.app N9 N10q
    refine OwnR.of (fun _ hr => st10.trans hr) ?_
    show OwnR _ _ _ _ _ _ _ (T10.setTop (mkF m 193 #[.val (.int p1), .val (.int p2), .val (.int p3), .val (.int p4), .val (.int p5), .val (.int (0 : Int32)), .val (.int vb), .val (.ref b6), .val (.ref b7), .val (.long (0 : Int64)), .second, .val (.ref b8), .unset, .unset] [(.double (FP.l2d (0 : Int64)))]))
    refine OwnR.of (fun _ hr => XS.dstore X10.here hx rfl (hb hby at_193) rfl (l' := #[.val (.int p1), .val (.int p2), .val (.int p3), .val (.int p4), .val (.int p5), .val (.int (0 : Int32)), .val (.int vb), .val (.ref b6), .val (.ref b7), .val (.long (0 : Int64)), .second, .val (.ref b8), .val (.double (FP.l2d (0 : Int64))), .second]) rfl hr) ?_
    show OwnR _ _ _ _ _ _ _ (T10.setTop (mkF m 195 #[.val (.int p1), .val (.int p2), .val (.int p3), .val (.int p4), .val (.int p5), .val (.int (0 : Int32)), .val (.int vb), .val (.ref b6), .val (.ref b7), .val (.long (0 : Int64)), .second, .val (.ref b8), .val (.double (FP.l2d (0 : Int64))), .second] []))
    refine OwnR.of (fun _ hr => XS.dload X10.here hx rfl (hb hby at_195) rfl hr) ?_
    show OwnR _ _ _ _ _ _ _ (T10.setTop (mkF m 197 #[.val (.int p1), .val (.int p2), .val (.int p3), .val (.int p4), .val (.int p5), .val (.int (0 : Int32)), .val (.int vb), .val (.ref b6), .val (.ref b7), .val (.long (0 : Int64)), .second, .val (.ref b8), .val (.double (FP.l2d (0 : Int64))), .second] [(.double (FP.l2d (0 : Int64)))]))
    refine OwnR.of (fun _ hr => XS.lload X10.here hx rfl (hb hby at_197) rfl hr) ?_
    show OwnR _ _ _ _ _ _ _ (T10.setTop (mkF m 199 #[.val (.int p1), .val (.int p2), .val (.int p3), .val (.int p4), .val (.int p5), .val (.int (0 : Int32)), .val (.int vb), .val (.ref b6), .val (.ref b7), .val (.long (0 : Int64)), .second, .val (.ref b8), .val (.double (FP.l2d (0 : Int64))), .second] [(.long (0 : Int64)), (.double (FP.l2d (0 : Int64)))]))
    refine OwnR.of (fun _ hr => XS.l2dS X10.here hx rfl (hb hby at_199) rfl rfl hr) ?_
    show OwnR _ _ _ _ _ _ _ (T10.setTop (mkF m 200 #[.val (.int p1), .val (.int p2), .val (.int p3), .val (.int p4), .val (.int p5), .val (.int (0 : Int32)), .val (.int vb), .val (.ref b6), .val (.ref b7), .val (.long (0 : Int64)), .second, .val (.ref b8), .val (.double (FP.l2d (0 : Int64))), .second] [(.double (FP.l2d (0 : Int64))), (.double (FP.l2d (0 : Int64)))]))
    refine OwnR.of (fun _ hr => XS.dcmpS (v := (0 : Int32)) X10.here hx rfl (hb hby at_200) rfl (dcmpV_self (nn_w rfl) .l) hr) ?_
    show OwnR _ _ _ _ _ _ _ (T10.setTop (mkF m 201 #[.val (.int p1), .val (.int p2), .val (.int p3), .val (.int p4), .val (.int p5), .val (.int (0 : Int32)), .val (.int vb), .val (.ref b6), .val (.ref b7), .val (.long (0 : Int64)), .second, .val (.ref b8), .val (.double (FP.l2d (0 : Int64))), .second] [(.int (0 : Int32))]))
    refine OwnR.of (fun _ hr => XS.ifNo X10.here hx rfl (hb hby at_201) rfl ((if0 _ _).trans (teq (by decide : (0 : Int32) = (0 : Int32))).2) hr) ?_
    show OwnR _ _ _ _ _ _ _ (T10.setTop (mkF m 204 #[.val (.int p1), .val (.int p2), .val (.int p3), .val (.int p4), .val (.int p5), .val (.int (0 : Int32)), .val (.int vb), .val (.ref b6), .val (.ref b7), .val (.long (0 : Int64)), .second, .val (.ref b8), .val (.double (FP.l2d (0 : Int64))), .second] []))
    refine OwnR.of (fun _ hr => XS.iconst X10.here hx rfl (hb hby at_204) hr) ?_
    show OwnR _ _ _ _ _ _ _ (T10.setTop (mkF m 205 #[.val (.int p1), .val (.int p2), .val (.int p3), .val (.int p4), .val (.int p5), .val (.int (0 : Int32)), .val (.int vb), .val (.ref b6), .val (.ref b7), .val (.long (0 : Int64)), .second, .val (.ref b8), .val (.double (FP.l2d (0 : Int64))), .second] [(.int (1 : Int32))]))
    refine OwnR.of (fun _ hr => XS.goto X10.here hx rfl (pc0 := 205) (pc' := 209) rfl (hb hby at_205) (by decide) (by decide) hr) ?_
    show OwnR _ _ _ _ _ _ _ (T10.setTop (mkF m 209 #[.val (.int p1), .val (.int p2), .val (.int p3), .val (.int p4), .val (.int p5), .val (.int (0 : Int32)), .val (.int vb), .val (.ref b6), .val (.ref b7), .val (.long (0 : Int64)), .second, .val (.ref b8), .val (.double (FP.l2d (0 : Int64))), .second] [(.int (1 : Int32))]))
    refine own_leafN X10 hx hlk (t := .boolean) Bd.returns (by simp) (hb hby at_209) (z' := (1 : Int32)) rfl (by decide) (by decide) ?_
    show Q0 Z  h0 n0 _ T10.heap _
    rw [show T10.heap = T9.heap from e10]
    refine ⟨?_, N10⟩
    show (some (.int (1 : Int32)) : Option Value) = some (.int (1 : Int32))
    rfl
  · skip
    show OwnR _ _ _ _ _ _ _ (s₁.setTop (mkF m 14 #[.val (.int p1), .val (.int p2), .val (.int p3), .val (.int p4), .val (.int p5), .val (.int (1 : Int32)), .val (.int vb), .unset, .unset, .unset, .unset, .unset, .unset, .unset] []))
    refine OwnR.of (fun _ hr => XS.iload X0.here hx rfl (hb hby at_14) rfl hr) ?_
    show OwnR _ _ _ _ _ _ _ (s₁.setTop (mkF m 16 #[.val (.int p1), .val (.int p2), .val (.int p3), .val (.int p4), .val (.int p5), .val (.int (1 : Int32)), .val (.int vb), .unset, .unset, .unset, .unset, .unset, .unset, .unset] [(.int (1 : Int32))]))
    refine OwnR.of (fun _ hr => XS.ifYes X0.here hx rfl (pc0 := 16) (pc' := 35) rfl (hb hby at_16) rfl ((if0 _ _).trans (feq (by decide : ¬ ((1 : Int32) = (0 : Int32)))).2) (by decide) (by decide) hr) ?_
    show OwnR _ _ _ _ _ _ _ (s₁.setTop (mkF m 35 #[.val (.int p1), .val (.int p2), .val (.int p3), .val (.int p4), .val (.int p5), .val (.int (1 : Int32)), .val (.int vb), .unset, .unset, .unset, .unset, .unset, .unset, .unset] []))
    refine OwnR.of (fun _ hr => XS.iload X0.here hx rfl (hb hby at_35) rfl hr) ?_
    show OwnR _ _ _ _ _ _ _ (s₁.setTop (mkF m 37 #[.val (.int p1), .val (.int p2), .val (.int p3), .val (.int p4), .val (.int p5), .val (.int (1 : Int32)), .val (.int vb), .unset, .unset, .unset, .unset, .unset, .unset, .unset] [(.int (1 : Int32))]))
    refine OwnR.of (fun _ hr => XS.iconst X0.here hx rfl (hb hby at_37) hr) ?_
    show OwnR _ _ _ _ _ _ _ (s₁.setTop (mkF m 38 #[.val (.int p1), .val (.int p2), .val (.int p3), .val (.int p4), .val (.int p5), .val (.int (1 : Int32)), .val (.int vb), .unset, .unset, .unset, .unset, .unset, .unset, .unset] [(.int (1 : Int32)), (.int (1 : Int32))]))
    refine OwnR.of (fun _ hr => XS.icmpNo X0.here hx rfl (hb hby at_38) rfl (teq (by decide : (1 : Int32) = (1 : Int32))).2 hr) ?_
    show OwnR _ _ _ _ _ _ _ (s₁.setTop (mkF m 41 #[.val (.int p1), .val (.int p2), .val (.int p3), .val (.int p4), .val (.int p5), .val (.int (1 : Int32)), .val (.int vb), .unset, .unset, .unset, .unset, .unset, .unset, .unset] []))
    refine OwnR.of (fun _ hr => XS.iconst X0.here hx rfl (hb hby at_41) hr) ?_
    show OwnR _ _ _ _ _ _ _ (s₁.setTop (mkF m 42 #[.val (.int p1), .val (.int p2), .val (.int p3), .val (.int p4), .val (.int p5), .val (.int (1 : Int32)), .val (.int vb), .unset, .unset, .unset, .unset, .unset, .unset, .unset] [(.int (1 : Int32))]))
    obtain ⟨T11, h11, k11, X11, e11, E11, A11, AE11, st11⟩ := newPE X0 hx hZ (hw _ (List.mem_of_getElem? (i := 1) rfl)) e0 (g := (mkF m 42 #[.val (.int p1), .val (.int p2), .val (.int p3), .val (.int p4), .val (.int p5), .val (.int (1 : Int32)), .val (.int vb), .unset, .unset, .unset, .unset, .unset, .unset, .unset] [(.int (1 : Int32))])) rfl (hb hby at_42) rfl (by decide) (cap := 1) (by decide) (by decide) (by decide) (by decide) (ad := "[D") rfl
    obtain ⟨b11, g11⟩ : ∃ z, z = h0.size := ⟨_, rfl⟩
    rw [← g11] at A11 AE11 st11
    refine OwnR.of (st11) ?_
    have gn_b11 : n0 ≤ b11 := Nat.le_trans (Nat.le_trans Z0 (Keep.refl h0 []).1) (Nat.le_of_eq g11.symm)
    have sz_b11 : h0.size ≤ b11 := Nat.le_trans (Keep.refl h0 []).1 (Nat.le_of_eq g11.symm)
    have K11 : Keep h0 h11 [] := Keep.ext (Keep.refl h0 []) E11
    have V11 : Arv Z h11 b11 k11 .double (1 : Int32) [(.double (0 : UInt64))] (.double (0 : UInt64)) := (Arv.new A11 (by decide)).pad (pad_rep [] (.double (0 : UInt64)) 1)
    show OwnR _ _ _ _ _ _ _ (T11.setTop (mkF m 44 #[.val (.int p1), .val (.int p2), .val (.int p3), .val (.int p4), .val (.int p5), .val (.int (1 : Int32)), .val (.int vb), .unset, .unset, .unset, .unset, .unset, .unset, .unset] [(.ref b11)]))
    refine OwnR.of (fun _ hr => XS.dup X11.here hx rfl (hb hby at_44) rfl rfl hr) ?_
    show OwnR _ _ _ _ _ _ _ (T11.setTop (mkF m 45 #[.val (.int p1), .val (.int p2), .val (.int p3), .val (.int p4), .val (.int p5), .val (.int (1 : Int32)), .val (.int vb), .unset, .unset, .unset, .unset, .unset, .unset, .unset] [(.ref b11), (.ref b11)]))
    refine OwnR.of (fun _ hr => XS.iconst X11.here hx rfl (hb hby at_45) hr) ?_
    show OwnR _ _ _ _ _ _ _ (T11.setTop (mkF m 46 #[.val (.int p1), .val (.int p2), .val (.int p3), .val (.int p4), .val (.int p5), .val (.int (1 : Int32)), .val (.int vb), .unset, .unset, .unset, .unset, .unset, .unset, .unset] [(.int (0 : Int32)), (.ref b11), (.ref b11)]))
    refine OwnR.of (fun _ hr => XS.iloadN X11.here hx rfl (hb hby at_46) rfl hr) ?_
    show OwnR _ _ _ _ _ _ _ (T11.setTop (mkF m 47 #[.val (.int p1), .val (.int p2), .val (.int p3), .val (.int p4), .val (.int p5), .val (.int (1 : Int32)), .val (.int vb), .unset, .unset, .unset, .unset, .unset, .unset, .unset] [(.int p2), (.int (0 : Int32)), (.ref b11), (.ref b11)]))
    refine OwnR.of (fun _ hr => XS.i2dS X11.here hx rfl (hb hby at_47) rfl (i2d_w _) hr) ?_
    show OwnR _ _ _ _ _ _ _ (T11.setTop (mkF m 48 #[.val (.int p1), .val (.int p2), .val (.int p3), .val (.int p4), .val (.int p5), .val (.int (1 : Int32)), .val (.int vb), .unset, .unset, .unset, .unset, .unset, .unset, .unset] [(.double (FP.l2d (p2.toInt64))), (.int (0 : Int32)), (.ref b11), (.ref b11)]))
    obtain ⟨cl12, Ar12, q12, S12, N12q, H12, G12⟩ := id V11
    have hin12 : ¬ ((0 : Int32) < 0 ∨ cl12.slots.size ≤ ((0 : Int32)).toNatClampNeg) := (inb_of S12 ⟨by decide, by decide⟩)
    obtain ⟨T12, h12, X12, e12, W12, st12⟩ := stD X11 hx hZ e11 Ar12 (j := (0 : Int32)) hin12 (g := (mkF m 48 #[.val (.int p1), .val (.int p2), .val (.int p3), .val (.int p4), .val (.int p5), .val (.int (1 : Int32)), .val (.int vb), .unset, .unset, .unset, .unset, .unset, .unset, .unset] [(.double (FP.l2d (p2.toInt64))), (.int (0 : Int32)), (.ref b11), (.ref b11)])) rfl rfl (hb hby at_48)
    refine OwnR.of (st12) ?_
    have V12 := Arv.set Ar12 q12 S12 N12q H12 G12 rfl W12 0 rfl (Nat.le_of_ble_eq_true rfl)
    have V12 : Arv Z h12 b11 k11 .double (1 : Int32) [(.double (FP.l2d (p2.toInt64)))] (.double (0 : UInt64)) := V12
    have K12 : Keep h0 h12 [] := Keep.wr K11 W12 (Or.inr sz_b11)
    have N12 := Fr.snoc X12 N0 gn_b11
    show OwnR _ _ _ _ _ _ _ (T12.setTop (mkF m 49 #[.val (.int p1), .val (.int p2), .val (.int p3), .val (.int p4), .val (.int p5), .val (.int (1 : Int32)), .val (.int vb), .unset, .unset, .unset, .unset, .unset, .unset, .unset] [(.ref b11)]))
    refine OwnR.of (fun _ hr => XS.astore X12.here hx rfl (hb hby at_49) rfl rfl (l' := #[.val (.int p1), .val (.int p2), .val (.int p3), .val (.int p4), .val (.int p5), .val (.int (1 : Int32)), .val (.int vb), .val (.ref b11), .unset, .unset, .unset, .unset, .unset, .unset]) rfl hr) ?_
    show OwnR _ _ _ _ _ _ _ (T12.setTop (mkF m 51 #[.val (.int p1), .val (.int p2), .val (.int p3), .val (.int p4), .val (.int p5), .val (.int (1 : Int32)), .val (.int vb), .val (.ref b11), .unset, .unset, .unset, .unset, .unset, .unset] []))
    refine OwnR.of (fun _ hr => XS.iconst X12.here hx rfl (hb hby at_51) hr) ?_
    show OwnR _ _ _ _ _ _ _ (T12.setTop (mkF m 52 #[.val (.int p1), .val (.int p2), .val (.int p3), .val (.int p4), .val (.int p5), .val (.int (1 : Int32)), .val (.int vb), .val (.ref b11), .unset, .unset, .unset, .unset, .unset, .unset] [(.int (1 : Int32))]))
    obtain ⟨T13, h13, k13, X13, e13, E13, A13, AE13, st13⟩ := newPE X12 hx hZ (hw _ (List.mem_of_getElem? (i := 2) rfl)) e12 (g := (mkF m 52 #[.val (.int p1), .val (.int p2), .val (.int p3), .val (.int p4), .val (.int p5), .val (.int (1 : Int32)), .val (.int vb), .val (.ref b11), .unset, .unset, .unset, .unset, .unset, .unset] [(.int (1 : Int32))])) rfl (hb hby at_52) rfl (by decide) (cap := 1) (by decide) (by decide) (by decide) (by decide) (ad := "[I") rfl
    obtain ⟨b13, g13⟩ : ∃ z, z = h12.size := ⟨_, rfl⟩
    rw [← g13] at A13 AE13 st13
    refine OwnR.of (st13) ?_
    have gn_b13 : n0 ≤ b13 := Nat.le_trans (Nat.le_trans Z0 K12.1) (Nat.le_of_eq g13.symm)
    have sz_b13 : h0.size ≤ b13 := Nat.le_trans K12.1 (Nat.le_of_eq g13.symm)
    have K13 : Keep h0 h13 [] := Keep.ext K12 E13
    have V13 : Arv Z h13 b13 k13 .int (1 : Int32) [(.int (0 : Int32))] (.int (0 : Int32)) := (Arv.new A13 (by decide)).pad (pad_rep [] (.int (0 : Int32)) 1)
    show OwnR _ _ _ _ _ _ _ (T13.setTop (mkF m 54 #[.val (.int p1), .val (.int p2), .val (.int p3), .val (.int p4), .val (.int p5), .val (.int (1 : Int32)), .val (.int vb), .val (.ref b11), .unset, .unset, .unset, .unset, .unset, .unset] [(.ref b13)]))
    refine OwnR.of (fun _ hr => XS.dup X13.here hx rfl (hb hby at_54) rfl rfl hr) ?_
    show OwnR _ _ _ _ _ _ _ (T13.setTop (mkF m 55 #[.val (.int p1), .val (.int p2), .val (.int p3), .val (.int p4), .val (.int p5), .val (.int (1 : Int32)), .val (.int vb), .val (.ref b11), .unset, .unset, .unset, .unset, .unset, .unset] [(.ref b13), (.ref b13)]))
    refine OwnR.of (fun _ hr => XS.iconst X13.here hx rfl (hb hby at_55) hr) ?_
    show OwnR _ _ _ _ _ _ _ (T13.setTop (mkF m 56 #[.val (.int p1), .val (.int p2), .val (.int p3), .val (.int p4), .val (.int p5), .val (.int (1 : Int32)), .val (.int vb), .val (.ref b11), .unset, .unset, .unset, .unset, .unset, .unset] [(.int (0 : Int32)), (.ref b13), (.ref b13)]))
    refine OwnR.of (fun _ hr => XS.iload X13.here hx rfl (hb hby at_56) rfl hr) ?_
    show OwnR _ _ _ _ _ _ _ (T13.setTop (mkF m 58 #[.val (.int p1), .val (.int p2), .val (.int p3), .val (.int p4), .val (.int p5), .val (.int (1 : Int32)), .val (.int vb), .val (.ref b11), .unset, .unset, .unset, .unset, .unset, .unset] [(.int vb), (.int (0 : Int32)), (.ref b13), (.ref b13)]))
    obtain ⟨cl14, Ar14, q14, S14, N14q, H14, G14⟩ := id V13
    have hin14 : ¬ ((0 : Int32) < 0 ∨ cl14.slots.size ≤ ((0 : Int32)).toNatClampNeg) := (inb_of S14 ⟨by decide, by decide⟩)
    obtain ⟨T14, h14, X14, e14, W14, st14⟩ := stI X13 hx hZ e13 Ar14 (j := (0 : Int32)) hin14 (g := (mkF m 58 #[.val (.int p1), .val (.int p2), .val (.int p3), .val (.int p4), .val (.int p5), .val (.int (1 : Int32)), .val (.int vb), .val (.ref b11), .unset, .unset, .unset, .unset, .unset, .unset] [(.int vb), (.int (0 : Int32)), (.ref b13), (.ref b13)])) rfl rfl (hb hby at_58)
    refine OwnR.of (st14) ?_
    have V14 := Arv.set Ar14 q14 S14 N14q H14 G14 rfl W14 0 rfl (Nat.le_of_ble_eq_true rfl)
    have V14 : Arv Z h14 b13 k13 .int (1 : Int32) [(.int vb)] (.int (0 : Int32)) := V14
    have K14 : Keep h0 h14 [] := Keep.wr K13 W14 (Or.inr sz_b13)
    have N14 := Fr.snoc X14 N12 gn_b13
    show OwnR _ _ _ _ _ _ _ (T14.setTop (mkF m 59 #[.val (.int p1), .val (.int p2), .val (.int p3), .val (.int p4), .val (.int p5), .val (.int (1 : Int32)), .val (.int vb), .val (.ref b11), .unset, .unset, .unset, .unset, .unset, .unset] [(.ref b13)]))
    refine OwnR.of (fun _ hr => XS.astore X14.here hx rfl (hb hby at_59) rfl rfl (l' := #[.val (.int p1), .val (.int p2), .val (.int p3), .val (.int p4), .val (.int p5), .val (.int (1 : Int32)), .val (.int vb), .val (.ref b11), .val (.ref b13), .unset, .unset, .unset, .unset, .unset]) rfl hr) ?_
    show OwnR _ _ _ _ _ _ _ (T14.setTop (mkF m 61 #[.val (.int p1), .val (.int p2), .val (.int p3), .val (.int p4), .val (.int p5), .val (.int (1 : Int32)), .val (.int vb), .val (.ref b11), .val (.ref b13), .unset, .unset, .unset, .unset, .unset] []))
    refine OwnR.of (fun _ hr => XS.iloadN X14.here hx rfl (hb hby at_61) rfl hr) ?_
    show OwnR _ _ _ _ _ _ _ (T14.setTop (mkF m 62 #[.val (.int p1), .val (.int p2), .val (.int p3), .val (.int p4), .val (.int p5), .val (.int (1 : Int32)), .val (.int vb), .val (.ref b11), .val (.ref b13), .unset, .unset, .unset, .unset, .unset] [(.int p2)]))
    refine OwnR.of (fun _ hr => XS.i2l X14.here hx rfl (hb hby at_62) rfl hr) ?_
    show OwnR _ _ _ _ _ _ _ (T14.setTop (mkF m 63 #[.val (.int p1), .val (.int p2), .val (.int p3), .val (.int p4), .val (.int p5), .val (.int (1 : Int32)), .val (.int vb), .val (.ref b11), .val (.ref b13), .unset, .unset, .unset, .unset, .unset] [(.long (p2.toInt64))]))
    refine OwnR.of (fun _ hr => XS.lstore X14.here hx rfl (hb hby at_63) rfl (l' := #[.val (.int p1), .val (.int p2), .val (.int p3), .val (.int p4), .val (.int p5), .val (.int (1 : Int32)), .val (.int vb), .val (.ref b11), .val (.ref b13), .val (.long (p2.toInt64)), .second, .unset, .unset, .unset]) rfl hr) ?_
    show OwnR _ _ _ _ _ _ _ (T14.setTop (mkF m 65 #[.val (.int p1), .val (.int p2), .val (.int p3), .val (.int p4), .val (.int p5), .val (.int (1 : Int32)), .val (.int vb), .val (.ref b11), .val (.ref b13), .val (.long (p2.toInt64)), .second, .unset, .unset, .unset] []))
    refine OwnR.of (fun _ hr => XS.goto X14.here hx rfl (pc0 := 65) (pc' := 162) rfl (hb hby at_65) (by decide) (by decide) hr) ?_
    show OwnR _ _ _ _ _ _ _ (T14.setTop (mkF m 162 #[.val (.int p1), .val (.int p2), .val (.int p3), .val (.int p4), .val (.int p5), .val (.int (1 : Int32)), .val (.int vb), .val (.ref b11), .val (.ref b13), .val (.long (p2.toInt64)), .second, .unset, .unset, .unset] []))
    obtain ⟨T15, h15, X15, e15, E15, A15, D15, -, st15⟩ := newO X14 hx hZ hown (hw _ (List.mem_of_getElem? (i := 3) rfl)) (hw _ (List.mem_of_getElem? (i := 4) rfl)) (hw _ (List.mem_of_getElem? (i := 5) rfl)) e14 (g := (mkF m 162 #[.val (.int p1), .val (.int p2), .val (.int p3), .val (.int p4), .val (.int p5), .val (.int (1 : Int32)), .val (.int vb), .val (.ref b11), .val (.ref b13), .val (.long (p2.toInt64)), .second, .unset, .unset, .unset] [])) rfl (hb hby at_162) (by decide) (by decide)
    obtain ⟨b15, g15⟩ : ∃ z, z = h14.size := ⟨_, rfl⟩
    rw [← g15] at A15 D15 st15
    refine OwnR.of (st15) ?_
    have gn_b15 : n0 ≤ b15 := Nat.le_trans (Nat.le_trans Z0 K14.1) (Nat.le_of_eq g15.symm)
    have sz_b15 : h0.size ≤ b15 := Nat.le_trans K14.1 (Nat.le_of_eq g15.symm)
    have K15 : Keep h0 h15 [] := Keep.ext K14 E15
    have F_branches_b15 : Fld Z h15 b15 "com/example/ramification/ramification/model/StrahlerOrders" "branches" "[I" .null := D15 (Or.inr (hw _ (List.mem_of_getElem? (i := 22) rfl))) (ty := (.array .int)) (by decide)
    have F_lengths_b15 : Fld Z h15 b15 "com/example/ramification/ramification/model/StrahlerOrders" "lengths" "[D" .null := D15 (Or.inr (hw _ (List.mem_of_getElem? (i := 30) rfl))) (ty := (.array .double)) (by decide)
    have F_unit_b15 : Fld Z h15 b15 "com/example/ramification/ramification/model/StrahlerOrders" "unit" "Ljava/util/Optional;" .null := D15 (Or.inr (hw _ (List.mem_of_getElem? (i := 32) rfl))) (ty := (.object "java/util/Optional")) (by decide)
    show OwnR _ _ _ _ _ _ _ (T15.setTop (mkF m 165 #[.val (.int p1), .val (.int p2), .val (.int p3), .val (.int p4), .val (.int p5), .val (.int (1 : Int32)), .val (.int vb), .val (.ref b11), .val (.ref b13), .val (.long (p2.toInt64)), .second, .unset, .unset, .unset] [(.ref b15)]))
    refine OwnR.of (fun _ hr => XS.dup X15.here hx rfl (hb hby at_165) rfl rfl hr) ?_
    show OwnR _ _ _ _ _ _ _ (T15.setTop (mkF m 166 #[.val (.int p1), .val (.int p2), .val (.int p3), .val (.int p4), .val (.int p5), .val (.int (1 : Int32)), .val (.int vb), .val (.ref b11), .val (.ref b13), .val (.long (p2.toInt64)), .second, .unset, .unset, .unset] [(.ref b15), (.ref b15)]))
    refine OwnR.of (fun _ hr => XS.aload X15.here hx rfl (hb hby at_166) rfl rfl hr) ?_
    show OwnR _ _ _ _ _ _ _ (T15.setTop (mkF m 168 #[.val (.int p1), .val (.int p2), .val (.int p3), .val (.int p4), .val (.int p5), .val (.int (1 : Int32)), .val (.int vb), .val (.ref b11), .val (.ref b13), .val (.long (p2.toInt64)), .second, .unset, .unset, .unset] [(.ref b13), (.ref b15), (.ref b15)]))
    refine OwnR.of (fun _ hr => XS.aload X15.here hx rfl (hb hby at_168) rfl rfl hr) ?_
    show OwnR _ _ _ _ _ _ _ (T15.setTop (mkF m 170 #[.val (.int p1), .val (.int p2), .val (.int p3), .val (.int p4), .val (.int p5), .val (.int (1 : Int32)), .val (.int vb), .val (.ref b11), .val (.ref b13), .val (.long (p2.toInt64)), .second, .unset, .unset, .unset] [(.ref b11), (.ref b13), (.ref b15), (.ref b15)]))
    refine OwnR.of (fun _ hr => XS.aconstNull X15.here hx rfl (hb hby at_170) hr) ?_
    show OwnR _ _ _ _ _ _ _ (T15.setTop (mkF m 171 #[.val (.int p1), .val (.int p2), .val (.int p3), .val (.int p4), .val (.int p5), .val (.int (1 : Int32)), .val (.int vb), .val (.ref b11), .val (.ref b13), .val (.long (p2.toInt64)), .second, .unset, .unset, .unset] [.null, (.ref b11), (.ref b13), (.ref b15), (.ref b15)]))
    obtain ⟨_, _, ⟨T16, L16, kc16, ns16⟩, -, X16, ⟨Lc16, hQ16, l16, y16, z16⟩, st16⟩ := X15.specialBack hx (y := (⟨"com/example/ramification/ramification/model/StrahlerOrders", "<init>", "([I[DLjava/util/Optional;)V"⟩ : MethodName)) rfl hown (mvT hZ (hw _ (List.mem_of_getElem? (i := 6) rfl))) (mvT hZ (hw _ (List.mem_of_getElem? (i := 7) rfl))) (mvT hZ (hw _ (List.mem_of_getElem? (i := 8) rfl))) (by decide) (backOf (W := 1) (rm1_1 l Z a0 hw [] b15 b13 b11 k13 k11 vb (FP.l2d (p2.toInt64)) h15 n0 (Nat.le_trans Z0 K15.1) A15 F_branches_b15 F_lengths_b15 F_unit_b15 (Arv.ext V14 E15) (Arv.ext (Arv.other (Arv.ext V12 E13) W14 (Nat.ne_of_lt (Nat.lt_of_lt_of_le (Exa.wr W12 AE11).lt (Nat.le_of_eq g13.symm)))) E15) (Exa.ext E15 (Exa.wr W14 AE13)) (Exa.ext E15 (Exa.wr W14 (Exa.ext E13 (Exa.wr W12 AE11)))) gn_b15 (Ne.symm (Nat.ne_of_lt (Nat.lt_of_lt_of_le (Exa.wr W14 AE13).lt (Nat.le_of_eq g15.symm)))) (Ne.symm (Nat.ne_of_lt (Nat.lt_of_lt_of_le (Exa.wr W14 (Exa.ext E13 (Exa.wr W12 AE11))).lt (Nat.le_of_eq g15.symm)))) hvb1) hZ (hw _ (List.mem_of_getElem? (i := 8) rfl)) (hw _ (List.mem_of_getElem? (i := 5) rfl)) (by decide) (by decide)) (g := (mkF m 171 #[.val (.int p1), .val (.int p2), .val (.int p3), .val (.int p4), .val (.int p5), .val (.int (1 : Int32)), .val (.int vb), .val (.ref b11), .val (.ref b13), .val (.long (p2.toInt64)), .second, .unset, .unset, .unset] [.null, (.ref b11), (.ref b13), (.ref b15), (.ref b15)])) rfl (by rw [hml]; rfl) (Steps.refl _) (a := b15) (argsL := [(.ref b13), (.ref b11), .null]) (rest := [(.ref b15)]) (lenOf pd___I_DLjava_util_Optional__V rfl) rfl (by show 2 * 0 + _ ≤ _; exact Nat.le_of_eq rfl) (hb hby at_171) (fun _ _ => ⟨rfl, e15, (by decide : 3 + 2 ≤ _), (by decide : 5 + 2 ≤ _)⟩)
    dsimp only [Pt.U, Pt.locs, Pt.cells, Pt.slots] at X16 l16 y16 z16 st16 hQ16
    rw [l16, y16, z16] at X16
    obtain ⟨bD_16, rfl, N16q, P16_0, P16_1, P16_2, P16_3, P16_4⟩ := hQ16
    have K16 : Keep h0 T16.heap [] := Keep.trans K15 P16_0 (allS (Or.inr sz_b15) all0)
    have sz_bD_16 : h0.size ≤ bD_16 := Nat.le_trans K15.1 P16_4
    have N16 := Fr.app N14 N16q
    refine OwnR.of (fun _ hr => st16.trans hr) ?_
    show OwnR _ _ _ _ _ _ _ (T16.setTop (mkF m 174 #[.val (.int p1), .val (.int p2), .val (.int p3), .val (.int p4), .val (.int p5), .val (.int (1 : Int32)), .val (.int vb), .val (.ref b11), .val (.ref b13), .val (.long (p2.toInt64)), .second, .unset, .unset, .unset] [(.ref b15)]))
    refine OwnR.of (fun _ hr => XS.astore X16.here hx rfl (hb hby at_174) rfl rfl (l' := #[.val (.int p1), .val (.int p2), .val (.int p3), .val (.int p4), .val (.int p5), .val (.int (1 : Int32)), .val (.int vb), .val (.ref b11), .val (.ref b13), .val (.long (p2.toInt64)), .second, .val (.ref b15), .unset, .unset]) rfl hr) ?_
    show OwnR _ _ _ _ _ _ _ (T16.setTop (mkF m 176 #[.val (.int p1), .val (.int p2), .val (.int p3), .val (.int p4), .val (.int p5), .val (.int (1 : Int32)), .val (.int vb), .val (.ref b11), .val (.ref b13), .val (.long (p2.toInt64)), .second, .val (.ref b15), .unset, .unset] []))
    refine OwnR.of (fun _ hr => XS.iload X16.here hx rfl (hb hby at_176) rfl hr) ?_
    show OwnR _ _ _ _ _ _ _ (T16.setTop (mkF m 178 #[.val (.int p1), .val (.int p2), .val (.int p3), .val (.int p4), .val (.int p5), .val (.int (1 : Int32)), .val (.int vb), .val (.ref b11), .val (.ref b13), .val (.long (p2.toInt64)), .second, .val (.ref b15), .unset, .unset] [(.int (1 : Int32))]))
    refine OwnR.of (fun _ hr => XS.ifNo X16.here hx rfl (hb hby at_178) rfl ((if0 _ _).trans (tlt (by decide : (0 : Int32) < (1 : Int32))).2.2.2) hr) ?_
    show OwnR _ _ _ _ _ _ _ (T16.setTop (mkF m 181 #[.val (.int p1), .val (.int p2), .val (.int p3), .val (.int p4), .val (.int p5), .val (.int (1 : Int32)), .val (.int vb), .val (.ref b11), .val (.ref b13), .val (.long (p2.toInt64)), .second, .val (.ref b15), .unset, .unset] []))
    refine OwnR.of (fun _ hr => XS.aload X16.here hx rfl (hb hby at_181) rfl rfl hr) ?_
    show OwnR _ _ _ _ _ _ _ (T16.setTop (mkF m 183 #[.val (.int p1), .val (.int p2), .val (.int p3), .val (.int p4), .val (.int p5), .val (.int (1 : Int32)), .val (.int vb), .val (.ref b11), .val (.ref b13), .val (.long (p2.toInt64)), .second, .val (.ref b15), .unset, .unset] [(.ref b11)]))
    refine OwnR.of (fun _ hr => XS.iconst X16.here hx rfl (hb hby at_183) hr) ?_
    show OwnR _ _ _ _ _ _ _ (T16.setTop (mkF m 184 #[.val (.int p1), .val (.int p2), .val (.int p3), .val (.int p4), .val (.int p5), .val (.int (1 : Int32)), .val (.int vb), .val (.ref b11), .val (.ref b13), .val (.long (p2.toInt64)), .second, .val (.ref b15), .unset, .unset] [(.int (0 : Int32)), (.ref b11)]))
    refine OwnR.of (X16.ldc2DoubleC hx hown (mvT hZ (hw _ (List.mem_of_getElem? (i := 38) rfl))) (g := (mkF m 184 #[.val (.int p1), .val (.int p2), .val (.int p3), .val (.int p4), .val (.int p5), .val (.int (1 : Int32)), .val (.int vb), .val (.ref b11), .val (.ref b13), .val (.long (p2.toInt64)), .second, .val (.ref b15), .unset, .unset] [(.int (0 : Int32)), (.ref b11)])) rfl (hb hby at_184)) ?_
    show OwnR _ _ _ _ _ _ _ (T16.setTop (mkF m 187 #[.val (.int p1), .val (.int p2), .val (.int p3), .val (.int p4), .val (.int p5), .val (.int (1 : Int32)), .val (.int vb), .val (.ref b11), .val (.ref b13), .val (.long (p2.toInt64)), .second, .val (.ref b15), .unset, .unset] [(.double (4602678819172646912 : UInt64)), (.int (0 : Int32)), (.ref b11)]))
    obtain ⟨cl17, Ar17, q17, S17, N17q, H17, G17⟩ := id ((Arv.ext (Arv.other (Arv.ext V12 E13) W14 (Nat.ne_of_lt (Nat.lt_of_lt_of_le (Exa.wr W12 AE11).lt (Nat.le_of_eq g13.symm)))) E15).keep P16_0 (ninS (Nat.ne_of_lt (Nat.lt_of_lt_of_le (Exa.wr W14 (Exa.ext E13 (Exa.wr W12 AE11))).lt (Nat.le_of_eq g15.symm))) nin0))
    have hin17 : ¬ ((0 : Int32) < 0 ∨ cl17.slots.size ≤ ((0 : Int32)).toNatClampNeg) := (inb_of S17 ⟨by decide, by decide⟩)
    obtain ⟨T17, h17, X17, e17, W17, st17⟩ := stD X16 hx hZ rfl Ar17 (j := (0 : Int32)) hin17 (g := (mkF m 187 #[.val (.int p1), .val (.int p2), .val (.int p3), .val (.int p4), .val (.int p5), .val (.int (1 : Int32)), .val (.int vb), .val (.ref b11), .val (.ref b13), .val (.long (p2.toInt64)), .second, .val (.ref b15), .unset, .unset] [(.double (4602678819172646912 : UInt64)), (.int (0 : Int32)), (.ref b11)])) rfl rfl (hb hby at_187)
    refine OwnR.of (st17) ?_
    have V17 := Arv.set Ar17 q17 S17 N17q H17 G17 rfl W17 0 rfl (Nat.le_of_ble_eq_true rfl)
    have V17 : Arv Z h17 b11 k11 .double (1 : Int32) [(.double (4602678819172646912 : UInt64))] (.double (0 : UInt64)) := V17
    have K17 : Keep h0 h17 [] := Keep.wr K16 W17 (Or.inr sz_b11)
    have N17 := Fr.snoc X17 N16 gn_b11
    show OwnR _ _ _ _ _ _ _ (T17.setTop (mkF m 188 #[.val (.int p1), .val (.int p2), .val (.int p3), .val (.int p4), .val (.int p5), .val (.int (1 : Int32)), .val (.int vb), .val (.ref b11), .val (.ref b13), .val (.long (p2.toInt64)), .second, .val (.ref b15), .unset, .unset] []))
    refine OwnR.of (fun _ hr => XS.aload X17.here hx rfl (hb hby at_188) rfl rfl hr) ?_
    show OwnR _ _ _ _ _ _ _ (T17.setTop (mkF m 190 #[.val (.int p1), .val (.int p2), .val (.int p3), .val (.int p4), .val (.int p5), .val (.int (1 : Int32)), .val (.int vb), .val (.ref b11), .val (.ref b13), .val (.long (p2.toInt64)), .second, .val (.ref b15), .unset, .unset] [(.ref b15)]))
    obtain ⟨cq18, kq18, q18a, q18b, q18c⟩ := isOf hZ e17 (Exa.wr W17 P16_1)
    obtain ⟨_, _, ⟨T18, L18, kc18, ns18⟩, -, X18, ⟨Lc18, hQ18, l18, y18, z18⟩, st18⟩ := X17.virtualBack hx (y := (⟨"com/example/ramification/ramification/model/StrahlerOrders", "getTotalLength", "()D"⟩ : MethodName)) (z := (⟨"com/example/ramification/ramification/model/StrahlerOrders", "getTotalLength", "()D"⟩ : MethodName)) hown (mvT hZ (hw _ (List.mem_of_getElem? (i := 33) rfl))) (mvT hZ (hw _ (List.mem_of_getElem? (i := 34) rfl))) (notFace_of_selects (args := #[]) (mvT hZ (hw _ (List.mem_of_getElem? (i := 36) rfl)))) (mvT hZ (hw _ (List.mem_of_getElem? (i := 36) rfl))) (mvT hZ (hw _ (List.mem_of_getElem? (i := 35) rfl))) (by decide) (backOf (W := 0) (rm3_1 l Z a0 hw [] b15 bD_16 k11 (p2.toInt64) h17 n0 (Nat.le_trans Z0 K17.1) (Exa.wr W17 P16_1) (Fld.other W17 P16_2 (Or.inl (Ne.symm (Nat.ne_of_lt (Nat.lt_of_lt_of_le (Exa.wr W14 (Exa.ext E13 (Exa.wr W12 AE11))).lt (Nat.le_of_eq g15.symm)))))) (Arv.other P16_3 W17 (Ne.symm (Nat.ne_of_lt (Nat.lt_of_lt_of_le (Exa.ext E15 (Exa.wr W14 (Exa.ext E13 (Exa.wr W12 AE11)))).lt P16_4)))) (own_s1 p2)) hZ (hw _ (List.mem_of_getElem? (i := 37) rfl)) (hw _ (List.mem_of_getElem? (i := 5) rfl)) (by decide) (by decide)) q18a q18c (g := (mkF m 190 #[.val (.int p1), .val (.int p2), .val (.int p3), .val (.int p4), .val (.int p5), .val (.int (1 : Int32)), .val (.int vb), .val (.ref b11), .val (.ref b13), .val (.long (p2.toInt64)), .second, .val (.ref b15), .unset, .unset] [(.ref b15)])) rfl (by rw [hml]; rfl) (Steps.refl _) (argsL := []) (rest := []) (lenOf pd___D rfl) rfl (by show 2 * 0 + _ ≤ _; exact Nat.le_of_eq rfl) (hb hby at_190) (fun _ _ => ⟨rfl, e17, (by decide : 5 + 0 ≤ _), (by decide : 7 + 0 ≤ _)⟩)
    dsimp only [Pt.U, Pt.locs, Pt.cells, Pt.slots] at X18 l18 y18 z18 st18 hQ18
    rw [l18, y18, z18] at X18
    obtain ⟨rfl, N18q, e18⟩ := hQ18
    have N18 := Fr.app N17 N18q
    refine OwnR.of (fun _ hr => st18.trans hr) ?_
    show OwnR _ _ _ _ _ _ _ (T18.setTop (mkF m 193 #[.val (.int p1), .val (.int p2), .val (.int p3), .val (.int p4), .val (.int p5), .val (.int (1 : Int32)), .val (.int vb), .val (.ref b11), .val (.ref b13), .val (.long (p2.toInt64)), .second, .val (.ref b15), .unset, .unset] [(.double (FP.l2d ((0 : Int64) + (p2.toInt64))))]))
    refine OwnR.of (fun _ hr => XS.dstore X18.here hx rfl (hb hby at_193) rfl (l' := #[.val (.int p1), .val (.int p2), .val (.int p3), .val (.int p4), .val (.int p5), .val (.int (1 : Int32)), .val (.int vb), .val (.ref b11), .val (.ref b13), .val (.long (p2.toInt64)), .second, .val (.ref b15), .val (.double (FP.l2d ((0 : Int64) + (p2.toInt64)))), .second]) rfl hr) ?_
    show OwnR _ _ _ _ _ _ _ (T18.setTop (mkF m 195 #[.val (.int p1), .val (.int p2), .val (.int p3), .val (.int p4), .val (.int p5), .val (.int (1 : Int32)), .val (.int vb), .val (.ref b11), .val (.ref b13), .val (.long (p2.toInt64)), .second, .val (.ref b15), .val (.double (FP.l2d ((0 : Int64) + (p2.toInt64)))), .second] []))
    refine OwnR.of (fun _ hr => XS.dload X18.here hx rfl (hb hby at_195) rfl hr) ?_
    show OwnR _ _ _ _ _ _ _ (T18.setTop (mkF m 197 #[.val (.int p1), .val (.int p2), .val (.int p3), .val (.int p4), .val (.int p5), .val (.int (1 : Int32)), .val (.int vb), .val (.ref b11), .val (.ref b13), .val (.long (p2.toInt64)), .second, .val (.ref b15), .val (.double (FP.l2d ((0 : Int64) + (p2.toInt64)))), .second] [(.double (FP.l2d ((0 : Int64) + (p2.toInt64))))]))
    refine OwnR.of (fun _ hr => XS.lload X18.here hx rfl (hb hby at_197) rfl hr) ?_
    show OwnR _ _ _ _ _ _ _ (T18.setTop (mkF m 199 #[.val (.int p1), .val (.int p2), .val (.int p3), .val (.int p4), .val (.int p5), .val (.int (1 : Int32)), .val (.int vb), .val (.ref b11), .val (.ref b13), .val (.long (p2.toInt64)), .second, .val (.ref b15), .val (.double (FP.l2d ((0 : Int64) + (p2.toInt64)))), .second] [(.long (p2.toInt64)), (.double (FP.l2d ((0 : Int64) + (p2.toInt64))))]))
    refine OwnR.of (fun _ hr => XS.l2dS X18.here hx rfl (hb hby at_199) rfl rfl hr) ?_
    show OwnR _ _ _ _ _ _ _ (T18.setTop (mkF m 200 #[.val (.int p1), .val (.int p2), .val (.int p3), .val (.int p4), .val (.int p5), .val (.int (1 : Int32)), .val (.int vb), .val (.ref b11), .val (.ref b13), .val (.long (p2.toInt64)), .second, .val (.ref b15), .val (.double (FP.l2d ((0 : Int64) + (p2.toInt64)))), .second] [(.double (FP.l2d (p2.toInt64))), (.double (FP.l2d ((0 : Int64) + (p2.toInt64))))]))
    refine OwnR.of (fun _ hr => XS.dcmpS (v := (0 : Int32)) X18.here hx rfl (hb hby at_200) rfl (dcmpV_eq (congrArg FP.l2d (by simp only [Int64.zero_add])) (nn_w rfl) .l) hr) ?_
    show OwnR _ _ _ _ _ _ _ (T18.setTop (mkF m 201 #[.val (.int p1), .val (.int p2), .val (.int p3), .val (.int p4), .val (.int p5), .val (.int (1 : Int32)), .val (.int vb), .val (.ref b11), .val (.ref b13), .val (.long (p2.toInt64)), .second, .val (.ref b15), .val (.double (FP.l2d ((0 : Int64) + (p2.toInt64)))), .second] [(.int (0 : Int32))]))
    refine OwnR.of (fun _ hr => XS.ifNo X18.here hx rfl (hb hby at_201) rfl ((if0 _ _).trans (teq (by decide : (0 : Int32) = (0 : Int32))).2) hr) ?_
    show OwnR _ _ _ _ _ _ _ (T18.setTop (mkF m 204 #[.val (.int p1), .val (.int p2), .val (.int p3), .val (.int p4), .val (.int p5), .val (.int (1 : Int32)), .val (.int vb), .val (.ref b11), .val (.ref b13), .val (.long (p2.toInt64)), .second, .val (.ref b15), .val (.double (FP.l2d ((0 : Int64) + (p2.toInt64)))), .second] []))
    refine OwnR.of (fun _ hr => XS.iconst X18.here hx rfl (hb hby at_204) hr) ?_
    show OwnR _ _ _ _ _ _ _ (T18.setTop (mkF m 205 #[.val (.int p1), .val (.int p2), .val (.int p3), .val (.int p4), .val (.int p5), .val (.int (1 : Int32)), .val (.int vb), .val (.ref b11), .val (.ref b13), .val (.long (p2.toInt64)), .second, .val (.ref b15), .val (.double (FP.l2d ((0 : Int64) + (p2.toInt64)))), .second] [(.int (1 : Int32))]))
    refine OwnR.of (fun _ hr => XS.goto X18.here hx rfl (pc0 := 205) (pc' := 209) rfl (hb hby at_205) (by decide) (by decide) hr) ?_
    show OwnR _ _ _ _ _ _ _ (T18.setTop (mkF m 209 #[.val (.int p1), .val (.int p2), .val (.int p3), .val (.int p4), .val (.int p5), .val (.int (1 : Int32)), .val (.int vb), .val (.ref b11), .val (.ref b13), .val (.long (p2.toInt64)), .second, .val (.ref b15), .val (.double (FP.l2d ((0 : Int64) + (p2.toInt64)))), .second] [(.int (1 : Int32))]))
    refine own_leafN X18 hx hlk (t := .boolean) Bd.returns (by simp) (hb hby at_209) (z' := (1 : Int32)) rfl (by decide) (by decide) ?_
    show Q0 Z  h0 n0 _ T18.heap _
    rw [show T18.heap = h17 from e18]
    refine ⟨?_, N18⟩
    show (some (.int (1 : Int32)) : Option Value) = some (.int (1 : Int32))
    rfl
  · skip
    show OwnR _ _ _ _ _ _ _ (s₁.setTop (mkF m 14 #[.val (.int p1), .val (.int p2), .val (.int p3), .val (.int p4), .val (.int p5), .val (.int (2 : Int32)), .val (.int vb), .unset, .unset, .unset, .unset, .unset, .unset, .unset] []))
    refine OwnR.of (fun _ hr => XS.iload X0.here hx rfl (hb hby at_14) rfl hr) ?_
    show OwnR _ _ _ _ _ _ _ (s₁.setTop (mkF m 16 #[.val (.int p1), .val (.int p2), .val (.int p3), .val (.int p4), .val (.int p5), .val (.int (2 : Int32)), .val (.int vb), .unset, .unset, .unset, .unset, .unset, .unset, .unset] [(.int (2 : Int32))]))
    refine OwnR.of (fun _ hr => XS.ifYes X0.here hx rfl (pc0 := 16) (pc' := 35) rfl (hb hby at_16) rfl ((if0 _ _).trans (feq (by decide : ¬ ((2 : Int32) = (0 : Int32)))).2) (by decide) (by decide) hr) ?_
    show OwnR _ _ _ _ _ _ _ (s₁.setTop (mkF m 35 #[.val (.int p1), .val (.int p2), .val (.int p3), .val (.int p4), .val (.int p5), .val (.int (2 : Int32)), .val (.int vb), .unset, .unset, .unset, .unset, .unset, .unset, .unset] []))
    refine OwnR.of (fun _ hr => XS.iload X0.here hx rfl (hb hby at_35) rfl hr) ?_
    show OwnR _ _ _ _ _ _ _ (s₁.setTop (mkF m 37 #[.val (.int p1), .val (.int p2), .val (.int p3), .val (.int p4), .val (.int p5), .val (.int (2 : Int32)), .val (.int vb), .unset, .unset, .unset, .unset, .unset, .unset, .unset] [(.int (2 : Int32))]))
    refine OwnR.of (fun _ hr => XS.iconst X0.here hx rfl (hb hby at_37) hr) ?_
    show OwnR _ _ _ _ _ _ _ (s₁.setTop (mkF m 38 #[.val (.int p1), .val (.int p2), .val (.int p3), .val (.int p4), .val (.int p5), .val (.int (2 : Int32)), .val (.int vb), .unset, .unset, .unset, .unset, .unset, .unset, .unset] [(.int (1 : Int32)), (.int (2 : Int32))]))
    refine OwnR.of (fun _ hr => XS.icmpYes X0.here hx rfl (pc0 := 38) (pc' := 68) rfl (hb hby at_38) rfl (feq (by decide : ¬ ((2 : Int32) = (1 : Int32)))).2 (by decide) (by decide) hr) ?_
    show OwnR _ _ _ _ _ _ _ (s₁.setTop (mkF m 68 #[.val (.int p1), .val (.int p2), .val (.int p3), .val (.int p4), .val (.int p5), .val (.int (2 : Int32)), .val (.int vb), .unset, .unset, .unset, .unset, .unset, .unset, .unset] []))
    refine OwnR.of (fun _ hr => XS.iload X0.here hx rfl (hb hby at_68) rfl hr) ?_
    show OwnR _ _ _ _ _ _ _ (s₁.setTop (mkF m 70 #[.val (.int p1), .val (.int p2), .val (.int p3), .val (.int p4), .val (.int p5), .val (.int (2 : Int32)), .val (.int vb), .unset, .unset, .unset, .unset, .unset, .unset, .unset] [(.int (2 : Int32))]))
    refine OwnR.of (fun _ hr => XS.iconst X0.here hx rfl (hb hby at_70) hr) ?_
    show OwnR _ _ _ _ _ _ _ (s₁.setTop (mkF m 71 #[.val (.int p1), .val (.int p2), .val (.int p3), .val (.int p4), .val (.int p5), .val (.int (2 : Int32)), .val (.int vb), .unset, .unset, .unset, .unset, .unset, .unset, .unset] [(.int (2 : Int32)), (.int (2 : Int32))]))
    refine OwnR.of (fun _ hr => XS.icmpNo X0.here hx rfl (hb hby at_71) rfl (teq (by decide : (2 : Int32) = (2 : Int32))).2 hr) ?_
    show OwnR _ _ _ _ _ _ _ (s₁.setTop (mkF m 74 #[.val (.int p1), .val (.int p2), .val (.int p3), .val (.int p4), .val (.int p5), .val (.int (2 : Int32)), .val (.int vb), .unset, .unset, .unset, .unset, .unset, .unset, .unset] []))
    refine OwnR.of (fun _ hr => XS.iconst X0.here hx rfl (hb hby at_74) hr) ?_
    show OwnR _ _ _ _ _ _ _ (s₁.setTop (mkF m 75 #[.val (.int p1), .val (.int p2), .val (.int p3), .val (.int p4), .val (.int p5), .val (.int (2 : Int32)), .val (.int vb), .unset, .unset, .unset, .unset, .unset, .unset, .unset] [(.int (2 : Int32))]))
    obtain ⟨T19, h19, k19, X19, e19, E19, A19, AE19, st19⟩ := newPE X0 hx hZ (hw _ (List.mem_of_getElem? (i := 1) rfl)) e0 (g := (mkF m 75 #[.val (.int p1), .val (.int p2), .val (.int p3), .val (.int p4), .val (.int p5), .val (.int (2 : Int32)), .val (.int vb), .unset, .unset, .unset, .unset, .unset, .unset, .unset] [(.int (2 : Int32))])) rfl (hb hby at_75) rfl (by decide) (cap := 2) (by decide) (by decide) (by decide) (by decide) (ad := "[D") rfl
    obtain ⟨b19, g19⟩ : ∃ z, z = h0.size := ⟨_, rfl⟩
    rw [← g19] at A19 AE19 st19
    refine OwnR.of (st19) ?_
    have gn_b19 : n0 ≤ b19 := Nat.le_trans (Nat.le_trans Z0 (Keep.refl h0 []).1) (Nat.le_of_eq g19.symm)
    have sz_b19 : h0.size ≤ b19 := Nat.le_trans (Keep.refl h0 []).1 (Nat.le_of_eq g19.symm)
    have K19 : Keep h0 h19 [] := Keep.ext (Keep.refl h0 []) E19
    have V19 : Arv Z h19 b19 k19 .double (2 : Int32) [(.double (0 : UInt64)), (.double (0 : UInt64))] (.double (0 : UInt64)) := (Arv.new A19 (by decide)).pad (pad_rep [] (.double (0 : UInt64)) 2)
    show OwnR _ _ _ _ _ _ _ (T19.setTop (mkF m 77 #[.val (.int p1), .val (.int p2), .val (.int p3), .val (.int p4), .val (.int p5), .val (.int (2 : Int32)), .val (.int vb), .unset, .unset, .unset, .unset, .unset, .unset, .unset] [(.ref b19)]))
    refine OwnR.of (fun _ hr => XS.dup X19.here hx rfl (hb hby at_77) rfl rfl hr) ?_
    show OwnR _ _ _ _ _ _ _ (T19.setTop (mkF m 78 #[.val (.int p1), .val (.int p2), .val (.int p3), .val (.int p4), .val (.int p5), .val (.int (2 : Int32)), .val (.int vb), .unset, .unset, .unset, .unset, .unset, .unset, .unset] [(.ref b19), (.ref b19)]))
    refine OwnR.of (fun _ hr => XS.iconst X19.here hx rfl (hb hby at_78) hr) ?_
    show OwnR _ _ _ _ _ _ _ (T19.setTop (mkF m 79 #[.val (.int p1), .val (.int p2), .val (.int p3), .val (.int p4), .val (.int p5), .val (.int (2 : Int32)), .val (.int vb), .unset, .unset, .unset, .unset, .unset, .unset, .unset] [(.int (0 : Int32)), (.ref b19), (.ref b19)]))
    refine OwnR.of (fun _ hr => XS.iloadN X19.here hx rfl (hb hby at_79) rfl hr) ?_
    show OwnR _ _ _ _ _ _ _ (T19.setTop (mkF m 80 #[.val (.int p1), .val (.int p2), .val (.int p3), .val (.int p4), .val (.int p5), .val (.int (2 : Int32)), .val (.int vb), .unset, .unset, .unset, .unset, .unset, .unset, .unset] [(.int p2), (.int (0 : Int32)), (.ref b19), (.ref b19)]))
    refine OwnR.of (fun _ hr => XS.i2dS X19.here hx rfl (hb hby at_80) rfl (i2d_w _) hr) ?_
    show OwnR _ _ _ _ _ _ _ (T19.setTop (mkF m 81 #[.val (.int p1), .val (.int p2), .val (.int p3), .val (.int p4), .val (.int p5), .val (.int (2 : Int32)), .val (.int vb), .unset, .unset, .unset, .unset, .unset, .unset, .unset] [(.double (FP.l2d (p2.toInt64))), (.int (0 : Int32)), (.ref b19), (.ref b19)]))
    obtain ⟨cl20, Ar20, q20, S20, N20q, H20, G20⟩ := id V19
    have hin20 : ¬ ((0 : Int32) < 0 ∨ cl20.slots.size ≤ ((0 : Int32)).toNatClampNeg) := (inb_of S20 ⟨by decide, by decide⟩)
    obtain ⟨T20, h20, X20, e20, W20, st20⟩ := stD X19 hx hZ e19 Ar20 (j := (0 : Int32)) hin20 (g := (mkF m 81 #[.val (.int p1), .val (.int p2), .val (.int p3), .val (.int p4), .val (.int p5), .val (.int (2 : Int32)), .val (.int vb), .unset, .unset, .unset, .unset, .unset, .unset, .unset] [(.double (FP.l2d (p2.toInt64))), (.int (0 : Int32)), (.ref b19), (.ref b19)])) rfl rfl (hb hby at_81)
    refine OwnR.of (st20) ?_
    have V20 := Arv.set Ar20 q20 S20 N20q H20 G20 rfl W20 0 rfl (Nat.le_of_ble_eq_true rfl)
    have V20 : Arv Z h20 b19 k19 .double (2 : Int32) [(.double (FP.l2d (p2.toInt64))), (.double (0 : UInt64))] (.double (0 : UInt64)) := V20
    have K20 : Keep h0 h20 [] := Keep.wr K19 W20 (Or.inr sz_b19)
    have N20 := Fr.snoc X20 N0 gn_b19
    show OwnR _ _ _ _ _ _ _ (T20.setTop (mkF m 82 #[.val (.int p1), .val (.int p2), .val (.int p3), .val (.int p4), .val (.int p5), .val (.int (2 : Int32)), .val (.int vb), .unset, .unset, .unset, .unset, .unset, .unset, .unset] [(.ref b19)]))
    refine OwnR.of (fun _ hr => XS.dup X20.here hx rfl (hb hby at_82) rfl rfl hr) ?_
    show OwnR _ _ _ _ _ _ _ (T20.setTop (mkF m 83 #[.val (.int p1), .val (.int p2), .val (.int p3), .val (.int p4), .val (.int p5), .val (.int (2 : Int32)), .val (.int vb), .unset, .unset, .unset, .unset, .unset, .unset, .unset] [(.ref b19), (.ref b19)]))
    refine OwnR.of (fun _ hr => XS.iconst X20.here hx rfl (hb hby at_83) hr) ?_
    show OwnR _ _ _ _ _ _ _ (T20.setTop (mkF m 84 #[.val (.int p1), .val (.int p2), .val (.int p3), .val (.int p4), .val (.int p5), .val (.int (2 : Int32)), .val (.int vb), .unset, .unset, .unset, .unset, .unset, .unset, .unset] [(.int (1 : Int32)), (.ref b19), (.ref b19)]))
    refine OwnR.of (fun _ hr => XS.iloadN X20.here hx rfl (hb hby at_84) rfl hr) ?_
    show OwnR _ _ _ _ _ _ _ (T20.setTop (mkF m 85 #[.val (.int p1), .val (.int p2), .val (.int p3), .val (.int p4), .val (.int p5), .val (.int (2 : Int32)), .val (.int vb), .unset, .unset, .unset, .unset, .unset, .unset, .unset] [(.int p3), (.int (1 : Int32)), (.ref b19), (.ref b19)]))
    refine OwnR.of (fun _ hr => XS.i2dS X20.here hx rfl (hb hby at_85) rfl (i2d_w _) hr) ?_
    show OwnR _ _ _ _ _ _ _ (T20.setTop (mkF m 86 #[.val (.int p1), .val (.int p2), .val (.int p3), .val (.int p4), .val (.int p5), .val (.int (2 : Int32)), .val (.int vb), .unset, .unset, .unset, .unset, .unset, .unset, .unset] [(.double (FP.l2d (p3.toInt64))), (.int (1 : Int32)), (.ref b19), (.ref b19)]))
    obtain ⟨cl21, Ar21, q21, S21, N21q, H21, G21⟩ := id V20
    have hin21 : ¬ ((1 : Int32) < 0 ∨ cl21.slots.size ≤ ((1 : Int32)).toNatClampNeg) := (inb_of S21 ⟨by decide, by decide⟩)
    obtain ⟨T21, h21, X21, e21, W21, st21⟩ := stD X20 hx hZ e20 Ar21 (j := (1 : Int32)) hin21 (g := (mkF m 86 #[.val (.int p1), .val (.int p2), .val (.int p3), .val (.int p4), .val (.int p5), .val (.int (2 : Int32)), .val (.int vb), .unset, .unset, .unset, .unset, .unset, .unset, .unset] [(.double (FP.l2d (p3.toInt64))), (.int (1 : Int32)), (.ref b19), (.ref b19)])) rfl rfl (hb hby at_86)
    refine OwnR.of (st21) ?_
    have V21 := Arv.set Ar21 q21 S21 N21q H21 G21 rfl W21 1 rfl (Nat.le_of_ble_eq_true rfl)
    have V21 : Arv Z h21 b19 k19 .double (2 : Int32) [(.double (FP.l2d (p2.toInt64))), (.double (FP.l2d (p3.toInt64)))] (.double (0 : UInt64)) := V21
    have K21 : Keep h0 h21 [] := Keep.wr K20 W21 (Or.inr sz_b19)
    have N21 := Fr.snoc X21 N20 gn_b19
    show OwnR _ _ _ _ _ _ _ (T21.setTop (mkF m 87 #[.val (.int p1), .val (.int p2), .val (.int p3), .val (.int p4), .val (.int p5), .val (.int (2 : Int32)), .val (.int vb), .unset, .unset, .unset, .unset, .unset, .unset, .unset] [(.ref b19)]))
    refine OwnR.of (fun _ hr => XS.astore X21.here hx rfl (hb hby at_87) rfl rfl (l' := #[.val (.int p1), .val (.int p2), .val (.int p3), .val (.int p4), .val (.int p5), .val (.int (2 : Int32)), .val (.int vb), .val (.ref b19), .unset, .unset, .unset, .unset, .unset, .unset]) rfl hr) ?_
    show OwnR _ _ _ _ _ _ _ (T21.setTop (mkF m 89 #[.val (.int p1), .val (.int p2), .val (.int p3), .val (.int p4), .val (.int p5), .val (.int (2 : Int32)), .val (.int vb), .val (.ref b19), .unset, .unset, .unset, .unset, .unset, .unset] []))
    refine OwnR.of (fun _ hr => XS.iconst X21.here hx rfl (hb hby at_89) hr) ?_
    show OwnR _ _ _ _ _ _ _ (T21.setTop (mkF m 90 #[.val (.int p1), .val (.int p2), .val (.int p3), .val (.int p4), .val (.int p5), .val (.int (2 : Int32)), .val (.int vb), .val (.ref b19), .unset, .unset, .unset, .unset, .unset, .unset] [(.int (2 : Int32))]))
    obtain ⟨T22, h22, k22, X22, e22, E22, A22, AE22, st22⟩ := newPE X21 hx hZ (hw _ (List.mem_of_getElem? (i := 2) rfl)) e21 (g := (mkF m 90 #[.val (.int p1), .val (.int p2), .val (.int p3), .val (.int p4), .val (.int p5), .val (.int (2 : Int32)), .val (.int vb), .val (.ref b19), .unset, .unset, .unset, .unset, .unset, .unset] [(.int (2 : Int32))])) rfl (hb hby at_90) rfl (by decide) (cap := 2) (by decide) (by decide) (by decide) (by decide) (ad := "[I") rfl
    obtain ⟨b22, g22⟩ : ∃ z, z = h21.size := ⟨_, rfl⟩
    rw [← g22] at A22 AE22 st22
    refine OwnR.of (st22) ?_
    have gn_b22 : n0 ≤ b22 := Nat.le_trans (Nat.le_trans Z0 K21.1) (Nat.le_of_eq g22.symm)
    have sz_b22 : h0.size ≤ b22 := Nat.le_trans K21.1 (Nat.le_of_eq g22.symm)
    have K22 : Keep h0 h22 [] := Keep.ext K21 E22
    have V22 : Arv Z h22 b22 k22 .int (2 : Int32) [(.int (0 : Int32)), (.int (0 : Int32))] (.int (0 : Int32)) := (Arv.new A22 (by decide)).pad (pad_rep [] (.int (0 : Int32)) 2)
    show OwnR _ _ _ _ _ _ _ (T22.setTop (mkF m 92 #[.val (.int p1), .val (.int p2), .val (.int p3), .val (.int p4), .val (.int p5), .val (.int (2 : Int32)), .val (.int vb), .val (.ref b19), .unset, .unset, .unset, .unset, .unset, .unset] [(.ref b22)]))
    refine OwnR.of (fun _ hr => XS.dup X22.here hx rfl (hb hby at_92) rfl rfl hr) ?_
    show OwnR _ _ _ _ _ _ _ (T22.setTop (mkF m 93 #[.val (.int p1), .val (.int p2), .val (.int p3), .val (.int p4), .val (.int p5), .val (.int (2 : Int32)), .val (.int vb), .val (.ref b19), .unset, .unset, .unset, .unset, .unset, .unset] [(.ref b22), (.ref b22)]))
    refine OwnR.of (fun _ hr => XS.iconst X22.here hx rfl (hb hby at_93) hr) ?_
    show OwnR _ _ _ _ _ _ _ (T22.setTop (mkF m 94 #[.val (.int p1), .val (.int p2), .val (.int p3), .val (.int p4), .val (.int p5), .val (.int (2 : Int32)), .val (.int vb), .val (.ref b19), .unset, .unset, .unset, .unset, .unset, .unset] [(.int (0 : Int32)), (.ref b22), (.ref b22)]))
    refine OwnR.of (fun _ hr => XS.iload X22.here hx rfl (hb hby at_94) rfl hr) ?_
    show OwnR _ _ _ _ _ _ _ (T22.setTop (mkF m 96 #[.val (.int p1), .val (.int p2), .val (.int p3), .val (.int p4), .val (.int p5), .val (.int (2 : Int32)), .val (.int vb), .val (.ref b19), .unset, .unset, .unset, .unset, .unset, .unset] [(.int vb), (.int (0 : Int32)), (.ref b22), (.ref b22)]))
    obtain ⟨cl23, Ar23, q23, S23, N23q, H23, G23⟩ := id V22
    have hin23 : ¬ ((0 : Int32) < 0 ∨ cl23.slots.size ≤ ((0 : Int32)).toNatClampNeg) := (inb_of S23 ⟨by decide, by decide⟩)
    obtain ⟨T23, h23, X23, e23, W23, st23⟩ := stI X22 hx hZ e22 Ar23 (j := (0 : Int32)) hin23 (g := (mkF m 96 #[.val (.int p1), .val (.int p2), .val (.int p3), .val (.int p4), .val (.int p5), .val (.int (2 : Int32)), .val (.int vb), .val (.ref b19), .unset, .unset, .unset, .unset, .unset, .unset] [(.int vb), (.int (0 : Int32)), (.ref b22), (.ref b22)])) rfl rfl (hb hby at_96)
    refine OwnR.of (st23) ?_
    have V23 := Arv.set Ar23 q23 S23 N23q H23 G23 rfl W23 0 rfl (Nat.le_of_ble_eq_true rfl)
    have V23 : Arv Z h23 b22 k22 .int (2 : Int32) [(.int vb), (.int (0 : Int32))] (.int (0 : Int32)) := V23
    have K23 : Keep h0 h23 [] := Keep.wr K22 W23 (Or.inr sz_b22)
    have N23 := Fr.snoc X23 N21 gn_b22
    show OwnR _ _ _ _ _ _ _ (T23.setTop (mkF m 97 #[.val (.int p1), .val (.int p2), .val (.int p3), .val (.int p4), .val (.int p5), .val (.int (2 : Int32)), .val (.int vb), .val (.ref b19), .unset, .unset, .unset, .unset, .unset, .unset] [(.ref b22)]))
    refine OwnR.of (fun _ hr => XS.dup X23.here hx rfl (hb hby at_97) rfl rfl hr) ?_
    show OwnR _ _ _ _ _ _ _ (T23.setTop (mkF m 98 #[.val (.int p1), .val (.int p2), .val (.int p3), .val (.int p4), .val (.int p5), .val (.int (2 : Int32)), .val (.int vb), .val (.ref b19), .unset, .unset, .unset, .unset, .unset, .unset] [(.ref b22), (.ref b22)]))
    refine OwnR.of (fun _ hr => XS.iconst X23.here hx rfl (hb hby at_98) hr) ?_
    show OwnR _ _ _ _ _ _ _ (T23.setTop (mkF m 99 #[.val (.int p1), .val (.int p2), .val (.int p3), .val (.int p4), .val (.int p5), .val (.int (2 : Int32)), .val (.int vb), .val (.ref b19), .unset, .unset, .unset, .unset, .unset, .unset] [(.int (1 : Int32)), (.ref b22), (.ref b22)]))
    refine OwnR.of (fun _ hr => XS.iconst X23.here hx rfl (hb hby at_99) hr) ?_
    show OwnR _ _ _ _ _ _ _ (T23.setTop (mkF m 100 #[.val (.int p1), .val (.int p2), .val (.int p3), .val (.int p4), .val (.int p5), .val (.int (2 : Int32)), .val (.int vb), .val (.ref b19), .unset, .unset, .unset, .unset, .unset, .unset] [(.int (1 : Int32)), (.int (1 : Int32)), (.ref b22), (.ref b22)]))
    obtain ⟨cl24, Ar24, q24, S24, N24q, H24, G24⟩ := id V23
    have hin24 : ¬ ((1 : Int32) < 0 ∨ cl24.slots.size ≤ ((1 : Int32)).toNatClampNeg) := (inb_of S24 ⟨by decide, by decide⟩)
    obtain ⟨T24, h24, X24, e24, W24, st24⟩ := stI X23 hx hZ e23 Ar24 (j := (1 : Int32)) hin24 (g := (mkF m 100 #[.val (.int p1), .val (.int p2), .val (.int p3), .val (.int p4), .val (.int p5), .val (.int (2 : Int32)), .val (.int vb), .val (.ref b19), .unset, .unset, .unset, .unset, .unset, .unset] [(.int (1 : Int32)), (.int (1 : Int32)), (.ref b22), (.ref b22)])) rfl rfl (hb hby at_100)
    refine OwnR.of (st24) ?_
    have V24 := Arv.set Ar24 q24 S24 N24q H24 G24 rfl W24 1 rfl (Nat.le_of_ble_eq_true rfl)
    have V24 : Arv Z h24 b22 k22 .int (2 : Int32) [(.int vb), (.int (1 : Int32))] (.int (0 : Int32)) := V24
    have K24 : Keep h0 h24 [] := Keep.wr K23 W24 (Or.inr sz_b22)
    have N24 := Fr.snoc X24 N23 gn_b22
    show OwnR _ _ _ _ _ _ _ (T24.setTop (mkF m 101 #[.val (.int p1), .val (.int p2), .val (.int p3), .val (.int p4), .val (.int p5), .val (.int (2 : Int32)), .val (.int vb), .val (.ref b19), .unset, .unset, .unset, .unset, .unset, .unset] [(.ref b22)]))
    refine OwnR.of (fun _ hr => XS.astore X24.here hx rfl (hb hby at_101) rfl rfl (l' := #[.val (.int p1), .val (.int p2), .val (.int p3), .val (.int p4), .val (.int p5), .val (.int (2 : Int32)), .val (.int vb), .val (.ref b19), .val (.ref b22), .unset, .unset, .unset, .unset, .unset]) rfl hr) ?_
    show OwnR _ _ _ _ _ _ _ (T24.setTop (mkF m 103 #[.val (.int p1), .val (.int p2), .val (.int p3), .val (.int p4), .val (.int p5), .val (.int (2 : Int32)), .val (.int vb), .val (.ref b19), .val (.ref b22), .unset, .unset, .unset, .unset, .unset] []))
    refine OwnR.of (fun _ hr => XS.iloadN X24.here hx rfl (hb hby at_103) rfl hr) ?_
    show OwnR _ _ _ _ _ _ _ (T24.setTop (mkF m 104 #[.val (.int p1), .val (.int p2), .val (.int p3), .val (.int p4), .val (.int p5), .val (.int (2 : Int32)), .val (.int vb), .val (.ref b19), .val (.ref b22), .unset, .unset, .unset, .unset, .unset] [(.int p2)]))
    refine OwnR.of (fun _ hr => XS.i2l X24.here hx rfl (hb hby at_104) rfl hr) ?_
    show OwnR _ _ _ _ _ _ _ (T24.setTop (mkF m 105 #[.val (.int p1), .val (.int p2), .val (.int p3), .val (.int p4), .val (.int p5), .val (.int (2 : Int32)), .val (.int vb), .val (.ref b19), .val (.ref b22), .unset, .unset, .unset, .unset, .unset] [(.long (p2.toInt64))]))
    refine OwnR.of (fun _ hr => XS.iloadN X24.here hx rfl (hb hby at_105) rfl hr) ?_
    show OwnR _ _ _ _ _ _ _ (T24.setTop (mkF m 106 #[.val (.int p1), .val (.int p2), .val (.int p3), .val (.int p4), .val (.int p5), .val (.int (2 : Int32)), .val (.int vb), .val (.ref b19), .val (.ref b22), .unset, .unset, .unset, .unset, .unset] [(.int p3), (.long (p2.toInt64))]))
    refine OwnR.of (fun _ hr => XS.i2l X24.here hx rfl (hb hby at_106) rfl hr) ?_
    show OwnR _ _ _ _ _ _ _ (T24.setTop (mkF m 107 #[.val (.int p1), .val (.int p2), .val (.int p3), .val (.int p4), .val (.int p5), .val (.int (2 : Int32)), .val (.int vb), .val (.ref b19), .val (.ref b22), .unset, .unset, .unset, .unset, .unset] [(.long (p3.toInt64)), (.long (p2.toInt64))]))
    refine OwnR.of (fun _ hr => XS.ladd X24.here hx rfl (hb hby at_107) rfl hr) ?_
    show OwnR _ _ _ _ _ _ _ (T24.setTop (mkF m 108 #[.val (.int p1), .val (.int p2), .val (.int p3), .val (.int p4), .val (.int p5), .val (.int (2 : Int32)), .val (.int vb), .val (.ref b19), .val (.ref b22), .unset, .unset, .unset, .unset, .unset] [(.long ((p2.toInt64) + (p3.toInt64)))]))
    refine OwnR.of (fun _ hr => XS.lstore X24.here hx rfl (hb hby at_108) rfl (l' := #[.val (.int p1), .val (.int p2), .val (.int p3), .val (.int p4), .val (.int p5), .val (.int (2 : Int32)), .val (.int vb), .val (.ref b19), .val (.ref b22), .val (.long ((p2.toInt64) + (p3.toInt64))), .second, .unset, .unset, .unset]) rfl hr) ?_
    show OwnR _ _ _ _ _ _ _ (T24.setTop (mkF m 110 #[.val (.int p1), .val (.int p2), .val (.int p3), .val (.int p4), .val (.int p5), .val (.int (2 : Int32)), .val (.int vb), .val (.ref b19), .val (.ref b22), .val (.long ((p2.toInt64) + (p3.toInt64))), .second, .unset, .unset, .unset] []))
    refine OwnR.of (fun _ hr => XS.goto X24.here hx rfl (pc0 := 110) (pc' := 162) rfl (hb hby at_110) (by decide) (by decide) hr) ?_
    show OwnR _ _ _ _ _ _ _ (T24.setTop (mkF m 162 #[.val (.int p1), .val (.int p2), .val (.int p3), .val (.int p4), .val (.int p5), .val (.int (2 : Int32)), .val (.int vb), .val (.ref b19), .val (.ref b22), .val (.long ((p2.toInt64) + (p3.toInt64))), .second, .unset, .unset, .unset] []))
    obtain ⟨T25, h25, X25, e25, E25, A25, D25, -, st25⟩ := newO X24 hx hZ hown (hw _ (List.mem_of_getElem? (i := 3) rfl)) (hw _ (List.mem_of_getElem? (i := 4) rfl)) (hw _ (List.mem_of_getElem? (i := 5) rfl)) e24 (g := (mkF m 162 #[.val (.int p1), .val (.int p2), .val (.int p3), .val (.int p4), .val (.int p5), .val (.int (2 : Int32)), .val (.int vb), .val (.ref b19), .val (.ref b22), .val (.long ((p2.toInt64) + (p3.toInt64))), .second, .unset, .unset, .unset] [])) rfl (hb hby at_162) (by decide) (by decide)
    obtain ⟨b25, g25⟩ : ∃ z, z = h24.size := ⟨_, rfl⟩
    rw [← g25] at A25 D25 st25
    refine OwnR.of (st25) ?_
    have gn_b25 : n0 ≤ b25 := Nat.le_trans (Nat.le_trans Z0 K24.1) (Nat.le_of_eq g25.symm)
    have sz_b25 : h0.size ≤ b25 := Nat.le_trans K24.1 (Nat.le_of_eq g25.symm)
    have K25 : Keep h0 h25 [] := Keep.ext K24 E25
    have F_branches_b25 : Fld Z h25 b25 "com/example/ramification/ramification/model/StrahlerOrders" "branches" "[I" .null := D25 (Or.inr (hw _ (List.mem_of_getElem? (i := 22) rfl))) (ty := (.array .int)) (by decide)
    have F_lengths_b25 : Fld Z h25 b25 "com/example/ramification/ramification/model/StrahlerOrders" "lengths" "[D" .null := D25 (Or.inr (hw _ (List.mem_of_getElem? (i := 30) rfl))) (ty := (.array .double)) (by decide)
    have F_unit_b25 : Fld Z h25 b25 "com/example/ramification/ramification/model/StrahlerOrders" "unit" "Ljava/util/Optional;" .null := D25 (Or.inr (hw _ (List.mem_of_getElem? (i := 32) rfl))) (ty := (.object "java/util/Optional")) (by decide)
    show OwnR _ _ _ _ _ _ _ (T25.setTop (mkF m 165 #[.val (.int p1), .val (.int p2), .val (.int p3), .val (.int p4), .val (.int p5), .val (.int (2 : Int32)), .val (.int vb), .val (.ref b19), .val (.ref b22), .val (.long ((p2.toInt64) + (p3.toInt64))), .second, .unset, .unset, .unset] [(.ref b25)]))
    refine OwnR.of (fun _ hr => XS.dup X25.here hx rfl (hb hby at_165) rfl rfl hr) ?_
    show OwnR _ _ _ _ _ _ _ (T25.setTop (mkF m 166 #[.val (.int p1), .val (.int p2), .val (.int p3), .val (.int p4), .val (.int p5), .val (.int (2 : Int32)), .val (.int vb), .val (.ref b19), .val (.ref b22), .val (.long ((p2.toInt64) + (p3.toInt64))), .second, .unset, .unset, .unset] [(.ref b25), (.ref b25)]))
    refine OwnR.of (fun _ hr => XS.aload X25.here hx rfl (hb hby at_166) rfl rfl hr) ?_
    show OwnR _ _ _ _ _ _ _ (T25.setTop (mkF m 168 #[.val (.int p1), .val (.int p2), .val (.int p3), .val (.int p4), .val (.int p5), .val (.int (2 : Int32)), .val (.int vb), .val (.ref b19), .val (.ref b22), .val (.long ((p2.toInt64) + (p3.toInt64))), .second, .unset, .unset, .unset] [(.ref b22), (.ref b25), (.ref b25)]))
    refine OwnR.of (fun _ hr => XS.aload X25.here hx rfl (hb hby at_168) rfl rfl hr) ?_
    show OwnR _ _ _ _ _ _ _ (T25.setTop (mkF m 170 #[.val (.int p1), .val (.int p2), .val (.int p3), .val (.int p4), .val (.int p5), .val (.int (2 : Int32)), .val (.int vb), .val (.ref b19), .val (.ref b22), .val (.long ((p2.toInt64) + (p3.toInt64))), .second, .unset, .unset, .unset] [(.ref b19), (.ref b22), (.ref b25), (.ref b25)]))
    refine OwnR.of (fun _ hr => XS.aconstNull X25.here hx rfl (hb hby at_170) hr) ?_
    show OwnR _ _ _ _ _ _ _ (T25.setTop (mkF m 171 #[.val (.int p1), .val (.int p2), .val (.int p3), .val (.int p4), .val (.int p5), .val (.int (2 : Int32)), .val (.int vb), .val (.ref b19), .val (.ref b22), .val (.long ((p2.toInt64) + (p3.toInt64))), .second, .unset, .unset, .unset] [.null, (.ref b19), (.ref b22), (.ref b25), (.ref b25)]))
    obtain ⟨_, _, ⟨T26, L26, kc26, ns26⟩, -, X26, ⟨Lc26, hQ26, l26, y26, z26⟩, st26⟩ := X25.specialBack hx (y := (⟨"com/example/ramification/ramification/model/StrahlerOrders", "<init>", "([I[DLjava/util/Optional;)V"⟩ : MethodName)) rfl hown (mvT hZ (hw _ (List.mem_of_getElem? (i := 6) rfl))) (mvT hZ (hw _ (List.mem_of_getElem? (i := 7) rfl))) (mvT hZ (hw _ (List.mem_of_getElem? (i := 8) rfl))) (by decide) (backOf (W := 1) (rm1_2 l Z a0 hw [] b25 b22 b19 k22 k19 vb (1 : Int32) (FP.l2d (p2.toInt64)) (FP.l2d (p3.toInt64)) h25 n0 (Nat.le_trans Z0 K25.1) A25 F_branches_b25 F_lengths_b25 F_unit_b25 (Arv.ext V24 E25) (Arv.ext (Arv.other (Arv.other (Arv.ext V21 E22) W23 (Nat.ne_of_lt (Nat.lt_of_lt_of_le (Exa.wr W21 (Exa.wr W20 AE19)).lt (Nat.le_of_eq g22.symm)))) W24 (Nat.ne_of_lt (Nat.lt_of_lt_of_le (Exa.wr W21 (Exa.wr W20 AE19)).lt (Nat.le_of_eq g22.symm)))) E25) (Exa.ext E25 (Exa.wr W24 (Exa.wr W23 AE22))) (Exa.ext E25 (Exa.wr W24 (Exa.wr W23 (Exa.ext E22 (Exa.wr W21 (Exa.wr W20 AE19)))))) gn_b25 (Ne.symm (Nat.ne_of_lt (Nat.lt_of_lt_of_le (Exa.wr W24 (Exa.wr W23 AE22)).lt (Nat.le_of_eq g25.symm)))) (Ne.symm (Nat.ne_of_lt (Nat.lt_of_lt_of_le (Exa.wr W24 (Exa.wr W23 (Exa.ext E22 (Exa.wr W21 (Exa.wr W20 AE19))))).lt (Nat.le_of_eq g25.symm)))) hvb1 (by decide)) hZ (hw _ (List.mem_of_getElem? (i := 8) rfl)) (hw _ (List.mem_of_getElem? (i := 5) rfl)) (by decide) (by decide)) (g := (mkF m 171 #[.val (.int p1), .val (.int p2), .val (.int p3), .val (.int p4), .val (.int p5), .val (.int (2 : Int32)), .val (.int vb), .val (.ref b19), .val (.ref b22), .val (.long ((p2.toInt64) + (p3.toInt64))), .second, .unset, .unset, .unset] [.null, (.ref b19), (.ref b22), (.ref b25), (.ref b25)])) rfl (by rw [hml]; rfl) (Steps.refl _) (a := b25) (argsL := [(.ref b22), (.ref b19), .null]) (rest := [(.ref b25)]) (lenOf pd___I_DLjava_util_Optional__V rfl) rfl (by show 2 * 0 + _ ≤ _; exact Nat.le_of_eq rfl) (hb hby at_171) (fun _ _ => ⟨rfl, e25, (by decide : 3 + 2 ≤ _), (by decide : 7 + 4 ≤ _)⟩)
    dsimp only [Pt.U, Pt.locs, Pt.cells, Pt.slots] at X26 l26 y26 z26 st26 hQ26
    rw [l26, y26, z26] at X26
    obtain ⟨bD_26, rfl, N26q, P26_0, P26_1, P26_2, P26_3, P26_4⟩ := hQ26
    have K26 : Keep h0 T26.heap [] := Keep.trans K25 P26_0 (allS (Or.inr sz_b25) all0)
    have sz_bD_26 : h0.size ≤ bD_26 := Nat.le_trans K25.1 P26_4
    have N26 := Fr.app N24 N26q
    refine OwnR.of (fun _ hr => st26.trans hr) ?_
    show OwnR _ _ _ _ _ _ _ (T26.setTop (mkF m 174 #[.val (.int p1), .val (.int p2), .val (.int p3), .val (.int p4), .val (.int p5), .val (.int (2 : Int32)), .val (.int vb), .val (.ref b19), .val (.ref b22), .val (.long ((p2.toInt64) + (p3.toInt64))), .second, .unset, .unset, .unset] [(.ref b25)]))
    refine OwnR.of (fun _ hr => XS.astore X26.here hx rfl (hb hby at_174) rfl rfl (l' := #[.val (.int p1), .val (.int p2), .val (.int p3), .val (.int p4), .val (.int p5), .val (.int (2 : Int32)), .val (.int vb), .val (.ref b19), .val (.ref b22), .val (.long ((p2.toInt64) + (p3.toInt64))), .second, .val (.ref b25), .unset, .unset]) rfl hr) ?_
    show OwnR _ _ _ _ _ _ _ (T26.setTop (mkF m 176 #[.val (.int p1), .val (.int p2), .val (.int p3), .val (.int p4), .val (.int p5), .val (.int (2 : Int32)), .val (.int vb), .val (.ref b19), .val (.ref b22), .val (.long ((p2.toInt64) + (p3.toInt64))), .second, .val (.ref b25), .unset, .unset] []))
    refine OwnR.of (fun _ hr => XS.iload X26.here hx rfl (hb hby at_176) rfl hr) ?_
    show OwnR _ _ _ _ _ _ _ (T26.setTop (mkF m 178 #[.val (.int p1), .val (.int p2), .val (.int p3), .val (.int p4), .val (.int p5), .val (.int (2 : Int32)), .val (.int vb), .val (.ref b19), .val (.ref b22), .val (.long ((p2.toInt64) + (p3.toInt64))), .second, .val (.ref b25), .unset, .unset] [(.int (2 : Int32))]))
    refine OwnR.of (fun _ hr => XS.ifNo X26.here hx rfl (hb hby at_178) rfl ((if0 _ _).trans (tlt (by decide : (0 : Int32) < (2 : Int32))).2.2.2) hr) ?_
    show OwnR _ _ _ _ _ _ _ (T26.setTop (mkF m 181 #[.val (.int p1), .val (.int p2), .val (.int p3), .val (.int p4), .val (.int p5), .val (.int (2 : Int32)), .val (.int vb), .val (.ref b19), .val (.ref b22), .val (.long ((p2.toInt64) + (p3.toInt64))), .second, .val (.ref b25), .unset, .unset] []))
    refine OwnR.of (fun _ hr => XS.aload X26.here hx rfl (hb hby at_181) rfl rfl hr) ?_
    show OwnR _ _ _ _ _ _ _ (T26.setTop (mkF m 183 #[.val (.int p1), .val (.int p2), .val (.int p3), .val (.int p4), .val (.int p5), .val (.int (2 : Int32)), .val (.int vb), .val (.ref b19), .val (.ref b22), .val (.long ((p2.toInt64) + (p3.toInt64))), .second, .val (.ref b25), .unset, .unset] [(.ref b19)]))
    refine OwnR.of (fun _ hr => XS.iconst X26.here hx rfl (hb hby at_183) hr) ?_
    show OwnR _ _ _ _ _ _ _ (T26.setTop (mkF m 184 #[.val (.int p1), .val (.int p2), .val (.int p3), .val (.int p4), .val (.int p5), .val (.int (2 : Int32)), .val (.int vb), .val (.ref b19), .val (.ref b22), .val (.long ((p2.toInt64) + (p3.toInt64))), .second, .val (.ref b25), .unset, .unset] [(.int (0 : Int32)), (.ref b19)]))
    refine OwnR.of (X26.ldc2DoubleC hx hown (mvT hZ (hw _ (List.mem_of_getElem? (i := 38) rfl))) (g := (mkF m 184 #[.val (.int p1), .val (.int p2), .val (.int p3), .val (.int p4), .val (.int p5), .val (.int (2 : Int32)), .val (.int vb), .val (.ref b19), .val (.ref b22), .val (.long ((p2.toInt64) + (p3.toInt64))), .second, .val (.ref b25), .unset, .unset] [(.int (0 : Int32)), (.ref b19)])) rfl (hb hby at_184)) ?_
    show OwnR _ _ _ _ _ _ _ (T26.setTop (mkF m 187 #[.val (.int p1), .val (.int p2), .val (.int p3), .val (.int p4), .val (.int p5), .val (.int (2 : Int32)), .val (.int vb), .val (.ref b19), .val (.ref b22), .val (.long ((p2.toInt64) + (p3.toInt64))), .second, .val (.ref b25), .unset, .unset] [(.double (4602678819172646912 : UInt64)), (.int (0 : Int32)), (.ref b19)]))
    obtain ⟨cl27, Ar27, q27, S27, N27q, H27, G27⟩ := id ((Arv.ext (Arv.other (Arv.other (Arv.ext V21 E22) W23 (Nat.ne_of_lt (Nat.lt_of_lt_of_le (Exa.wr W21 (Exa.wr W20 AE19)).lt (Nat.le_of_eq g22.symm)))) W24 (Nat.ne_of_lt (Nat.lt_of_lt_of_le (Exa.wr W21 (Exa.wr W20 AE19)).lt (Nat.le_of_eq g22.symm)))) E25).keep P26_0 (ninS (Nat.ne_of_lt (Nat.lt_of_lt_of_le (Exa.wr W24 (Exa.wr W23 (Exa.ext E22 (Exa.wr W21 (Exa.wr W20 AE19))))).lt (Nat.le_of_eq g25.symm))) nin0))
    have hin27 : ¬ ((0 : Int32) < 0 ∨ cl27.slots.size ≤ ((0 : Int32)).toNatClampNeg) := (inb_of S27 ⟨by decide, by decide⟩)
    obtain ⟨T27, h27, X27, e27, W27, st27⟩ := stD X26 hx hZ rfl Ar27 (j := (0 : Int32)) hin27 (g := (mkF m 187 #[.val (.int p1), .val (.int p2), .val (.int p3), .val (.int p4), .val (.int p5), .val (.int (2 : Int32)), .val (.int vb), .val (.ref b19), .val (.ref b22), .val (.long ((p2.toInt64) + (p3.toInt64))), .second, .val (.ref b25), .unset, .unset] [(.double (4602678819172646912 : UInt64)), (.int (0 : Int32)), (.ref b19)])) rfl rfl (hb hby at_187)
    refine OwnR.of (st27) ?_
    have V27 := Arv.set Ar27 q27 S27 N27q H27 G27 rfl W27 0 rfl (Nat.le_of_ble_eq_true rfl)
    have V27 : Arv Z h27 b19 k19 .double (2 : Int32) [(.double (4602678819172646912 : UInt64)), (.double (FP.l2d (p3.toInt64)))] (.double (0 : UInt64)) := V27
    have K27 : Keep h0 h27 [] := Keep.wr K26 W27 (Or.inr sz_b19)
    have N27 := Fr.snoc X27 N26 gn_b19
    show OwnR _ _ _ _ _ _ _ (T27.setTop (mkF m 188 #[.val (.int p1), .val (.int p2), .val (.int p3), .val (.int p4), .val (.int p5), .val (.int (2 : Int32)), .val (.int vb), .val (.ref b19), .val (.ref b22), .val (.long ((p2.toInt64) + (p3.toInt64))), .second, .val (.ref b25), .unset, .unset] []))
    refine OwnR.of (fun _ hr => XS.aload X27.here hx rfl (hb hby at_188) rfl rfl hr) ?_
    show OwnR _ _ _ _ _ _ _ (T27.setTop (mkF m 190 #[.val (.int p1), .val (.int p2), .val (.int p3), .val (.int p4), .val (.int p5), .val (.int (2 : Int32)), .val (.int vb), .val (.ref b19), .val (.ref b22), .val (.long ((p2.toInt64) + (p3.toInt64))), .second, .val (.ref b25), .unset, .unset] [(.ref b25)]))
    obtain ⟨cq28, kq28, q28a, q28b, q28c⟩ := isOf hZ e27 (Exa.wr W27 P26_1)
    obtain ⟨_, _, ⟨T28, L28, kc28, ns28⟩, -, X28, ⟨Lc28, hQ28, l28, y28, z28⟩, st28⟩ := X27.virtualBack hx (y := (⟨"com/example/ramification/ramification/model/StrahlerOrders", "getTotalLength", "()D"⟩ : MethodName)) (z := (⟨"com/example/ramification/ramification/model/StrahlerOrders", "getTotalLength", "()D"⟩ : MethodName)) hown (mvT hZ (hw _ (List.mem_of_getElem? (i := 33) rfl))) (mvT hZ (hw _ (List.mem_of_getElem? (i := 34) rfl))) (notFace_of_selects (args := #[]) (mvT hZ (hw _ (List.mem_of_getElem? (i := 36) rfl)))) (mvT hZ (hw _ (List.mem_of_getElem? (i := 36) rfl))) (mvT hZ (hw _ (List.mem_of_getElem? (i := 35) rfl))) (by decide) (backOf (W := 0) (rm3_2 l Z a0 hw [] b25 bD_26 k19 (p2.toInt64) (p3.toInt64) h27 n0 (Nat.le_trans Z0 K27.1) (Exa.wr W27 P26_1) (Fld.other W27 P26_2 (Or.inl (Ne.symm (Nat.ne_of_lt (Nat.lt_of_lt_of_le (Exa.wr W24 (Exa.wr W23 (Exa.ext E22 (Exa.wr W21 (Exa.wr W20 AE19))))).lt (Nat.le_of_eq g25.symm)))))) (Arv.other P26_3 W27 (Ne.symm (Nat.ne_of_lt (Nat.lt_of_lt_of_le (Exa.ext E25 (Exa.wr W24 (Exa.wr W23 (Exa.ext E22 (Exa.wr W21 (Exa.wr W20 AE19)))))).lt P26_4)))) (own_s1 p2) (own_s1 p3)) hZ (hw _ (List.mem_of_getElem? (i := 37) rfl)) (hw _ (List.mem_of_getElem? (i := 5) rfl)) (by decide) (by decide)) q28a q28c (g := (mkF m 190 #[.val (.int p1), .val (.int p2), .val (.int p3), .val (.int p4), .val (.int p5), .val (.int (2 : Int32)), .val (.int vb), .val (.ref b19), .val (.ref b22), .val (.long ((p2.toInt64) + (p3.toInt64))), .second, .val (.ref b25), .unset, .unset] [(.ref b25)])) rfl (by rw [hml]; rfl) (Steps.refl _) (argsL := []) (rest := []) (lenOf pd___D rfl) rfl (by show 2 * 0 + _ ≤ _; exact Nat.le_of_eq rfl) (hb hby at_190) (fun _ _ => ⟨rfl, e27, (by decide : 5 + 0 ≤ _), (by decide : 11 + 0 ≤ _)⟩)
    dsimp only [Pt.U, Pt.locs, Pt.cells, Pt.slots] at X28 l28 y28 z28 st28 hQ28
    rw [l28, y28, z28] at X28
    obtain ⟨rfl, N28q, e28⟩ := hQ28
    have N28 := Fr.app N27 N28q
    refine OwnR.of (fun _ hr => st28.trans hr) ?_
    show OwnR _ _ _ _ _ _ _ (T28.setTop (mkF m 193 #[.val (.int p1), .val (.int p2), .val (.int p3), .val (.int p4), .val (.int p5), .val (.int (2 : Int32)), .val (.int vb), .val (.ref b19), .val (.ref b22), .val (.long ((p2.toInt64) + (p3.toInt64))), .second, .val (.ref b25), .unset, .unset] [(.double (FP.l2d (((0 : Int64) + (p2.toInt64)) + (p3.toInt64))))]))
    refine OwnR.of (fun _ hr => XS.dstore X28.here hx rfl (hb hby at_193) rfl (l' := #[.val (.int p1), .val (.int p2), .val (.int p3), .val (.int p4), .val (.int p5), .val (.int (2 : Int32)), .val (.int vb), .val (.ref b19), .val (.ref b22), .val (.long ((p2.toInt64) + (p3.toInt64))), .second, .val (.ref b25), .val (.double (FP.l2d (((0 : Int64) + (p2.toInt64)) + (p3.toInt64)))), .second]) rfl hr) ?_
    show OwnR _ _ _ _ _ _ _ (T28.setTop (mkF m 195 #[.val (.int p1), .val (.int p2), .val (.int p3), .val (.int p4), .val (.int p5), .val (.int (2 : Int32)), .val (.int vb), .val (.ref b19), .val (.ref b22), .val (.long ((p2.toInt64) + (p3.toInt64))), .second, .val (.ref b25), .val (.double (FP.l2d (((0 : Int64) + (p2.toInt64)) + (p3.toInt64)))), .second] []))
    refine OwnR.of (fun _ hr => XS.dload X28.here hx rfl (hb hby at_195) rfl hr) ?_
    show OwnR _ _ _ _ _ _ _ (T28.setTop (mkF m 197 #[.val (.int p1), .val (.int p2), .val (.int p3), .val (.int p4), .val (.int p5), .val (.int (2 : Int32)), .val (.int vb), .val (.ref b19), .val (.ref b22), .val (.long ((p2.toInt64) + (p3.toInt64))), .second, .val (.ref b25), .val (.double (FP.l2d (((0 : Int64) + (p2.toInt64)) + (p3.toInt64)))), .second] [(.double (FP.l2d (((0 : Int64) + (p2.toInt64)) + (p3.toInt64))))]))
    refine OwnR.of (fun _ hr => XS.lload X28.here hx rfl (hb hby at_197) rfl hr) ?_
    show OwnR _ _ _ _ _ _ _ (T28.setTop (mkF m 199 #[.val (.int p1), .val (.int p2), .val (.int p3), .val (.int p4), .val (.int p5), .val (.int (2 : Int32)), .val (.int vb), .val (.ref b19), .val (.ref b22), .val (.long ((p2.toInt64) + (p3.toInt64))), .second, .val (.ref b25), .val (.double (FP.l2d (((0 : Int64) + (p2.toInt64)) + (p3.toInt64)))), .second] [(.long ((p2.toInt64) + (p3.toInt64))), (.double (FP.l2d (((0 : Int64) + (p2.toInt64)) + (p3.toInt64))))]))
    refine OwnR.of (fun _ hr => XS.l2dS X28.here hx rfl (hb hby at_199) rfl rfl hr) ?_
    show OwnR _ _ _ _ _ _ _ (T28.setTop (mkF m 200 #[.val (.int p1), .val (.int p2), .val (.int p3), .val (.int p4), .val (.int p5), .val (.int (2 : Int32)), .val (.int vb), .val (.ref b19), .val (.ref b22), .val (.long ((p2.toInt64) + (p3.toInt64))), .second, .val (.ref b25), .val (.double (FP.l2d (((0 : Int64) + (p2.toInt64)) + (p3.toInt64)))), .second] [(.double (FP.l2d ((p2.toInt64) + (p3.toInt64)))), (.double (FP.l2d (((0 : Int64) + (p2.toInt64)) + (p3.toInt64))))]))
    refine OwnR.of (fun _ hr => XS.dcmpS (v := (0 : Int32)) X28.here hx rfl (hb hby at_200) rfl (dcmpV_eq (congrArg FP.l2d (by simp only [Int64.zero_add])) (nn_w rfl) .l) hr) ?_
    show OwnR _ _ _ _ _ _ _ (T28.setTop (mkF m 201 #[.val (.int p1), .val (.int p2), .val (.int p3), .val (.int p4), .val (.int p5), .val (.int (2 : Int32)), .val (.int vb), .val (.ref b19), .val (.ref b22), .val (.long ((p2.toInt64) + (p3.toInt64))), .second, .val (.ref b25), .val (.double (FP.l2d (((0 : Int64) + (p2.toInt64)) + (p3.toInt64)))), .second] [(.int (0 : Int32))]))
    refine OwnR.of (fun _ hr => XS.ifNo X28.here hx rfl (hb hby at_201) rfl ((if0 _ _).trans (teq (by decide : (0 : Int32) = (0 : Int32))).2) hr) ?_
    show OwnR _ _ _ _ _ _ _ (T28.setTop (mkF m 204 #[.val (.int p1), .val (.int p2), .val (.int p3), .val (.int p4), .val (.int p5), .val (.int (2 : Int32)), .val (.int vb), .val (.ref b19), .val (.ref b22), .val (.long ((p2.toInt64) + (p3.toInt64))), .second, .val (.ref b25), .val (.double (FP.l2d (((0 : Int64) + (p2.toInt64)) + (p3.toInt64)))), .second] []))
    refine OwnR.of (fun _ hr => XS.iconst X28.here hx rfl (hb hby at_204) hr) ?_
    show OwnR _ _ _ _ _ _ _ (T28.setTop (mkF m 205 #[.val (.int p1), .val (.int p2), .val (.int p3), .val (.int p4), .val (.int p5), .val (.int (2 : Int32)), .val (.int vb), .val (.ref b19), .val (.ref b22), .val (.long ((p2.toInt64) + (p3.toInt64))), .second, .val (.ref b25), .val (.double (FP.l2d (((0 : Int64) + (p2.toInt64)) + (p3.toInt64)))), .second] [(.int (1 : Int32))]))
    refine OwnR.of (fun _ hr => XS.goto X28.here hx rfl (pc0 := 205) (pc' := 209) rfl (hb hby at_205) (by decide) (by decide) hr) ?_
    show OwnR _ _ _ _ _ _ _ (T28.setTop (mkF m 209 #[.val (.int p1), .val (.int p2), .val (.int p3), .val (.int p4), .val (.int p5), .val (.int (2 : Int32)), .val (.int vb), .val (.ref b19), .val (.ref b22), .val (.long ((p2.toInt64) + (p3.toInt64))), .second, .val (.ref b25), .val (.double (FP.l2d (((0 : Int64) + (p2.toInt64)) + (p3.toInt64)))), .second] [(.int (1 : Int32))]))
    refine own_leafN X28 hx hlk (t := .boolean) Bd.returns (by simp) (hb hby at_209) (z' := (1 : Int32)) rfl (by decide) (by decide) ?_
    show Q0 Z  h0 n0 _ T28.heap _
    rw [show T28.heap = h27 from e28]
    refine ⟨?_, N28⟩
    show (some (.int (1 : Int32)) : Option Value) = some (.int (1 : Int32))
    rfl
  · skip
    show OwnR _ _ _ _ _ _ _ (s₁.setTop (mkF m 14 #[.val (.int p1), .val (.int p2), .val (.int p3), .val (.int p4), .val (.int p5), .val (.int (3 : Int32)), .val (.int vb), .unset, .unset, .unset, .unset, .unset, .unset, .unset] []))
    refine OwnR.of (fun _ hr => XS.iload X0.here hx rfl (hb hby at_14) rfl hr) ?_
    show OwnR _ _ _ _ _ _ _ (s₁.setTop (mkF m 16 #[.val (.int p1), .val (.int p2), .val (.int p3), .val (.int p4), .val (.int p5), .val (.int (3 : Int32)), .val (.int vb), .unset, .unset, .unset, .unset, .unset, .unset, .unset] [(.int (3 : Int32))]))
    refine OwnR.of (fun _ hr => XS.ifYes X0.here hx rfl (pc0 := 16) (pc' := 35) rfl (hb hby at_16) rfl ((if0 _ _).trans (feq (by decide : ¬ ((3 : Int32) = (0 : Int32)))).2) (by decide) (by decide) hr) ?_
    show OwnR _ _ _ _ _ _ _ (s₁.setTop (mkF m 35 #[.val (.int p1), .val (.int p2), .val (.int p3), .val (.int p4), .val (.int p5), .val (.int (3 : Int32)), .val (.int vb), .unset, .unset, .unset, .unset, .unset, .unset, .unset] []))
    refine OwnR.of (fun _ hr => XS.iload X0.here hx rfl (hb hby at_35) rfl hr) ?_
    show OwnR _ _ _ _ _ _ _ (s₁.setTop (mkF m 37 #[.val (.int p1), .val (.int p2), .val (.int p3), .val (.int p4), .val (.int p5), .val (.int (3 : Int32)), .val (.int vb), .unset, .unset, .unset, .unset, .unset, .unset, .unset] [(.int (3 : Int32))]))
    refine OwnR.of (fun _ hr => XS.iconst X0.here hx rfl (hb hby at_37) hr) ?_
    show OwnR _ _ _ _ _ _ _ (s₁.setTop (mkF m 38 #[.val (.int p1), .val (.int p2), .val (.int p3), .val (.int p4), .val (.int p5), .val (.int (3 : Int32)), .val (.int vb), .unset, .unset, .unset, .unset, .unset, .unset, .unset] [(.int (1 : Int32)), (.int (3 : Int32))]))
    refine OwnR.of (fun _ hr => XS.icmpYes X0.here hx rfl (pc0 := 38) (pc' := 68) rfl (hb hby at_38) rfl (feq (by decide : ¬ ((3 : Int32) = (1 : Int32)))).2 (by decide) (by decide) hr) ?_
    show OwnR _ _ _ _ _ _ _ (s₁.setTop (mkF m 68 #[.val (.int p1), .val (.int p2), .val (.int p3), .val (.int p4), .val (.int p5), .val (.int (3 : Int32)), .val (.int vb), .unset, .unset, .unset, .unset, .unset, .unset, .unset] []))
    refine OwnR.of (fun _ hr => XS.iload X0.here hx rfl (hb hby at_68) rfl hr) ?_
    show OwnR _ _ _ _ _ _ _ (s₁.setTop (mkF m 70 #[.val (.int p1), .val (.int p2), .val (.int p3), .val (.int p4), .val (.int p5), .val (.int (3 : Int32)), .val (.int vb), .unset, .unset, .unset, .unset, .unset, .unset, .unset] [(.int (3 : Int32))]))
    refine OwnR.of (fun _ hr => XS.iconst X0.here hx rfl (hb hby at_70) hr) ?_
    show OwnR _ _ _ _ _ _ _ (s₁.setTop (mkF m 71 #[.val (.int p1), .val (.int p2), .val (.int p3), .val (.int p4), .val (.int p5), .val (.int (3 : Int32)), .val (.int vb), .unset, .unset, .unset, .unset, .unset, .unset, .unset] [(.int (2 : Int32)), (.int (3 : Int32))]))
    refine OwnR.of (fun _ hr => XS.icmpYes X0.here hx rfl (pc0 := 71) (pc' := 113) rfl (hb hby at_71) rfl (feq (by decide : ¬ ((3 : Int32) = (2 : Int32)))).2 (by decide) (by decide) hr) ?_
    show OwnR _ _ _ _ _ _ _ (s₁.setTop (mkF m 113 #[.val (.int p1), .val (.int p2), .val (.int p3), .val (.int p4), .val (.int p5), .val (.int (3 : Int32)), .val (.int vb), .unset, .unset, .unset, .unset, .unset, .unset, .unset] []))
    refine OwnR.of (fun _ hr => XS.iconst X0.here hx rfl (hb hby at_113) hr) ?_
    show OwnR _ _ _ _ _ _ _ (s₁.setTop (mkF m 114 #[.val (.int p1), .val (.int p2), .val (.int p3), .val (.int p4), .val (.int p5), .val (.int (3 : Int32)), .val (.int vb), .unset, .unset, .unset, .unset, .unset, .unset, .unset] [(.int (3 : Int32))]))
    obtain ⟨T29, h29, k29, X29, e29, E29, A29, AE29, st29⟩ := newPE X0 hx hZ (hw _ (List.mem_of_getElem? (i := 1) rfl)) e0 (g := (mkF m 114 #[.val (.int p1), .val (.int p2), .val (.int p3), .val (.int p4), .val (.int p5), .val (.int (3 : Int32)), .val (.int vb), .unset, .unset, .unset, .unset, .unset, .unset, .unset] [(.int (3 : Int32))])) rfl (hb hby at_114) rfl (by decide) (cap := 3) (by decide) (by decide) (by decide) (by decide) (ad := "[D") rfl
    obtain ⟨b29, g29⟩ : ∃ z, z = h0.size := ⟨_, rfl⟩
    rw [← g29] at A29 AE29 st29
    refine OwnR.of (st29) ?_
    have gn_b29 : n0 ≤ b29 := Nat.le_trans (Nat.le_trans Z0 (Keep.refl h0 []).1) (Nat.le_of_eq g29.symm)
    have sz_b29 : h0.size ≤ b29 := Nat.le_trans (Keep.refl h0 []).1 (Nat.le_of_eq g29.symm)
    have K29 : Keep h0 h29 [] := Keep.ext (Keep.refl h0 []) E29
    have V29 : Arv Z h29 b29 k29 .double (3 : Int32) [(.double (0 : UInt64)), (.double (0 : UInt64)), (.double (0 : UInt64))] (.double (0 : UInt64)) := (Arv.new A29 (by decide)).pad (pad_rep [] (.double (0 : UInt64)) 3)
    show OwnR _ _ _ _ _ _ _ (T29.setTop (mkF m 116 #[.val (.int p1), .val (.int p2), .val (.int p3), .val (.int p4), .val (.int p5), .val (.int (3 : Int32)), .val (.int vb), .unset, .unset, .unset, .unset, .unset, .unset, .unset] [(.ref b29)]))
    refine OwnR.of (fun _ hr => XS.dup X29.here hx rfl (hb hby at_116) rfl rfl hr) ?_
    show OwnR _ _ _ _ _ _ _ (T29.setTop (mkF m 117 #[.val (.int p1), .val (.int p2), .val (.int p3), .val (.int p4), .val (.int p5), .val (.int (3 : Int32)), .val (.int vb), .unset, .unset, .unset, .unset, .unset, .unset, .unset] [(.ref b29), (.ref b29)]))
    refine OwnR.of (fun _ hr => XS.iconst X29.here hx rfl (hb hby at_117) hr) ?_
    show OwnR _ _ _ _ _ _ _ (T29.setTop (mkF m 118 #[.val (.int p1), .val (.int p2), .val (.int p3), .val (.int p4), .val (.int p5), .val (.int (3 : Int32)), .val (.int vb), .unset, .unset, .unset, .unset, .unset, .unset, .unset] [(.int (0 : Int32)), (.ref b29), (.ref b29)]))
    refine OwnR.of (fun _ hr => XS.iloadN X29.here hx rfl (hb hby at_118) rfl hr) ?_
    show OwnR _ _ _ _ _ _ _ (T29.setTop (mkF m 119 #[.val (.int p1), .val (.int p2), .val (.int p3), .val (.int p4), .val (.int p5), .val (.int (3 : Int32)), .val (.int vb), .unset, .unset, .unset, .unset, .unset, .unset, .unset] [(.int p2), (.int (0 : Int32)), (.ref b29), (.ref b29)]))
    refine OwnR.of (fun _ hr => XS.i2dS X29.here hx rfl (hb hby at_119) rfl (i2d_w _) hr) ?_
    show OwnR _ _ _ _ _ _ _ (T29.setTop (mkF m 120 #[.val (.int p1), .val (.int p2), .val (.int p3), .val (.int p4), .val (.int p5), .val (.int (3 : Int32)), .val (.int vb), .unset, .unset, .unset, .unset, .unset, .unset, .unset] [(.double (FP.l2d (p2.toInt64))), (.int (0 : Int32)), (.ref b29), (.ref b29)]))
    obtain ⟨cl30, Ar30, q30, S30, N30q, H30, G30⟩ := id V29
    have hin30 : ¬ ((0 : Int32) < 0 ∨ cl30.slots.size ≤ ((0 : Int32)).toNatClampNeg) := (inb_of S30 ⟨by decide, by decide⟩)
    obtain ⟨T30, h30, X30, e30, W30, st30⟩ := stD X29 hx hZ e29 Ar30 (j := (0 : Int32)) hin30 (g := (mkF m 120 #[.val (.int p1), .val (.int p2), .val (.int p3), .val (.int p4), .val (.int p5), .val (.int (3 : Int32)), .val (.int vb), .unset, .unset, .unset, .unset, .unset, .unset, .unset] [(.double (FP.l2d (p2.toInt64))), (.int (0 : Int32)), (.ref b29), (.ref b29)])) rfl rfl (hb hby at_120)
    refine OwnR.of (st30) ?_
    have V30 := Arv.set Ar30 q30 S30 N30q H30 G30 rfl W30 0 rfl (Nat.le_of_ble_eq_true rfl)
    have V30 : Arv Z h30 b29 k29 .double (3 : Int32) [(.double (FP.l2d (p2.toInt64))), (.double (0 : UInt64)), (.double (0 : UInt64))] (.double (0 : UInt64)) := V30
    have K30 : Keep h0 h30 [] := Keep.wr K29 W30 (Or.inr sz_b29)
    have N30 := Fr.snoc X30 N0 gn_b29
    show OwnR _ _ _ _ _ _ _ (T30.setTop (mkF m 121 #[.val (.int p1), .val (.int p2), .val (.int p3), .val (.int p4), .val (.int p5), .val (.int (3 : Int32)), .val (.int vb), .unset, .unset, .unset, .unset, .unset, .unset, .unset] [(.ref b29)]))
    refine OwnR.of (fun _ hr => XS.dup X30.here hx rfl (hb hby at_121) rfl rfl hr) ?_
    show OwnR _ _ _ _ _ _ _ (T30.setTop (mkF m 122 #[.val (.int p1), .val (.int p2), .val (.int p3), .val (.int p4), .val (.int p5), .val (.int (3 : Int32)), .val (.int vb), .unset, .unset, .unset, .unset, .unset, .unset, .unset] [(.ref b29), (.ref b29)]))
    refine OwnR.of (fun _ hr => XS.iconst X30.here hx rfl (hb hby at_122) hr) ?_
    show OwnR _ _ _ _ _ _ _ (T30.setTop (mkF m 123 #[.val (.int p1), .val (.int p2), .val (.int p3), .val (.int p4), .val (.int p5), .val (.int (3 : Int32)), .val (.int vb), .unset, .unset, .unset, .unset, .unset, .unset, .unset] [(.int (1 : Int32)), (.ref b29), (.ref b29)]))
    refine OwnR.of (fun _ hr => XS.iloadN X30.here hx rfl (hb hby at_123) rfl hr) ?_
    show OwnR _ _ _ _ _ _ _ (T30.setTop (mkF m 124 #[.val (.int p1), .val (.int p2), .val (.int p3), .val (.int p4), .val (.int p5), .val (.int (3 : Int32)), .val (.int vb), .unset, .unset, .unset, .unset, .unset, .unset, .unset] [(.int p3), (.int (1 : Int32)), (.ref b29), (.ref b29)]))
    refine OwnR.of (fun _ hr => XS.i2dS X30.here hx rfl (hb hby at_124) rfl (i2d_w _) hr) ?_
    show OwnR _ _ _ _ _ _ _ (T30.setTop (mkF m 125 #[.val (.int p1), .val (.int p2), .val (.int p3), .val (.int p4), .val (.int p5), .val (.int (3 : Int32)), .val (.int vb), .unset, .unset, .unset, .unset, .unset, .unset, .unset] [(.double (FP.l2d (p3.toInt64))), (.int (1 : Int32)), (.ref b29), (.ref b29)]))
    obtain ⟨cl31, Ar31, q31, S31, N31q, H31, G31⟩ := id V30
    have hin31 : ¬ ((1 : Int32) < 0 ∨ cl31.slots.size ≤ ((1 : Int32)).toNatClampNeg) := (inb_of S31 ⟨by decide, by decide⟩)
    obtain ⟨T31, h31, X31, e31, W31, st31⟩ := stD X30 hx hZ e30 Ar31 (j := (1 : Int32)) hin31 (g := (mkF m 125 #[.val (.int p1), .val (.int p2), .val (.int p3), .val (.int p4), .val (.int p5), .val (.int (3 : Int32)), .val (.int vb), .unset, .unset, .unset, .unset, .unset, .unset, .unset] [(.double (FP.l2d (p3.toInt64))), (.int (1 : Int32)), (.ref b29), (.ref b29)])) rfl rfl (hb hby at_125)
    refine OwnR.of (st31) ?_
    have V31 := Arv.set Ar31 q31 S31 N31q H31 G31 rfl W31 1 rfl (Nat.le_of_ble_eq_true rfl)
    have V31 : Arv Z h31 b29 k29 .double (3 : Int32) [(.double (FP.l2d (p2.toInt64))), (.double (FP.l2d (p3.toInt64))), (.double (0 : UInt64))] (.double (0 : UInt64)) := V31
    have K31 : Keep h0 h31 [] := Keep.wr K30 W31 (Or.inr sz_b29)
    have N31 := Fr.snoc X31 N30 gn_b29
    show OwnR _ _ _ _ _ _ _ (T31.setTop (mkF m 126 #[.val (.int p1), .val (.int p2), .val (.int p3), .val (.int p4), .val (.int p5), .val (.int (3 : Int32)), .val (.int vb), .unset, .unset, .unset, .unset, .unset, .unset, .unset] [(.ref b29)]))
    refine OwnR.of (fun _ hr => XS.dup X31.here hx rfl (hb hby at_126) rfl rfl hr) ?_
    show OwnR _ _ _ _ _ _ _ (T31.setTop (mkF m 127 #[.val (.int p1), .val (.int p2), .val (.int p3), .val (.int p4), .val (.int p5), .val (.int (3 : Int32)), .val (.int vb), .unset, .unset, .unset, .unset, .unset, .unset, .unset] [(.ref b29), (.ref b29)]))
    refine OwnR.of (fun _ hr => XS.iconst X31.here hx rfl (hb hby at_127) hr) ?_
    show OwnR _ _ _ _ _ _ _ (T31.setTop (mkF m 128 #[.val (.int p1), .val (.int p2), .val (.int p3), .val (.int p4), .val (.int p5), .val (.int (3 : Int32)), .val (.int vb), .unset, .unset, .unset, .unset, .unset, .unset, .unset] [(.int (2 : Int32)), (.ref b29), (.ref b29)]))
    refine OwnR.of (fun _ hr => XS.iloadN X31.here hx rfl (hb hby at_128) rfl hr) ?_
    show OwnR _ _ _ _ _ _ _ (T31.setTop (mkF m 129 #[.val (.int p1), .val (.int p2), .val (.int p3), .val (.int p4), .val (.int p5), .val (.int (3 : Int32)), .val (.int vb), .unset, .unset, .unset, .unset, .unset, .unset, .unset] [(.int p4), (.int (2 : Int32)), (.ref b29), (.ref b29)]))
    refine OwnR.of (fun _ hr => XS.i2dS X31.here hx rfl (hb hby at_129) rfl (i2d_w _) hr) ?_
    show OwnR _ _ _ _ _ _ _ (T31.setTop (mkF m 130 #[.val (.int p1), .val (.int p2), .val (.int p3), .val (.int p4), .val (.int p5), .val (.int (3 : Int32)), .val (.int vb), .unset, .unset, .unset, .unset, .unset, .unset, .unset] [(.double (FP.l2d (p4.toInt64))), (.int (2 : Int32)), (.ref b29), (.ref b29)]))
    obtain ⟨cl32, Ar32, q32, S32, N32q, H32, G32⟩ := id V31
    have hin32 : ¬ ((2 : Int32) < 0 ∨ cl32.slots.size ≤ ((2 : Int32)).toNatClampNeg) := (inb_of S32 ⟨by decide, by decide⟩)
    obtain ⟨T32, h32, X32, e32, W32, st32⟩ := stD X31 hx hZ e31 Ar32 (j := (2 : Int32)) hin32 (g := (mkF m 130 #[.val (.int p1), .val (.int p2), .val (.int p3), .val (.int p4), .val (.int p5), .val (.int (3 : Int32)), .val (.int vb), .unset, .unset, .unset, .unset, .unset, .unset, .unset] [(.double (FP.l2d (p4.toInt64))), (.int (2 : Int32)), (.ref b29), (.ref b29)])) rfl rfl (hb hby at_130)
    refine OwnR.of (st32) ?_
    have V32 := Arv.set Ar32 q32 S32 N32q H32 G32 rfl W32 2 rfl (Nat.le_of_ble_eq_true rfl)
    have V32 : Arv Z h32 b29 k29 .double (3 : Int32) [(.double (FP.l2d (p2.toInt64))), (.double (FP.l2d (p3.toInt64))), (.double (FP.l2d (p4.toInt64)))] (.double (0 : UInt64)) := V32
    have K32 : Keep h0 h32 [] := Keep.wr K31 W32 (Or.inr sz_b29)
    have N32 := Fr.snoc X32 N31 gn_b29
    show OwnR _ _ _ _ _ _ _ (T32.setTop (mkF m 131 #[.val (.int p1), .val (.int p2), .val (.int p3), .val (.int p4), .val (.int p5), .val (.int (3 : Int32)), .val (.int vb), .unset, .unset, .unset, .unset, .unset, .unset, .unset] [(.ref b29)]))
    refine OwnR.of (fun _ hr => XS.astore X32.here hx rfl (hb hby at_131) rfl rfl (l' := #[.val (.int p1), .val (.int p2), .val (.int p3), .val (.int p4), .val (.int p5), .val (.int (3 : Int32)), .val (.int vb), .val (.ref b29), .unset, .unset, .unset, .unset, .unset, .unset]) rfl hr) ?_
    show OwnR _ _ _ _ _ _ _ (T32.setTop (mkF m 133 #[.val (.int p1), .val (.int p2), .val (.int p3), .val (.int p4), .val (.int p5), .val (.int (3 : Int32)), .val (.int vb), .val (.ref b29), .unset, .unset, .unset, .unset, .unset, .unset] []))
    refine OwnR.of (fun _ hr => XS.iconst X32.here hx rfl (hb hby at_133) hr) ?_
    show OwnR _ _ _ _ _ _ _ (T32.setTop (mkF m 134 #[.val (.int p1), .val (.int p2), .val (.int p3), .val (.int p4), .val (.int p5), .val (.int (3 : Int32)), .val (.int vb), .val (.ref b29), .unset, .unset, .unset, .unset, .unset, .unset] [(.int (3 : Int32))]))
    obtain ⟨T33, h33, k33, X33, e33, E33, A33, AE33, st33⟩ := newPE X32 hx hZ (hw _ (List.mem_of_getElem? (i := 2) rfl)) e32 (g := (mkF m 134 #[.val (.int p1), .val (.int p2), .val (.int p3), .val (.int p4), .val (.int p5), .val (.int (3 : Int32)), .val (.int vb), .val (.ref b29), .unset, .unset, .unset, .unset, .unset, .unset] [(.int (3 : Int32))])) rfl (hb hby at_134) rfl (by decide) (cap := 3) (by decide) (by decide) (by decide) (by decide) (ad := "[I") rfl
    obtain ⟨b33, g33⟩ : ∃ z, z = h32.size := ⟨_, rfl⟩
    rw [← g33] at A33 AE33 st33
    refine OwnR.of (st33) ?_
    have gn_b33 : n0 ≤ b33 := Nat.le_trans (Nat.le_trans Z0 K32.1) (Nat.le_of_eq g33.symm)
    have sz_b33 : h0.size ≤ b33 := Nat.le_trans K32.1 (Nat.le_of_eq g33.symm)
    have K33 : Keep h0 h33 [] := Keep.ext K32 E33
    have V33 : Arv Z h33 b33 k33 .int (3 : Int32) [(.int (0 : Int32)), (.int (0 : Int32)), (.int (0 : Int32))] (.int (0 : Int32)) := (Arv.new A33 (by decide)).pad (pad_rep [] (.int (0 : Int32)) 3)
    show OwnR _ _ _ _ _ _ _ (T33.setTop (mkF m 136 #[.val (.int p1), .val (.int p2), .val (.int p3), .val (.int p4), .val (.int p5), .val (.int (3 : Int32)), .val (.int vb), .val (.ref b29), .unset, .unset, .unset, .unset, .unset, .unset] [(.ref b33)]))
    refine OwnR.of (fun _ hr => XS.dup X33.here hx rfl (hb hby at_136) rfl rfl hr) ?_
    show OwnR _ _ _ _ _ _ _ (T33.setTop (mkF m 137 #[.val (.int p1), .val (.int p2), .val (.int p3), .val (.int p4), .val (.int p5), .val (.int (3 : Int32)), .val (.int vb), .val (.ref b29), .unset, .unset, .unset, .unset, .unset, .unset] [(.ref b33), (.ref b33)]))
    refine OwnR.of (fun _ hr => XS.iconst X33.here hx rfl (hb hby at_137) hr) ?_
    show OwnR _ _ _ _ _ _ _ (T33.setTop (mkF m 138 #[.val (.int p1), .val (.int p2), .val (.int p3), .val (.int p4), .val (.int p5), .val (.int (3 : Int32)), .val (.int vb), .val (.ref b29), .unset, .unset, .unset, .unset, .unset, .unset] [(.int (0 : Int32)), (.ref b33), (.ref b33)]))
    refine OwnR.of (fun _ hr => XS.iload X33.here hx rfl (hb hby at_138) rfl hr) ?_
    show OwnR _ _ _ _ _ _ _ (T33.setTop (mkF m 140 #[.val (.int p1), .val (.int p2), .val (.int p3), .val (.int p4), .val (.int p5), .val (.int (3 : Int32)), .val (.int vb), .val (.ref b29), .unset, .unset, .unset, .unset, .unset, .unset] [(.int vb), (.int (0 : Int32)), (.ref b33), (.ref b33)]))
    obtain ⟨cl34, Ar34, q34, S34, N34q, H34, G34⟩ := id V33
    have hin34 : ¬ ((0 : Int32) < 0 ∨ cl34.slots.size ≤ ((0 : Int32)).toNatClampNeg) := (inb_of S34 ⟨by decide, by decide⟩)
    obtain ⟨T34, h34, X34, e34, W34, st34⟩ := stI X33 hx hZ e33 Ar34 (j := (0 : Int32)) hin34 (g := (mkF m 140 #[.val (.int p1), .val (.int p2), .val (.int p3), .val (.int p4), .val (.int p5), .val (.int (3 : Int32)), .val (.int vb), .val (.ref b29), .unset, .unset, .unset, .unset, .unset, .unset] [(.int vb), (.int (0 : Int32)), (.ref b33), (.ref b33)])) rfl rfl (hb hby at_140)
    refine OwnR.of (st34) ?_
    have V34 := Arv.set Ar34 q34 S34 N34q H34 G34 rfl W34 0 rfl (Nat.le_of_ble_eq_true rfl)
    have V34 : Arv Z h34 b33 k33 .int (3 : Int32) [(.int vb), (.int (0 : Int32)), (.int (0 : Int32))] (.int (0 : Int32)) := V34
    have K34 : Keep h0 h34 [] := Keep.wr K33 W34 (Or.inr sz_b33)
    have N34 := Fr.snoc X34 N32 gn_b33
    show OwnR _ _ _ _ _ _ _ (T34.setTop (mkF m 141 #[.val (.int p1), .val (.int p2), .val (.int p3), .val (.int p4), .val (.int p5), .val (.int (3 : Int32)), .val (.int vb), .val (.ref b29), .unset, .unset, .unset, .unset, .unset, .unset] [(.ref b33)]))
    refine OwnR.of (fun _ hr => XS.dup X34.here hx rfl (hb hby at_141) rfl rfl hr) ?_
    show OwnR _ _ _ _ _ _ _ (T34.setTop (mkF m 142 #[.val (.int p1), .val (.int p2), .val (.int p3), .val (.int p4), .val (.int p5), .val (.int (3 : Int32)), .val (.int vb), .val (.ref b29), .unset, .unset, .unset, .unset, .unset, .unset] [(.ref b33), (.ref b33)]))
    refine OwnR.of (fun _ hr => XS.iconst X34.here hx rfl (hb hby at_142) hr) ?_
    show OwnR _ _ _ _ _ _ _ (T34.setTop (mkF m 143 #[.val (.int p1), .val (.int p2), .val (.int p3), .val (.int p4), .val (.int p5), .val (.int (3 : Int32)), .val (.int vb), .val (.ref b29), .unset, .unset, .unset, .unset, .unset, .unset] [(.int (1 : Int32)), (.ref b33), (.ref b33)]))
    refine OwnR.of (fun _ hr => XS.iconst X34.here hx rfl (hb hby at_143) hr) ?_
    show OwnR _ _ _ _ _ _ _ (T34.setTop (mkF m 144 #[.val (.int p1), .val (.int p2), .val (.int p3), .val (.int p4), .val (.int p5), .val (.int (3 : Int32)), .val (.int vb), .val (.ref b29), .unset, .unset, .unset, .unset, .unset, .unset] [(.int (1 : Int32)), (.int (1 : Int32)), (.ref b33), (.ref b33)]))
    obtain ⟨cl35, Ar35, q35, S35, N35q, H35, G35⟩ := id V34
    have hin35 : ¬ ((1 : Int32) < 0 ∨ cl35.slots.size ≤ ((1 : Int32)).toNatClampNeg) := (inb_of S35 ⟨by decide, by decide⟩)
    obtain ⟨T35, h35, X35, e35, W35, st35⟩ := stI X34 hx hZ e34 Ar35 (j := (1 : Int32)) hin35 (g := (mkF m 144 #[.val (.int p1), .val (.int p2), .val (.int p3), .val (.int p4), .val (.int p5), .val (.int (3 : Int32)), .val (.int vb), .val (.ref b29), .unset, .unset, .unset, .unset, .unset, .unset] [(.int (1 : Int32)), (.int (1 : Int32)), (.ref b33), (.ref b33)])) rfl rfl (hb hby at_144)
    refine OwnR.of (st35) ?_
    have V35 := Arv.set Ar35 q35 S35 N35q H35 G35 rfl W35 1 rfl (Nat.le_of_ble_eq_true rfl)
    have V35 : Arv Z h35 b33 k33 .int (3 : Int32) [(.int vb), (.int (1 : Int32)), (.int (0 : Int32))] (.int (0 : Int32)) := V35
    have K35 : Keep h0 h35 [] := Keep.wr K34 W35 (Or.inr sz_b33)
    have N35 := Fr.snoc X35 N34 gn_b33
    show OwnR _ _ _ _ _ _ _ (T35.setTop (mkF m 145 #[.val (.int p1), .val (.int p2), .val (.int p3), .val (.int p4), .val (.int p5), .val (.int (3 : Int32)), .val (.int vb), .val (.ref b29), .unset, .unset, .unset, .unset, .unset, .unset] [(.ref b33)]))
    refine OwnR.of (fun _ hr => XS.dup X35.here hx rfl (hb hby at_145) rfl rfl hr) ?_
    show OwnR _ _ _ _ _ _ _ (T35.setTop (mkF m 146 #[.val (.int p1), .val (.int p2), .val (.int p3), .val (.int p4), .val (.int p5), .val (.int (3 : Int32)), .val (.int vb), .val (.ref b29), .unset, .unset, .unset, .unset, .unset, .unset] [(.ref b33), (.ref b33)]))
    refine OwnR.of (fun _ hr => XS.iconst X35.here hx rfl (hb hby at_146) hr) ?_
    show OwnR _ _ _ _ _ _ _ (T35.setTop (mkF m 147 #[.val (.int p1), .val (.int p2), .val (.int p3), .val (.int p4), .val (.int p5), .val (.int (3 : Int32)), .val (.int vb), .val (.ref b29), .unset, .unset, .unset, .unset, .unset, .unset] [(.int (2 : Int32)), (.ref b33), (.ref b33)]))
    refine OwnR.of (fun _ hr => XS.iload X35.here hx rfl (hb hby at_147) rfl hr) ?_
    show OwnR _ _ _ _ _ _ _ (T35.setTop (mkF m 149 #[.val (.int p1), .val (.int p2), .val (.int p3), .val (.int p4), .val (.int p5), .val (.int (3 : Int32)), .val (.int vb), .val (.ref b29), .unset, .unset, .unset, .unset, .unset, .unset] [(.int vb), (.int (2 : Int32)), (.ref b33), (.ref b33)]))
    obtain ⟨cl36, Ar36, q36, S36, N36q, H36, G36⟩ := id V35
    have hin36 : ¬ ((2 : Int32) < 0 ∨ cl36.slots.size ≤ ((2 : Int32)).toNatClampNeg) := (inb_of S36 ⟨by decide, by decide⟩)
    obtain ⟨T36, h36, X36, e36, W36, st36⟩ := stI X35 hx hZ e35 Ar36 (j := (2 : Int32)) hin36 (g := (mkF m 149 #[.val (.int p1), .val (.int p2), .val (.int p3), .val (.int p4), .val (.int p5), .val (.int (3 : Int32)), .val (.int vb), .val (.ref b29), .unset, .unset, .unset, .unset, .unset, .unset] [(.int vb), (.int (2 : Int32)), (.ref b33), (.ref b33)])) rfl rfl (hb hby at_149)
    refine OwnR.of (st36) ?_
    have V36 := Arv.set Ar36 q36 S36 N36q H36 G36 rfl W36 2 rfl (Nat.le_of_ble_eq_true rfl)
    have V36 : Arv Z h36 b33 k33 .int (3 : Int32) [(.int vb), (.int (1 : Int32)), (.int vb)] (.int (0 : Int32)) := V36
    have K36 : Keep h0 h36 [] := Keep.wr K35 W36 (Or.inr sz_b33)
    have N36 := Fr.snoc X36 N35 gn_b33
    show OwnR _ _ _ _ _ _ _ (T36.setTop (mkF m 150 #[.val (.int p1), .val (.int p2), .val (.int p3), .val (.int p4), .val (.int p5), .val (.int (3 : Int32)), .val (.int vb), .val (.ref b29), .unset, .unset, .unset, .unset, .unset, .unset] [(.ref b33)]))
    refine OwnR.of (fun _ hr => XS.astore X36.here hx rfl (hb hby at_150) rfl rfl (l' := #[.val (.int p1), .val (.int p2), .val (.int p3), .val (.int p4), .val (.int p5), .val (.int (3 : Int32)), .val (.int vb), .val (.ref b29), .val (.ref b33), .unset, .unset, .unset, .unset, .unset]) rfl hr) ?_
    show OwnR _ _ _ _ _ _ _ (T36.setTop (mkF m 152 #[.val (.int p1), .val (.int p2), .val (.int p3), .val (.int p4), .val (.int p5), .val (.int (3 : Int32)), .val (.int vb), .val (.ref b29), .val (.ref b33), .unset, .unset, .unset, .unset, .unset] []))
    refine OwnR.of (fun _ hr => XS.iloadN X36.here hx rfl (hb hby at_152) rfl hr) ?_
    show OwnR _ _ _ _ _ _ _ (T36.setTop (mkF m 153 #[.val (.int p1), .val (.int p2), .val (.int p3), .val (.int p4), .val (.int p5), .val (.int (3 : Int32)), .val (.int vb), .val (.ref b29), .val (.ref b33), .unset, .unset, .unset, .unset, .unset] [(.int p2)]))
    refine OwnR.of (fun _ hr => XS.i2l X36.here hx rfl (hb hby at_153) rfl hr) ?_
    show OwnR _ _ _ _ _ _ _ (T36.setTop (mkF m 154 #[.val (.int p1), .val (.int p2), .val (.int p3), .val (.int p4), .val (.int p5), .val (.int (3 : Int32)), .val (.int vb), .val (.ref b29), .val (.ref b33), .unset, .unset, .unset, .unset, .unset] [(.long (p2.toInt64))]))
    refine OwnR.of (fun _ hr => XS.iloadN X36.here hx rfl (hb hby at_154) rfl hr) ?_
    show OwnR _ _ _ _ _ _ _ (T36.setTop (mkF m 155 #[.val (.int p1), .val (.int p2), .val (.int p3), .val (.int p4), .val (.int p5), .val (.int (3 : Int32)), .val (.int vb), .val (.ref b29), .val (.ref b33), .unset, .unset, .unset, .unset, .unset] [(.int p3), (.long (p2.toInt64))]))
    refine OwnR.of (fun _ hr => XS.i2l X36.here hx rfl (hb hby at_155) rfl hr) ?_
    show OwnR _ _ _ _ _ _ _ (T36.setTop (mkF m 156 #[.val (.int p1), .val (.int p2), .val (.int p3), .val (.int p4), .val (.int p5), .val (.int (3 : Int32)), .val (.int vb), .val (.ref b29), .val (.ref b33), .unset, .unset, .unset, .unset, .unset] [(.long (p3.toInt64)), (.long (p2.toInt64))]))
    refine OwnR.of (fun _ hr => XS.ladd X36.here hx rfl (hb hby at_156) rfl hr) ?_
    show OwnR _ _ _ _ _ _ _ (T36.setTop (mkF m 157 #[.val (.int p1), .val (.int p2), .val (.int p3), .val (.int p4), .val (.int p5), .val (.int (3 : Int32)), .val (.int vb), .val (.ref b29), .val (.ref b33), .unset, .unset, .unset, .unset, .unset] [(.long ((p2.toInt64) + (p3.toInt64)))]))
    refine OwnR.of (fun _ hr => XS.iloadN X36.here hx rfl (hb hby at_157) rfl hr) ?_
    show OwnR _ _ _ _ _ _ _ (T36.setTop (mkF m 158 #[.val (.int p1), .val (.int p2), .val (.int p3), .val (.int p4), .val (.int p5), .val (.int (3 : Int32)), .val (.int vb), .val (.ref b29), .val (.ref b33), .unset, .unset, .unset, .unset, .unset] [(.int p4), (.long ((p2.toInt64) + (p3.toInt64)))]))
    refine OwnR.of (fun _ hr => XS.i2l X36.here hx rfl (hb hby at_158) rfl hr) ?_
    show OwnR _ _ _ _ _ _ _ (T36.setTop (mkF m 159 #[.val (.int p1), .val (.int p2), .val (.int p3), .val (.int p4), .val (.int p5), .val (.int (3 : Int32)), .val (.int vb), .val (.ref b29), .val (.ref b33), .unset, .unset, .unset, .unset, .unset] [(.long (p4.toInt64)), (.long ((p2.toInt64) + (p3.toInt64)))]))
    refine OwnR.of (fun _ hr => XS.ladd X36.here hx rfl (hb hby at_159) rfl hr) ?_
    show OwnR _ _ _ _ _ _ _ (T36.setTop (mkF m 160 #[.val (.int p1), .val (.int p2), .val (.int p3), .val (.int p4), .val (.int p5), .val (.int (3 : Int32)), .val (.int vb), .val (.ref b29), .val (.ref b33), .unset, .unset, .unset, .unset, .unset] [(.long (((p2.toInt64) + (p3.toInt64)) + (p4.toInt64)))]))
    refine OwnR.of (fun _ hr => XS.lstore X36.here hx rfl (hb hby at_160) rfl (l' := #[.val (.int p1), .val (.int p2), .val (.int p3), .val (.int p4), .val (.int p5), .val (.int (3 : Int32)), .val (.int vb), .val (.ref b29), .val (.ref b33), .val (.long (((p2.toInt64) + (p3.toInt64)) + (p4.toInt64))), .second, .unset, .unset, .unset]) rfl hr) ?_
    show OwnR _ _ _ _ _ _ _ (T36.setTop (mkF m 162 #[.val (.int p1), .val (.int p2), .val (.int p3), .val (.int p4), .val (.int p5), .val (.int (3 : Int32)), .val (.int vb), .val (.ref b29), .val (.ref b33), .val (.long (((p2.toInt64) + (p3.toInt64)) + (p4.toInt64))), .second, .unset, .unset, .unset] []))
    obtain ⟨T37, h37, X37, e37, E37, A37, D37, -, st37⟩ := newO X36 hx hZ hown (hw _ (List.mem_of_getElem? (i := 3) rfl)) (hw _ (List.mem_of_getElem? (i := 4) rfl)) (hw _ (List.mem_of_getElem? (i := 5) rfl)) e36 (g := (mkF m 162 #[.val (.int p1), .val (.int p2), .val (.int p3), .val (.int p4), .val (.int p5), .val (.int (3 : Int32)), .val (.int vb), .val (.ref b29), .val (.ref b33), .val (.long (((p2.toInt64) + (p3.toInt64)) + (p4.toInt64))), .second, .unset, .unset, .unset] [])) rfl (hb hby at_162) (by decide) (by decide)
    obtain ⟨b37, g37⟩ : ∃ z, z = h36.size := ⟨_, rfl⟩
    rw [← g37] at A37 D37 st37
    refine OwnR.of (st37) ?_
    have gn_b37 : n0 ≤ b37 := Nat.le_trans (Nat.le_trans Z0 K36.1) (Nat.le_of_eq g37.symm)
    have sz_b37 : h0.size ≤ b37 := Nat.le_trans K36.1 (Nat.le_of_eq g37.symm)
    have K37 : Keep h0 h37 [] := Keep.ext K36 E37
    have F_branches_b37 : Fld Z h37 b37 "com/example/ramification/ramification/model/StrahlerOrders" "branches" "[I" .null := D37 (Or.inr (hw _ (List.mem_of_getElem? (i := 22) rfl))) (ty := (.array .int)) (by decide)
    have F_lengths_b37 : Fld Z h37 b37 "com/example/ramification/ramification/model/StrahlerOrders" "lengths" "[D" .null := D37 (Or.inr (hw _ (List.mem_of_getElem? (i := 30) rfl))) (ty := (.array .double)) (by decide)
    have F_unit_b37 : Fld Z h37 b37 "com/example/ramification/ramification/model/StrahlerOrders" "unit" "Ljava/util/Optional;" .null := D37 (Or.inr (hw _ (List.mem_of_getElem? (i := 32) rfl))) (ty := (.object "java/util/Optional")) (by decide)
    show OwnR _ _ _ _ _ _ _ (T37.setTop (mkF m 165 #[.val (.int p1), .val (.int p2), .val (.int p3), .val (.int p4), .val (.int p5), .val (.int (3 : Int32)), .val (.int vb), .val (.ref b29), .val (.ref b33), .val (.long (((p2.toInt64) + (p3.toInt64)) + (p4.toInt64))), .second, .unset, .unset, .unset] [(.ref b37)]))
    refine OwnR.of (fun _ hr => XS.dup X37.here hx rfl (hb hby at_165) rfl rfl hr) ?_
    show OwnR _ _ _ _ _ _ _ (T37.setTop (mkF m 166 #[.val (.int p1), .val (.int p2), .val (.int p3), .val (.int p4), .val (.int p5), .val (.int (3 : Int32)), .val (.int vb), .val (.ref b29), .val (.ref b33), .val (.long (((p2.toInt64) + (p3.toInt64)) + (p4.toInt64))), .second, .unset, .unset, .unset] [(.ref b37), (.ref b37)]))
    refine OwnR.of (fun _ hr => XS.aload X37.here hx rfl (hb hby at_166) rfl rfl hr) ?_
    show OwnR _ _ _ _ _ _ _ (T37.setTop (mkF m 168 #[.val (.int p1), .val (.int p2), .val (.int p3), .val (.int p4), .val (.int p5), .val (.int (3 : Int32)), .val (.int vb), .val (.ref b29), .val (.ref b33), .val (.long (((p2.toInt64) + (p3.toInt64)) + (p4.toInt64))), .second, .unset, .unset, .unset] [(.ref b33), (.ref b37), (.ref b37)]))
    refine OwnR.of (fun _ hr => XS.aload X37.here hx rfl (hb hby at_168) rfl rfl hr) ?_
    show OwnR _ _ _ _ _ _ _ (T37.setTop (mkF m 170 #[.val (.int p1), .val (.int p2), .val (.int p3), .val (.int p4), .val (.int p5), .val (.int (3 : Int32)), .val (.int vb), .val (.ref b29), .val (.ref b33), .val (.long (((p2.toInt64) + (p3.toInt64)) + (p4.toInt64))), .second, .unset, .unset, .unset] [(.ref b29), (.ref b33), (.ref b37), (.ref b37)]))
    refine OwnR.of (fun _ hr => XS.aconstNull X37.here hx rfl (hb hby at_170) hr) ?_
    show OwnR _ _ _ _ _ _ _ (T37.setTop (mkF m 171 #[.val (.int p1), .val (.int p2), .val (.int p3), .val (.int p4), .val (.int p5), .val (.int (3 : Int32)), .val (.int vb), .val (.ref b29), .val (.ref b33), .val (.long (((p2.toInt64) + (p3.toInt64)) + (p4.toInt64))), .second, .unset, .unset, .unset] [.null, (.ref b29), (.ref b33), (.ref b37), (.ref b37)]))
    obtain ⟨_, _, ⟨T38, L38, kc38, ns38⟩, -, X38, ⟨Lc38, hQ38, l38, y38, z38⟩, st38⟩ := X37.specialBack hx (y := (⟨"com/example/ramification/ramification/model/StrahlerOrders", "<init>", "([I[DLjava/util/Optional;)V"⟩ : MethodName)) rfl hown (mvT hZ (hw _ (List.mem_of_getElem? (i := 6) rfl))) (mvT hZ (hw _ (List.mem_of_getElem? (i := 7) rfl))) (mvT hZ (hw _ (List.mem_of_getElem? (i := 8) rfl))) (by decide) (backOf (W := 1) (rm1_3 l Z a0 hw [] b37 b33 b29 k33 k29 vb (1 : Int32) vb (FP.l2d (p2.toInt64)) (FP.l2d (p3.toInt64)) (FP.l2d (p4.toInt64)) h37 n0 (Nat.le_trans Z0 K37.1) A37 F_branches_b37 F_lengths_b37 F_unit_b37 (Arv.ext V36 E37) (Arv.ext (Arv.other (Arv.other (Arv.other (Arv.ext V32 E33) W34 (Nat.ne_of_lt (Nat.lt_of_lt_of_le (Exa.wr W32 (Exa.wr W31 (Exa.wr W30 AE29))).lt (Nat.le_of_eq g33.symm)))) W35 (Nat.ne_of_lt (Nat.lt_of_lt_of_le (Exa.wr W32 (Exa.wr W31 (Exa.wr W30 AE29))).lt (Nat.le_of_eq g33.symm)))) W36 (Nat.ne_of_lt (Nat.lt_of_lt_of_le (Exa.wr W32 (Exa.wr W31 (Exa.wr W30 AE29))).lt (Nat.le_of_eq g33.symm)))) E37) (Exa.ext E37 (Exa.wr W36 (Exa.wr W35 (Exa.wr W34 AE33)))) (Exa.ext E37 (Exa.wr W36 (Exa.wr W35 (Exa.wr W34 (Exa.ext E33 (Exa.wr W32 (Exa.wr W31 (Exa.wr W30 AE29)))))))) gn_b37 (Ne.symm (Nat.ne_of_lt (Nat.lt_of_lt_of_le (Exa.wr W36 (Exa.wr W35 (Exa.wr W34 AE33))).lt (Nat.le_of_eq g37.symm)))) (Ne.symm (Nat.ne_of_lt (Nat.lt_of_lt_of_le (Exa.wr W36 (Exa.wr W35 (Exa.wr W34 (Exa.ext E33 (Exa.wr W32 (Exa.wr W31 (Exa.wr W30 AE29))))))).lt (Nat.le_of_eq g37.symm)))) hvb1 (by decide) hvb1) hZ (hw _ (List.mem_of_getElem? (i := 8) rfl)) (hw _ (List.mem_of_getElem? (i := 5) rfl)) (by decide) (by decide)) (g := (mkF m 171 #[.val (.int p1), .val (.int p2), .val (.int p3), .val (.int p4), .val (.int p5), .val (.int (3 : Int32)), .val (.int vb), .val (.ref b29), .val (.ref b33), .val (.long (((p2.toInt64) + (p3.toInt64)) + (p4.toInt64))), .second, .unset, .unset, .unset] [.null, (.ref b29), (.ref b33), (.ref b37), (.ref b37)])) rfl (by rw [hml]; rfl) (Steps.refl _) (a := b37) (argsL := [(.ref b33), (.ref b29), .null]) (rest := [(.ref b37)]) (lenOf pd___I_DLjava_util_Optional__V rfl) rfl (by show 2 * 0 + _ ≤ _; exact Nat.le_of_eq rfl) (hb hby at_171) (fun _ _ => ⟨rfl, e37, (by decide : 3 + 2 ≤ _), (by decide : 9 + 6 ≤ _)⟩)
    dsimp only [Pt.U, Pt.locs, Pt.cells, Pt.slots] at X38 l38 y38 z38 st38 hQ38
    rw [l38, y38, z38] at X38
    obtain ⟨bD_38, rfl, N38q, P38_0, P38_1, P38_2, P38_3, P38_4⟩ := hQ38
    have K38 : Keep h0 T38.heap [] := Keep.trans K37 P38_0 (allS (Or.inr sz_b37) all0)
    have sz_bD_38 : h0.size ≤ bD_38 := Nat.le_trans K37.1 P38_4
    have N38 := Fr.app N36 N38q
    refine OwnR.of (fun _ hr => st38.trans hr) ?_
    show OwnR _ _ _ _ _ _ _ (T38.setTop (mkF m 174 #[.val (.int p1), .val (.int p2), .val (.int p3), .val (.int p4), .val (.int p5), .val (.int (3 : Int32)), .val (.int vb), .val (.ref b29), .val (.ref b33), .val (.long (((p2.toInt64) + (p3.toInt64)) + (p4.toInt64))), .second, .unset, .unset, .unset] [(.ref b37)]))
    refine OwnR.of (fun _ hr => XS.astore X38.here hx rfl (hb hby at_174) rfl rfl (l' := #[.val (.int p1), .val (.int p2), .val (.int p3), .val (.int p4), .val (.int p5), .val (.int (3 : Int32)), .val (.int vb), .val (.ref b29), .val (.ref b33), .val (.long (((p2.toInt64) + (p3.toInt64)) + (p4.toInt64))), .second, .val (.ref b37), .unset, .unset]) rfl hr) ?_
    show OwnR _ _ _ _ _ _ _ (T38.setTop (mkF m 176 #[.val (.int p1), .val (.int p2), .val (.int p3), .val (.int p4), .val (.int p5), .val (.int (3 : Int32)), .val (.int vb), .val (.ref b29), .val (.ref b33), .val (.long (((p2.toInt64) + (p3.toInt64)) + (p4.toInt64))), .second, .val (.ref b37), .unset, .unset] []))
    refine OwnR.of (fun _ hr => XS.iload X38.here hx rfl (hb hby at_176) rfl hr) ?_
    show OwnR _ _ _ _ _ _ _ (T38.setTop (mkF m 178 #[.val (.int p1), .val (.int p2), .val (.int p3), .val (.int p4), .val (.int p5), .val (.int (3 : Int32)), .val (.int vb), .val (.ref b29), .val (.ref b33), .val (.long (((p2.toInt64) + (p3.toInt64)) + (p4.toInt64))), .second, .val (.ref b37), .unset, .unset] [(.int (3 : Int32))]))
    refine OwnR.of (fun _ hr => XS.ifNo X38.here hx rfl (hb hby at_178) rfl ((if0 _ _).trans (tlt (by decide : (0 : Int32) < (3 : Int32))).2.2.2) hr) ?_
    show OwnR _ _ _ _ _ _ _ (T38.setTop (mkF m 181 #[.val (.int p1), .val (.int p2), .val (.int p3), .val (.int p4), .val (.int p5), .val (.int (3 : Int32)), .val (.int vb), .val (.ref b29), .val (.ref b33), .val (.long (((p2.toInt64) + (p3.toInt64)) + (p4.toInt64))), .second, .val (.ref b37), .unset, .unset] []))
    refine OwnR.of (fun _ hr => XS.aload X38.here hx rfl (hb hby at_181) rfl rfl hr) ?_
    show OwnR _ _ _ _ _ _ _ (T38.setTop (mkF m 183 #[.val (.int p1), .val (.int p2), .val (.int p3), .val (.int p4), .val (.int p5), .val (.int (3 : Int32)), .val (.int vb), .val (.ref b29), .val (.ref b33), .val (.long (((p2.toInt64) + (p3.toInt64)) + (p4.toInt64))), .second, .val (.ref b37), .unset, .unset] [(.ref b29)]))
    refine OwnR.of (fun _ hr => XS.iconst X38.here hx rfl (hb hby at_183) hr) ?_
    show OwnR _ _ _ _ _ _ _ (T38.setTop (mkF m 184 #[.val (.int p1), .val (.int p2), .val (.int p3), .val (.int p4), .val (.int p5), .val (.int (3 : Int32)), .val (.int vb), .val (.ref b29), .val (.ref b33), .val (.long (((p2.toInt64) + (p3.toInt64)) + (p4.toInt64))), .second, .val (.ref b37), .unset, .unset] [(.int (0 : Int32)), (.ref b29)]))
    refine OwnR.of (X38.ldc2DoubleC hx hown (mvT hZ (hw _ (List.mem_of_getElem? (i := 38) rfl))) (g := (mkF m 184 #[.val (.int p1), .val (.int p2), .val (.int p3), .val (.int p4), .val (.int p5), .val (.int (3 : Int32)), .val (.int vb), .val (.ref b29), .val (.ref b33), .val (.long (((p2.toInt64) + (p3.toInt64)) + (p4.toInt64))), .second, .val (.ref b37), .unset, .unset] [(.int (0 : Int32)), (.ref b29)])) rfl (hb hby at_184)) ?_
    show OwnR _ _ _ _ _ _ _ (T38.setTop (mkF m 187 #[.val (.int p1), .val (.int p2), .val (.int p3), .val (.int p4), .val (.int p5), .val (.int (3 : Int32)), .val (.int vb), .val (.ref b29), .val (.ref b33), .val (.long (((p2.toInt64) + (p3.toInt64)) + (p4.toInt64))), .second, .val (.ref b37), .unset, .unset] [(.double (4602678819172646912 : UInt64)), (.int (0 : Int32)), (.ref b29)]))
    obtain ⟨cl39, Ar39, q39, S39, N39q, H39, G39⟩ := id ((Arv.ext (Arv.other (Arv.other (Arv.other (Arv.ext V32 E33) W34 (Nat.ne_of_lt (Nat.lt_of_lt_of_le (Exa.wr W32 (Exa.wr W31 (Exa.wr W30 AE29))).lt (Nat.le_of_eq g33.symm)))) W35 (Nat.ne_of_lt (Nat.lt_of_lt_of_le (Exa.wr W32 (Exa.wr W31 (Exa.wr W30 AE29))).lt (Nat.le_of_eq g33.symm)))) W36 (Nat.ne_of_lt (Nat.lt_of_lt_of_le (Exa.wr W32 (Exa.wr W31 (Exa.wr W30 AE29))).lt (Nat.le_of_eq g33.symm)))) E37).keep P38_0 (ninS (Nat.ne_of_lt (Nat.lt_of_lt_of_le (Exa.wr W36 (Exa.wr W35 (Exa.wr W34 (Exa.ext E33 (Exa.wr W32 (Exa.wr W31 (Exa.wr W30 AE29))))))).lt (Nat.le_of_eq g37.symm))) nin0))
    have hin39 : ¬ ((0 : Int32) < 0 ∨ cl39.slots.size ≤ ((0 : Int32)).toNatClampNeg) := (inb_of S39 ⟨by decide, by decide⟩)
    obtain ⟨T39, h39, X39, e39, W39, st39⟩ := stD X38 hx hZ rfl Ar39 (j := (0 : Int32)) hin39 (g := (mkF m 187 #[.val (.int p1), .val (.int p2), .val (.int p3), .val (.int p4), .val (.int p5), .val (.int (3 : Int32)), .val (.int vb), .val (.ref b29), .val (.ref b33), .val (.long (((p2.toInt64) + (p3.toInt64)) + (p4.toInt64))), .second, .val (.ref b37), .unset, .unset] [(.double (4602678819172646912 : UInt64)), (.int (0 : Int32)), (.ref b29)])) rfl rfl (hb hby at_187)
    refine OwnR.of (st39) ?_
    have V39 := Arv.set Ar39 q39 S39 N39q H39 G39 rfl W39 0 rfl (Nat.le_of_ble_eq_true rfl)
    have V39 : Arv Z h39 b29 k29 .double (3 : Int32) [(.double (4602678819172646912 : UInt64)), (.double (FP.l2d (p3.toInt64))), (.double (FP.l2d (p4.toInt64)))] (.double (0 : UInt64)) := V39
    have K39 : Keep h0 h39 [] := Keep.wr K38 W39 (Or.inr sz_b29)
    have N39 := Fr.snoc X39 N38 gn_b29
    show OwnR _ _ _ _ _ _ _ (T39.setTop (mkF m 188 #[.val (.int p1), .val (.int p2), .val (.int p3), .val (.int p4), .val (.int p5), .val (.int (3 : Int32)), .val (.int vb), .val (.ref b29), .val (.ref b33), .val (.long (((p2.toInt64) + (p3.toInt64)) + (p4.toInt64))), .second, .val (.ref b37), .unset, .unset] []))
    refine OwnR.of (fun _ hr => XS.aload X39.here hx rfl (hb hby at_188) rfl rfl hr) ?_
    show OwnR _ _ _ _ _ _ _ (T39.setTop (mkF m 190 #[.val (.int p1), .val (.int p2), .val (.int p3), .val (.int p4), .val (.int p5), .val (.int (3 : Int32)), .val (.int vb), .val (.ref b29), .val (.ref b33), .val (.long (((p2.toInt64) + (p3.toInt64)) + (p4.toInt64))), .second, .val (.ref b37), .unset, .unset] [(.ref b37)]))
    obtain ⟨cq40, kq40, q40a, q40b, q40c⟩ := isOf hZ e39 (Exa.wr W39 P38_1)
    obtain ⟨_, _, ⟨T40, L40, kc40, ns40⟩, -, X40, ⟨Lc40, hQ40, l40, y40, z40⟩, st40⟩ := X39.virtualBack hx (y := (⟨"com/example/ramification/ramification/model/StrahlerOrders", "getTotalLength", "()D"⟩ : MethodName)) (z := (⟨"com/example/ramification/ramification/model/StrahlerOrders", "getTotalLength", "()D"⟩ : MethodName)) hown (mvT hZ (hw _ (List.mem_of_getElem? (i := 33) rfl))) (mvT hZ (hw _ (List.mem_of_getElem? (i := 34) rfl))) (notFace_of_selects (args := #[]) (mvT hZ (hw _ (List.mem_of_getElem? (i := 36) rfl)))) (mvT hZ (hw _ (List.mem_of_getElem? (i := 36) rfl))) (mvT hZ (hw _ (List.mem_of_getElem? (i := 35) rfl))) (by decide) (backOf (W := 0) (rm3_3 l Z a0 hw [] b37 bD_38 k29 (p2.toInt64) (p3.toInt64) (p4.toInt64) h39 n0 (Nat.le_trans Z0 K39.1) (Exa.wr W39 P38_1) (Fld.other W39 P38_2 (Or.inl (Ne.symm (Nat.ne_of_lt (Nat.lt_of_lt_of_le (Exa.wr W36 (Exa.wr W35 (Exa.wr W34 (Exa.ext E33 (Exa.wr W32 (Exa.wr W31 (Exa.wr W30 AE29))))))).lt (Nat.le_of_eq g37.symm)))))) (Arv.other P38_3 W39 (Ne.symm (Nat.ne_of_lt (Nat.lt_of_lt_of_le (Exa.ext E37 (Exa.wr W36 (Exa.wr W35 (Exa.wr W34 (Exa.ext E33 (Exa.wr W32 (Exa.wr W31 (Exa.wr W30 AE29)))))))).lt P38_4)))) (own_s1 p2) (own_s1 p3) (own_s1 p4)) hZ (hw _ (List.mem_of_getElem? (i := 37) rfl)) (hw _ (List.mem_of_getElem? (i := 5) rfl)) (by decide) (by decide)) q40a q40c (g := (mkF m 190 #[.val (.int p1), .val (.int p2), .val (.int p3), .val (.int p4), .val (.int p5), .val (.int (3 : Int32)), .val (.int vb), .val (.ref b29), .val (.ref b33), .val (.long (((p2.toInt64) + (p3.toInt64)) + (p4.toInt64))), .second, .val (.ref b37), .unset, .unset] [(.ref b37)])) rfl (by rw [hml]; rfl) (Steps.refl _) (argsL := []) (rest := []) (lenOf pd___D rfl) rfl (by show 2 * 0 + _ ≤ _; exact Nat.le_of_eq rfl) (hb hby at_190) (fun _ _ => ⟨rfl, e39, (by decide : 5 + 0 ≤ _), (by decide : 15 + 0 ≤ _)⟩)
    dsimp only [Pt.U, Pt.locs, Pt.cells, Pt.slots] at X40 l40 y40 z40 st40 hQ40
    rw [l40, y40, z40] at X40
    obtain ⟨rfl, N40q, e40⟩ := hQ40
    have N40 := Fr.app N39 N40q
    refine OwnR.of (fun _ hr => st40.trans hr) ?_
    show OwnR _ _ _ _ _ _ _ (T40.setTop (mkF m 193 #[.val (.int p1), .val (.int p2), .val (.int p3), .val (.int p4), .val (.int p5), .val (.int (3 : Int32)), .val (.int vb), .val (.ref b29), .val (.ref b33), .val (.long (((p2.toInt64) + (p3.toInt64)) + (p4.toInt64))), .second, .val (.ref b37), .unset, .unset] [(.double (FP.l2d ((((0 : Int64) + (p2.toInt64)) + (p3.toInt64)) + (p4.toInt64))))]))
    refine OwnR.of (fun _ hr => XS.dstore X40.here hx rfl (hb hby at_193) rfl (l' := #[.val (.int p1), .val (.int p2), .val (.int p3), .val (.int p4), .val (.int p5), .val (.int (3 : Int32)), .val (.int vb), .val (.ref b29), .val (.ref b33), .val (.long (((p2.toInt64) + (p3.toInt64)) + (p4.toInt64))), .second, .val (.ref b37), .val (.double (FP.l2d ((((0 : Int64) + (p2.toInt64)) + (p3.toInt64)) + (p4.toInt64)))), .second]) rfl hr) ?_
    show OwnR _ _ _ _ _ _ _ (T40.setTop (mkF m 195 #[.val (.int p1), .val (.int p2), .val (.int p3), .val (.int p4), .val (.int p5), .val (.int (3 : Int32)), .val (.int vb), .val (.ref b29), .val (.ref b33), .val (.long (((p2.toInt64) + (p3.toInt64)) + (p4.toInt64))), .second, .val (.ref b37), .val (.double (FP.l2d ((((0 : Int64) + (p2.toInt64)) + (p3.toInt64)) + (p4.toInt64)))), .second] []))
    refine OwnR.of (fun _ hr => XS.dload X40.here hx rfl (hb hby at_195) rfl hr) ?_
    show OwnR _ _ _ _ _ _ _ (T40.setTop (mkF m 197 #[.val (.int p1), .val (.int p2), .val (.int p3), .val (.int p4), .val (.int p5), .val (.int (3 : Int32)), .val (.int vb), .val (.ref b29), .val (.ref b33), .val (.long (((p2.toInt64) + (p3.toInt64)) + (p4.toInt64))), .second, .val (.ref b37), .val (.double (FP.l2d ((((0 : Int64) + (p2.toInt64)) + (p3.toInt64)) + (p4.toInt64)))), .second] [(.double (FP.l2d ((((0 : Int64) + (p2.toInt64)) + (p3.toInt64)) + (p4.toInt64))))]))
    refine OwnR.of (fun _ hr => XS.lload X40.here hx rfl (hb hby at_197) rfl hr) ?_
    show OwnR _ _ _ _ _ _ _ (T40.setTop (mkF m 199 #[.val (.int p1), .val (.int p2), .val (.int p3), .val (.int p4), .val (.int p5), .val (.int (3 : Int32)), .val (.int vb), .val (.ref b29), .val (.ref b33), .val (.long (((p2.toInt64) + (p3.toInt64)) + (p4.toInt64))), .second, .val (.ref b37), .val (.double (FP.l2d ((((0 : Int64) + (p2.toInt64)) + (p3.toInt64)) + (p4.toInt64)))), .second] [(.long (((p2.toInt64) + (p3.toInt64)) + (p4.toInt64))), (.double (FP.l2d ((((0 : Int64) + (p2.toInt64)) + (p3.toInt64)) + (p4.toInt64))))]))
    refine OwnR.of (fun _ hr => XS.l2dS X40.here hx rfl (hb hby at_199) rfl rfl hr) ?_
    show OwnR _ _ _ _ _ _ _ (T40.setTop (mkF m 200 #[.val (.int p1), .val (.int p2), .val (.int p3), .val (.int p4), .val (.int p5), .val (.int (3 : Int32)), .val (.int vb), .val (.ref b29), .val (.ref b33), .val (.long (((p2.toInt64) + (p3.toInt64)) + (p4.toInt64))), .second, .val (.ref b37), .val (.double (FP.l2d ((((0 : Int64) + (p2.toInt64)) + (p3.toInt64)) + (p4.toInt64)))), .second] [(.double (FP.l2d (((p2.toInt64) + (p3.toInt64)) + (p4.toInt64)))), (.double (FP.l2d ((((0 : Int64) + (p2.toInt64)) + (p3.toInt64)) + (p4.toInt64))))]))
    refine OwnR.of (fun _ hr => XS.dcmpS (v := (0 : Int32)) X40.here hx rfl (hb hby at_200) rfl (dcmpV_eq (congrArg FP.l2d (by simp only [Int64.zero_add])) (nn_w rfl) .l) hr) ?_
    show OwnR _ _ _ _ _ _ _ (T40.setTop (mkF m 201 #[.val (.int p1), .val (.int p2), .val (.int p3), .val (.int p4), .val (.int p5), .val (.int (3 : Int32)), .val (.int vb), .val (.ref b29), .val (.ref b33), .val (.long (((p2.toInt64) + (p3.toInt64)) + (p4.toInt64))), .second, .val (.ref b37), .val (.double (FP.l2d ((((0 : Int64) + (p2.toInt64)) + (p3.toInt64)) + (p4.toInt64)))), .second] [(.int (0 : Int32))]))
    refine OwnR.of (fun _ hr => XS.ifNo X40.here hx rfl (hb hby at_201) rfl ((if0 _ _).trans (teq (by decide : (0 : Int32) = (0 : Int32))).2) hr) ?_
    show OwnR _ _ _ _ _ _ _ (T40.setTop (mkF m 204 #[.val (.int p1), .val (.int p2), .val (.int p3), .val (.int p4), .val (.int p5), .val (.int (3 : Int32)), .val (.int vb), .val (.ref b29), .val (.ref b33), .val (.long (((p2.toInt64) + (p3.toInt64)) + (p4.toInt64))), .second, .val (.ref b37), .val (.double (FP.l2d ((((0 : Int64) + (p2.toInt64)) + (p3.toInt64)) + (p4.toInt64)))), .second] []))
    refine OwnR.of (fun _ hr => XS.iconst X40.here hx rfl (hb hby at_204) hr) ?_
    show OwnR _ _ _ _ _ _ _ (T40.setTop (mkF m 205 #[.val (.int p1), .val (.int p2), .val (.int p3), .val (.int p4), .val (.int p5), .val (.int (3 : Int32)), .val (.int vb), .val (.ref b29), .val (.ref b33), .val (.long (((p2.toInt64) + (p3.toInt64)) + (p4.toInt64))), .second, .val (.ref b37), .val (.double (FP.l2d ((((0 : Int64) + (p2.toInt64)) + (p3.toInt64)) + (p4.toInt64)))), .second] [(.int (1 : Int32))]))
    refine OwnR.of (fun _ hr => XS.goto X40.here hx rfl (pc0 := 205) (pc' := 209) rfl (hb hby at_205) (by decide) (by decide) hr) ?_
    show OwnR _ _ _ _ _ _ _ (T40.setTop (mkF m 209 #[.val (.int p1), .val (.int p2), .val (.int p3), .val (.int p4), .val (.int p5), .val (.int (3 : Int32)), .val (.int vb), .val (.ref b29), .val (.ref b33), .val (.long (((p2.toInt64) + (p3.toInt64)) + (p4.toInt64))), .second, .val (.ref b37), .val (.double (FP.l2d ((((0 : Int64) + (p2.toInt64)) + (p3.toInt64)) + (p4.toInt64)))), .second] [(.int (1 : Int32))]))
    refine own_leafN X40 hx hlk (t := .boolean) Bd.returns (by simp) (hb hby at_209) (z' := (1 : Int32)) rfl (by decide) (by decide) ?_
    show Q0 Z  h0 n0 _ T40.heap _
    rw [show T40.heap = h39 from e40]
    refine ⟨?_, N40⟩
    show (some (.int (1 : Int32)) : Option Value) = some (.int (1 : Int32))
    rfl
set_option maxRecDepth 65536 in
set_option maxHeartbeats 40000000 in
theorem comes_1 {Post : Tables → Env → Array Value → State → Outcome → State → Prop} (hpost : ∀ tb e args s v u, (limb_1_1.after args s (.returned v) u = true ∧ limb_1_2.after args s (.returned v) u = true ∧ True) → FrameEnd s (.returned v) u (Jvm.fieldLocs frame_1_writes args s ++ Jvm.arrayLocs frame_1_arrays args s ++ Jvm.staticLocs frame_1_statics s) 24 128 → Post tb e args s (.returned v) u) :
    ArmFor flags0 classFile x code maxLocals ret World_1 tables_1 room_1 Calls_1 rest_1 Pre_1 Post := by
  intro l hfl _ _ p e ha hc hk s m args below hf hA hF happ hP
  obtain ⟨hcalls, hrest, hpre⟩ := hP
  obtain ⟨-, -, -, hnamed, -, -, -, hat⟩ := (Spec.applies_iff hf).mp happ
  obtain ⟨hg, hn⟩ := and_e (Cond.before_iff.mp (show (Jvm.Cond.and given_1 narrow_1).before args s = true from hpre))
  obtain ⟨ga1, gb1⟩ := and_e hg
  obtain ⟨ga2, gb2⟩ := and_e gb1
  obtain ⟨ga3, gb3⟩ := and_e gb2
  obtain ⟨ga4, gb4⟩ := and_e gb3
  obtain ⟨ga5, gb5⟩ := and_e gb4
  obtain ⟨w0, w1, w2, w3, w4, rfl⟩ : ∃ w0 w1 w2 w3 w4 : Value, args = #[w0, w1, w2, w3, w4] := by
    have hs : args.size = 5 := by simpa [Cond.value, given_1] using ga1
    obtain ⟨L⟩ := args
    match L, hs with
    | [w0, w1, w2, w3, w4], _ => exact ⟨w0, w1, w2, w3, w4, rfl⟩
  have hw := fun d (hd : d ∈ tables_1) => atoms_spec (ws := Jvm.Cond.code x code maxLocals ret :: tables_1) hat d (List.mem_cons_of_mem _ hd)
  have hfit : Fit s := fun {y c} hc i hi => by
    obtain ⟨ha, rfl⟩ := Array.getElem?_eq_some_iff.mp hc
    have q := List.all_eq_true.mp ((Array.all_eq_true_iff_forall_mem.mp hF) _ (Array.getElem_mem ha)) i (List.mem_range.mpr hi)
    simpa [Array.getElem?_eq_getElem hi] using q
  obtain ⟨i0, ei0⟩ := is_v ga2
  obtain rfl : w0 = (.int i0) := Option.some.inj ei0
  obtain ⟨i1, ei1⟩ := is_v ga3
  obtain rfl : w1 = (.int i1) := Option.some.inj ei1
  obtain ⟨i2, ei2⟩ := is_v ga4
  obtain rfl : w2 = (.int i2) := Option.some.inj ei2
  obtain ⟨i3, ei3⟩ := is_v ga5
  obtain rfl : w3 = (.int i3) := Option.some.inj ei3
  obtain ⟨i4, ei4⟩ := is_v gb5
  obtain rfl : w4 = (.int i4) := Option.some.inj ei4
  obtain ⟨n, o, h1, h2, h3, _, L, rfl, ⟨rfl, N⟩, hq⟩ := rm0 l s _ hw tables_1 i0 i1 i2 i3 i4 s.heap s.heap.size (Nat.le_refl _) p e ha hc hk s m _ below hf ((Spec.applies_iff_loose hf).mp happ).1 ⟨rfl, State.Warmed39.refl s, rfl⟩ trivial
  refine ⟨n, _, h1, h2, h3, hpost _ _ _ _ _ _ ⟨Cond.after_iff.mpr rfl, Cond.after_iff.mpr (eq_i res_at (Term.int_eval (1)) rfl), trivial⟩ ⟨hq.1, hq.2.1, (hq.2.2.sift fun y hy => Or.inr (N y hy)).mono (by decide) (by decide)⟩⟩
theorem main_1_1 : Claimed_1_1 := comes_1 fun _ _ _ _ _ _ h hF => ⟨h.1, hF⟩
theorem main_1_2 : Claimed_1_2 := comes_1 fun _ _ _ _ _ _ h hF => ⟨h.2.1, hF⟩
end Jvm.Pilot.@@N@@
namespace Jvm.Pilot.@@N@@
open Jvm Jvm.ClassFile Sem Op Lib Jvm.Free Jvm.Stand Jvm.Pilot.@@N@@.Jvm.D
/-! MADE BY PROGRAM (witnessworld.py) out of the Statement's table words and the real class files: 9 classes; the members and pool entries that the words name. The judged class is class 1, her method 1. -/
namespace start1
open Jvm.ClassFile
def u (s : String) : CpInfo := .utf8 (stringToUtf16 s)
/-- a pool by its gaps: so many unusable entries, then the entry; so many at the end -/
def gap : Nat → List CpInfo → List CpInfo
  | 0, r => r
  | n + 1, r => .unusable :: gap n r
def poolList (es : List (Nat × CpInfo)) (last : Nat) : List CpInfo := es.foldr (fun e r => gap e.1 (e.2 :: r)) (gap last [])
def pool (es : List (Nat × CpInfo)) (last : Nat) : Array CpInfo := ⟨poolList es last⟩
def fileOf (pool : Array CpInfo) (this : Nat) (attrs : Array Attribute := #[]) (ms : Array MethodInfo := #[]) (fl : Nat := 33) (sup : Nat := 0) (ifs : Array Nat := #[]) (fds : Array FieldInfo := #[]) : ClassFile where
  minorVersion := 0
  majorVersion := 65
  constantPool := pool
  accessFlags := fl
  thisClass := this
  superClass := sup
  interfaces := ifs
  fields := fds
  methods := ms
  attributes := attrs
def plain (name : String) (sup : Option ClassId) : Class where
  name := name
  kind := .ordinary
  loader := none
  accessFlags := 33
  super := sup
  interfaces := #[]
  cf := none
  fields := #[]
  methods := #[]
  instanceTypes := #[]
  staticTypes := #[]
  resolved := #[]
  callSites := []
  init := .initialized
  statics := none
  mirror := none

def pool0 : Array CpInfo := pool [(5, u "<init>"), (0, u "()V"), (1, .class_ 10), (1, u "java/lang/Object"), (85, u "clone"), (0, u "()Ljava/lang/Object;")] 26

def k0c0 : Code := { maxStack := 0, maxLocals := 1, code := object_method_1_code, exceptionTable := #[], attributes := #[] }
def k0m0 : Method := { name := "<init>", desc := "()V", sig := { parameters := [], returnType := none }, accessFlags := 1, code := some k0c0 }
def k0m1 : Method := { name := "clone", desc := "()Ljava/lang/Object;", sig := { parameters := [], returnType := some (.object "java/lang/Object") }, accessFlags := 260, code := none }
/-- java/lang/Object -/
def k0 : Class := { plain "java/lang/Object" none with
  accessFlags := 33
  interfaces := #[]
  cf := some (fileOf pool0 8 #[] #[{ accessFlags := 1, nameIndex := 5, descriptorIndex := 6, attributes := #[] }, { accessFlags := 260, nameIndex := 96, descriptorIndex := 97, attributes := #[] }] 33 0 #[] #[])
  fields := #[]
  methods := #[k0m0, k0m1]
  instanceTypes := #[]
  staticTypes := #[]
  resolved := Array.replicate 124 none
  statics := none }

def pool1 : Array CpInfo := pool [(2, .class_ 4), (1, u "java/lang/Object"), (0, u "<init>"), (0, u "()V"), (0, .integer 1073741823), (0, .class_ 9), (0, u "com/example/ramification/ramification/model/StrahlerOrders"), (0, .methodref 8 11), (0, .nameAndType 5 12), (0, u "([I[DLjava/util/Optional;)V"), (0, .double 4602678819172646912), (1, .methodref 8 16), (0, .nameAndType 17 18), (0, u "getTotalLength"), (0, u "()D"), (0, .class_ 20), (0, u "com/example/ramification/ramification/model/StrahlerOrdersGetTotalLengthPinLaw"), (2, u "law"), (0, u "(IIIII)Z")] 7

def k1m0 : Method := { name := "<init>", desc := "()V", sig := { parameters := [], returnType := none }, accessFlags := 1, code := none }
def k1c1 : Code := { maxStack := 5, maxLocals := 14, code := code, exceptionTable := #[], attributes := #[] }
def k1m1 : Method := { name := "law", desc := "(IIIII)Z", sig := { parameters := [.int, .int, .int, .int, .int], returnType := some .boolean }, accessFlags := 9, code := some k1c1 }
/-- com/example/ramification/ramification/model/StrahlerOrdersGetTotalLengthPinLaw -/
def k1 : Class := { plain "com/example/ramification/ramification/model/StrahlerOrdersGetTotalLengthPinLaw" (some 0) with
  accessFlags := 49
  interfaces := #[]
  cf := some (fileOf pool1 19 #[] #[{ accessFlags := 1, nameIndex := 5, descriptorIndex := 6, attributes := #[] }, { accessFlags := 9, nameIndex := 23, descriptorIndex := 24, attributes := #[] }] 49 2 #[] #[])
  fields := #[]
  methods := #[k1m0, k1m1]
  instanceTypes := #[]
  staticTypes := #[]
  resolved := Array.replicate 32 none
  statics := none }

def pool2 : Array CpInfo := pool [(1, .methodref 2 3), (0, .class_ 4), (0, .nameAndType 5 6), (0, u "java/lang/Object"), (0, u "<init>"), (0, u "()V"), (10, .methodref 18 19), (0, .class_ 20), (0, .nameAndType 21 22), (0, u "[I"), (0, u "clone"), (0, u "()Ljava/lang/Object;"), (0, .fieldref 24 25), (0, .class_ 26), (0, .nameAndType 27 20), (0, u "com/example/ramification/ramification/model/StrahlerOrders"), (0, u "branches"), (0, .methodref 29 19), (0, .class_ 30), (0, u "[D"), (0, .fieldref 24 32), (0, .nameAndType 33 30), (0, u "lengths"), (0, .fieldref 24 35), (0, .nameAndType 36 37), (0, u "unit"), (0, u "Ljava/util/Optional;"), (10, u "([I[DLjava/util/Optional;)V"), (16, u "getTotalLength"), (0, u "()D")] 20

def k2c0 : Code := { maxStack := 5, maxLocals := 5, code := prog_88_method_1_code, exceptionTable := #[], attributes := #[] }
def k2m0 : Method := { name := "<init>", desc := "([I[DLjava/util/Optional;)V", sig := { parameters := [(.array .int), (.array .double), (.object "java/util/Optional")], returnType := none }, accessFlags := 1, code := some k2c0 }
def k2c1 : Code := { maxStack := 4, maxLocals := 8, code := prog_88_method_8_code, exceptionTable := #[], attributes := #[] }
def k2m1 : Method := { name := "getTotalLength", desc := "()D", sig := { parameters := [], returnType := some .double }, accessFlags := 1, code := some k2c1 }
/-- com/example/ramification/ramification/model/StrahlerOrders -/
def k2 : Class := { plain "com/example/ramification/ramification/model/StrahlerOrders" (some 0) with
  accessFlags := 33
  interfaces := #[]
  cf := some (fileOf pool2 24 #[] #[{ accessFlags := 1, nameIndex := 5, descriptorIndex := 48, attributes := #[] }, { accessFlags := 1, nameIndex := 65, descriptorIndex := 66, attributes := #[] }] 33 2 #[] #[{ accessFlags := 18, nameIndex := 27, descriptorIndex := 20, attributes := #[] }, { accessFlags := 18, nameIndex := 33, descriptorIndex := 30, attributes := #[] }, { accessFlags := 18, nameIndex := 36, descriptorIndex := 37, attributes := #[] }])
  fields := #[{ name := "branches", type := (.array .int), accessFlags := 18, slot := 0, constantValue := 0 }, { name := "lengths", type := (.array .double), accessFlags := 18, slot := 1, constantValue := 0 }, { name := "unit", type := (.object "java/util/Optional"), accessFlags := 18, slot := 2, constantValue := 0 }]
  methods := #[k2m0, k2m1]
  instanceTypes := #[(.array .int), (.array .double), (.object "java/util/Optional")]
  staticTypes := #[]
  resolved := Array.replicate 87 none
  statics := none }

def pool3 : Array CpInfo := pool [(1, .class_ 2), (0, u "java/lang/Cloneable"), (0, .class_ 4), (0, u "java/lang/Object")] 2

/-- java/lang/Cloneable -/
def k3 : Class := { plain "java/lang/Cloneable" (some 0) with
  accessFlags := 1537
  interfaces := #[]
  cf := some (fileOf pool3 1 #[] #[] 1537 3 #[] #[])
  fields := #[]
  methods := #[]
  instanceTypes := #[]
  staticTypes := #[]
  resolved := Array.replicate 7 none
  statics := none }

def pool4 : Array CpInfo := pool [(1, u "java/io/Serializable"), (0, .class_ 1), (0, u "java/lang/Object"), (0, .class_ 3)] 3

/-- java/io/Serializable -/
def k4 : Class := { plain "java/io/Serializable" (some 0) with
  accessFlags := 1537
  interfaces := #[]
  cf := some (fileOf pool4 2 #[] #[] 1537 4 #[] #[])
  fields := #[]
  methods := #[]
  instanceTypes := #[]
  staticTypes := #[]
  resolved := Array.replicate 8 none
  statics := none }

/-- the primitive byte -/
def k5 : Class := { plain "byte" none with kind := .primitive 'B', accessFlags := 0x411 }
/-- [B -/
def k6 : Class := { plain "[B" (some 0) with kind := .array 5 .byte, interfaces := #[3, 4], accessFlags := 1041 }

/-- the primitive int -/
def k7 : Class := { plain "int" none with kind := .primitive 'I', accessFlags := 0x411 }
/-- [I -/
def k8 : Class := { plain "[I" (some 0) with kind := .array 7 .int, interfaces := #[3, 4], accessFlags := 1041 }

/-- the primitive double -/
def k9 : Class := { plain "double" none with kind := .primitive 'D', accessFlags := 0x411 }
/-- [D -/
def k10 : Class := { plain "[D" (some 0) with kind := .array 9 .double, interfaces := #[3, 4], accessFlags := 1041 }

def heap : Heap := #[]
def classes : Array Class := #[k0, k1, k2, k3, k4, k5, k6, k7, k8, k9, k10]
def interned : List (Array UInt16 × Addr) := []
def slotsUsed : Nat := 0
def theMethod : MethodId := ⟨1, 1⟩
def args0 : Array Value := #[.int 5, .int 7, .int 9, .int 3, .int 2]
def aboutOver (below : List Frame) : State where
  vm := { classes := classes, interned := interned.toArray }
  heap := heap
  slotsUsed := slotsUsed
  threads := #[{ frames := .invoking theMethod args0 :: below }]
def below0 : List Frame := [.native { method := ⟨0, 0⟩, args := #[] }]
def about1 : State := aboutOver below0
def p0 : Program := .bare "" "" ""
def e0 : Env := launch0.env 0 0 0
theorem w_frames : about1.frames = Frame.invoking theMethod args0 :: below0 := rfl
set_option maxRecDepth 65536 in
theorem w_args : argsFit about1.vm theMethod args0 = true := by decide +kernel
set_option maxRecDepth 65536 in
theorem w_heap : heapFits about1 = true := by decide +kernel
set_option maxRecDepth 65536 in
theorem w_runnable : about1.curStatus? = some .runnable := by decide +kernel
set_option maxRecDepth 65536 in
theorem w_alone : about1.alone = true := by decide +kernel
set_option maxRecDepth 65536 in
theorem w_named : about1.methodNamed? x = some theMethod := by decide +kernel
set_option maxRecDepth 65536 in
theorem w_hears : about1.hears theMethod below0 = true := by decide +kernel
set_option maxRecDepth 65536 in
theorem w_ripe : about1.ripe theMethod args0 below0 = true := by decide +kernel
theorem w_running : about1.status = .running := rfl
set_option maxRecDepth 65536 in
theorem w_room : about1.hasRoom e0.platform room_1 = true :=
  launch0.hasRoom_least _ room_1 (by decide +kernel) (by decide +kernel) (by decide +kernel) (by decide +kernel) (by decide +kernel) (by decide +kernel)
theorem allAtoms_all (ts : List Jvm.Cond) (a : Array Jvm.Value) (st : Jvm.State) : (allAtoms ts).before a st = ts.all (fun c => c.before a st) := by
  induction ts with
  | nil => rfl
  | cons c t ih =>
    show (Jvm.Cond.and c (allAtoms t)).before a st = _
    rw [Jvm.Cond.before_and, ih, List.all_cons]
def words1 : List Jvm.Cond := Jvm.Cond.code x code maxLocals ret :: tables_1
/-- a 'code' word, met by the world's own term for the bytes: nothing is compared byte by byte -/
theorem code_word {y : MethodName} {bytes : ByteArray} {mx : Nat} {rt : Option FieldType} {a : Array Value} {s : State} {m : MethodId} {meth : Method} {c : Code} (h1 : s.methodNamed? y = some m) (h2 : s.vm.method? m = some meth) (h3 : meth.code = some c) (h4 : c.code = bytes)
    (h5 : (c.maxLocals == mx && c.exceptionTable.isEmpty && decide (c.maxStack ≤ mostOperands) && decide (meth.sig.returnType = rt) && !meth.locks && decide (parseMethodDescriptor y.desc = some meth.sig)) = true) : (Jvm.Cond.code y bytes mx rt).before a s = true := by
  simp only [Bool.and_eq_true, beq_iff_eq, Bool.not_eq_true', decide_eq_true_eq] at h5
  obtain ⟨⟨⟨⟨⟨g1, g2⟩, g3⟩, g4⟩, g5⟩, g6⟩ := h5
  simp [Cond.before, Cond.holds, Cond.value, h1, h2, h3, h4, g1, g2, g3, g4, g5, g6]
def isCode : Jvm.Cond → Bool
  | .code _ _ _ _ => true
  | _ => false
theorem all_split {L : List Jvm.Cond} {P : Jvm.Cond → Bool} (h1 : L.all (fun c => isCode c || P c) = true) (h2 : ∀ c ∈ L.filter isCode, P c = true) : L.all P = true := by
  refine List.all_eq_true.mpr fun c hc => ?_
  have h := List.all_eq_true.mp h1 c hc
  rcases Bool.eq_false_or_eq_true (isCode c) with hi | hi
  · exact h2 c (List.mem_filter.mpr ⟨hc, hi⟩)
  · simpa [hi] using h
set_option maxRecDepth 65536 in
theorem w_c0 : (Jvm.Cond.code x code maxLocals ret).before args0 about1 = true := code_word (m := ⟨1, 1⟩) (meth := k1m1) (c := k1c1) (by decide +kernel) rfl rfl rfl (by decide +kernel)
set_option maxRecDepth 65536 in
theorem w_c1 : (Jvm.Cond.code ({ cls := "com/example/ramification/ramification/model/StrahlerOrders", name := "<init>", desc := "([I[DLjava/util/Optional;)V" } : Jvm.MethodName) prog_88_method_1_code (5 : Nat) (Option.none : Option Jvm.ClassFile.FieldType)).before args0 about1 = true := code_word (m := ⟨2, 0⟩) (meth := k2m0) (c := k2c0) (by decide +kernel) rfl rfl rfl (by decide +kernel)
set_option maxRecDepth 65536 in
theorem w_c2 : (Jvm.Cond.code ({ cls := "java/lang/Object", name := "<init>", desc := "()V" } : Jvm.MethodName) object_method_1_code (1 : Nat) (Option.none : Option Jvm.ClassFile.FieldType)).before args0 about1 = true := code_word (m := ⟨0, 0⟩) (meth := k0m0) (c := k0c0) (by decide +kernel) rfl rfl rfl (by decide +kernel)
set_option maxRecDepth 65536 in
theorem w_c3 : (Jvm.Cond.code ({ cls := "com/example/ramification/ramification/model/StrahlerOrders", name := "getTotalLength", desc := "()D" } : Jvm.MethodName) prog_88_method_8_code (8 : Nat) (Option.some Jvm.ClassFile.FieldType.double)).before args0 about1 = true := code_word (m := ⟨2, 1⟩) (meth := k2m1) (c := k2c1) (by decide +kernel) rfl rfl rfl (by decide +kernel)
def codes1 : List Jvm.Cond := [Jvm.Cond.code x code maxLocals ret, Jvm.Cond.code ({ cls := "com/example/ramification/ramification/model/StrahlerOrders", name := "<init>", desc := "([I[DLjava/util/Optional;)V" } : Jvm.MethodName) prog_88_method_1_code (5 : Nat) (Option.none : Option Jvm.ClassFile.FieldType), Jvm.Cond.code ({ cls := "java/lang/Object", name := "<init>", desc := "()V" } : Jvm.MethodName) object_method_1_code (1 : Nat) (Option.none : Option Jvm.ClassFile.FieldType), Jvm.Cond.code ({ cls := "com/example/ramification/ramification/model/StrahlerOrders", name := "getTotalLength", desc := "()D" } : Jvm.MethodName) prog_88_method_8_code (8 : Nat) (Option.some Jvm.ClassFile.FieldType.double)]
set_option maxRecDepth 65536 in
theorem codes_eq : words1.filter isCode = codes1 := rfl
theorem w_codes : ∀ c ∈ words1.filter isCode, c.before args0 about1 = true := by
  rw [codes_eq]
  intro c hc
  simp only [codes1, List.mem_cons, List.not_mem_nil, or_false] at hc
  rcases hc with rfl | rfl | rfl | rfl
  · exact w_c0
  · exact w_c1
  · exact w_c2
  · exact w_c3
set_option maxRecDepth 65536 in
theorem w_t1 : (words1.take 24).all (fun c => isCode c || c.before args0 about1) = true := by decide +kernel
set_option maxRecDepth 65536 in
theorem w_t2 : (words1.drop 24).all (fun c => isCode c || c.before args0 about1) = true := by decide +kernel
theorem w_tables : (allAtoms (Jvm.Cond.code x code maxLocals ret :: tables_1)).before args0 about1 = true := by
  rw [allAtoms_all]
  show words1.all (fun c => c.before args0 about1) = true
  refine all_split ?_ w_codes
  rw [← List.take_append_drop 24 words1, List.all_append, w_t1, w_t2]
  rfl
set_option maxRecDepth 65536 in
theorem w_case : (Jvm.Cond.and given_1 narrow_1).before args0 about1 = true := by decide +kernel
theorem w_applies : (headSpec (Jvm.Cond.code x code maxLocals ret :: tables_1) room_1).applies x e0.platform about1 = true :=
  (Spec.applies_iff w_frames).mpr ⟨w_running, w_runnable, w_alone, w_named, w_hears, w_ripe, w_room, w_tables⟩
set_option maxRecDepth 65536 in
theorem atStart : AtStart classFile x code maxLocals ret World_1 tables_1 room_1 Calls_1 rest_1 Pre_1 launch0 p0 e0 about1 theMethod args0 below0 :=
  ⟨lists_1, trivial, launch0.admits_env _ _ _, launch0.least_env, fairChoices_fair.cas, fairChoices_fair.clock, w_frames, w_args, w_heap, w_applies, trivial, trivial, w_case⟩
end start1
theorem witness_1 : WitnessClaimed_1 := ⟨start1.p0, start1.e0, start1.about1, start1.theMethod, start1.args0, start1.below0, start1.atStart⟩
end Jvm.Pilot.@@N@@
