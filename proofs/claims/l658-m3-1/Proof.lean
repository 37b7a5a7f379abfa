import JvmDerived
import JvmDerived.Pilot.@@N@@Statement
import JvmDerived.Pilot.@@N@@Code
set_option linter.unusedVariables false
set_option linter.unusedSimpArgs false
namespace Jvm.Pilot.@@N@@
open Jvm Jvm.ClassFile Sem Op Lib Jvm.Free Jvm.Stand Jvm.LawKit Jvm.RoadKit Bundle Jvm.Pilot.@@N@@.Jvm.D
section OwnKit
variable {p : Program} {l : Launch} {e : Env} {R : Room} {s : State} {m : MethodId} {args : Array Value} {below : List Frame} {meth : Method} {c : Code} {T : State} {locs : List Loc} {cells slots : Nat}
theorem own_retI (X : Stand p l e R s m args below meth c T locs cells slots) (hx : p.tables.exec = Jvm.exec) {pc : Nat} {Ls : Array Slot} {z : Int32} {rest : List Value} (hret : meth.sig.returnType = some .int) (hd : decode c.code pc = .ok (.ireturn, 1)) {fs : List Frame}
    (hl : ∀ (f : JFrame) (acts : List Action), f.method = m → f.locked = none → f.entered = [] → (doReturn e (T.setTop f) acts (some (.int z))).1 = T.setFrames fs) : Steps p.tables e below (T.setTop (mkF m pc Ls (.int z :: rest))) (T.setFrames fs) := by
  have hm' : T.vm.method? m = some meth := X.method'
  have hn : narrow .int (.int z) = .int z := rfl
  show Steps p.tables e below (T.setTop { method := m, pc := pc, locals := Ls, stack := _ :: rest, locked := none }) _
  jvm_step X.here [X.here.top, hx, hd, hm', hret, hn]
  first | (intro acts; rw [hl _ acts rfl rfl rfl]) | rw [hl _ _ rfl rfl rfl]
  exact Steps.refl _
theorem own_retJ (X : Stand p l e R s m args below meth c T locs cells slots) (hx : p.tables.exec = Jvm.exec) {pc : Nat} {Ls : Array Slot} {z : Int64} {rest : List Value} (hret : meth.sig.returnType = some .long) (hd : decode c.code pc = .ok (.lreturn, 1)) {fs : List Frame}
    (hl : ∀ (f : JFrame) (acts : List Action), f.method = m → f.locked = none → f.entered = [] → (doReturn e (T.setTop f) acts (some (.long z))).1 = T.setFrames fs) : Steps p.tables e below (T.setTop (mkF m pc Ls (.long z :: rest))) (T.setFrames fs) := by
  have hm' : T.vm.method? m = some meth := X.method'
  have hn : narrow .long (.long z) = .long z := rfl
  show Steps p.tables e below (T.setTop { method := m, pc := pc, locals := Ls, stack := _ :: rest, locked := none }) _
  jvm_step X.here [X.here.top, hx, hd, hm', hret, hn]
  first | (intro acts; rw [hl _ acts rfl rfl rfl]) | rw [hl _ _ rfl rfl rfl]
  exact Steps.refl _
theorem own_retA (X : Stand p l e R s m args below meth c T locs cells slots) (hx : p.tables.exec = Jvm.exec) {pc : Nat} {Ls : Array Slot} {w : Value} {t : FieldType} {rest : List Value} (hret : meth.sig.returnType = some t) (ht : t.isReference = true) (hw : w.isRef = true) (hd : decode c.code pc = .ok (.areturn, 1)) {fs : List Frame}
    (hl : ∀ (f : JFrame) (acts : List Action), f.method = m → f.locked = none → f.entered = [] → (doReturn e (T.setTop f) acts (some w)).1 = T.setFrames fs) : Steps p.tables e below (T.setTop (mkF m pc Ls (w :: rest))) (T.setFrames fs) :=
  retOut X hx hret (by cases t <;> first | (cases ht; done) | (cases w <;> first | rfl | (cases hw; done))) (Or.inr (Or.inr (Or.inr (Or.inr ⟨rfl, ht, hw⟩)))) hd hl
/-- the run from S ends, returned, as Q says -/
def OwnR (p : Program) (e : Env) (below : List Frame) (s : State) (Q : Option Value → Heap → List Loc → Prop) (kc ks : Nat) (S : State) : Prop :=
  ∃ s₂ o, Steps p.tables e below S s₂ ∧ s₂.status = .running ∧ Ended s₂ below o ∧ ∃ v L, o = .returned v ∧ Q v s₂.heap L ∧ FrameEnd s o s₂ L kc ks
theorem OwnR.of {Q : Option Value → Heap → List Loc → Prop} {kc ks : Nat} {S S' : State} (k : ∀ t, Steps p.tables e below S' t → Steps p.tables e below S t) (h : OwnR p e below s Q kc ks S') : OwnR p e below s Q kc ks S := by
  obtain ⟨a, o, h1, h2⟩ := h
  exact ⟨a, o, k a h1, h2⟩
theorem own_leafI (X : Stand p l e R s m args below meth c T locs cells slots) (hx : p.tables.exec = Jvm.exec) (hlk : meth.locks = false) (hret : meth.sig.returnType = some .int) {Q : Option Value → Heap → List Loc → Prop} {kc ks pc : Nat} {Ls : Array Slot} {z : Int32} {rest : List Value} (hd : decode c.code pc = .ok (.ireturn, 1)) (hk : cells ≤ kc) (hs : slots ≤ ks) (hQ : Q (some (.int z)) T.heap locs) :
    OwnR p e below s Q kc ks (T.setTop (mkF m pc Ls (.int z :: rest))) := by
  obtain ⟨fs, hr, hrun, hended, hW, hsame⟩ := X.leave (v := some (.int z)) (fun h => by rw [hret] at h; cases h) hlk
  exact ⟨_, _, own_retI X hx hret hd hr, hrun, hended, _, _, rfl, hQ, ⟨_, rfl⟩, hW, hsame.mono hk hs⟩
theorem own_leafN (X : Stand p l e R s m args below meth c T locs cells slots) (hx : p.tables.exec = Jvm.exec) (hlk : meth.locks = false) {t : FieldType} (hret : meth.sig.returnType = some t) (ht : t = .boolean ∨ t = .byte ∨ t = .char ∨ t = .short) {Q : Option Value → Heap → List Loc → Prop} {kc ks pc : Nat} {Ls : Array Slot} {z z' : Int32} {rest : List Value} (hd : decode c.code pc = .ok (.ireturn, 1)) (hz : nar t z = z') (hk : cells ≤ kc) (hs : slots ≤ ks) (hQ : Q (some (.int z')) T.heap locs) :
    OwnR p e below s Q kc ks (T.setTop (mkF m pc Ls (.int z :: rest))) := by
  subst hz
  obtain ⟨fs, hr, hrun, hended, hW, hsame⟩ := X.leave (v := some (.int (nar t z))) (fun h => by rw [hret] at h; cases h) hlk
  exact ⟨_, _, retN X hx hret ht hd hr, hrun, hended, _, _, rfl, hQ, ⟨_, rfl⟩, hW, hsame.mono hk hs⟩
theorem own_leafJ (X : Stand p l e R s m args below meth c T locs cells slots) (hx : p.tables.exec = Jvm.exec) (hlk : meth.locks = false) (hret : meth.sig.returnType = some .long) {Q : Option Value → Heap → List Loc → Prop} {kc ks pc : Nat} {Ls : Array Slot} {z : Int64} {rest : List Value} (hd : decode c.code pc = .ok (.lreturn, 1)) (hk : cells ≤ kc) (hs : slots ≤ ks) (hQ : Q (some (.long z)) T.heap locs) :
    OwnR p e below s Q kc ks (T.setTop (mkF m pc Ls (.long z :: rest))) := by
  obtain ⟨fs, hr, hrun, hended, hW, hsame⟩ := X.leave (v := some (.long z)) (fun h => by rw [hret] at h; cases h) hlk
  exact ⟨_, _, own_retJ X hx hret hd hr, hrun, hended, _, _, rfl, hQ, ⟨_, rfl⟩, hW, hsame.mono hk hs⟩
theorem own_leafA (X : Stand p l e R s m args below meth c T locs cells slots) (hx : p.tables.exec = Jvm.exec) (hlk : meth.locks = false) {t : FieldType} (hret : meth.sig.returnType = some t) (ht : t.isReference = true) {Q : Option Value → Heap → List Loc → Prop} {kc ks pc : Nat} {Ls : Array Slot} {w : Value} (hw : w.isRef = true) {rest : List Value} (hd : decode c.code pc = .ok (.areturn, 1)) (hk : cells ≤ kc) (hs : slots ≤ ks) (hQ : Q (some w) T.heap locs) :
    OwnR p e below s Q kc ks (T.setTop (mkF m pc Ls (w :: rest))) := by
  obtain ⟨fs, hr, hrun, hended, hW, hsame⟩ := X.leave (v := some w) (fun h => by rw [hret] at h; cases h) hlk
  exact ⟨_, _, own_retA X hx hret ht hw hd hr, hrun, hended, _, _, rfl, hQ, ⟨_, rfl⟩, hW, hsame.mono hk hs⟩
theorem own_leafD (X : Stand p l e R s m args below meth c T locs cells slots) (hx : p.tables.exec = Jvm.exec) (hlk : meth.locks = false) (hret : meth.sig.returnType = some .double) {Q : Option Value → Heap → List Loc → Prop} {kc ks pc : Nat} {Ls : Array Slot} {z : UInt64} {rest : List Value} (hd : decode c.code pc = .ok (.dreturn, 1)) (hk : cells ≤ kc) (hs : slots ≤ ks) (hQ : Q (some (.double z)) T.heap locs) :
    OwnR p e below s Q kc ks (T.setTop (mkF m pc Ls (.double z :: rest))) := by
  obtain ⟨fs, hr, hrun, hended, hW, hsame⟩ := X.leave (v := some (.double z)) (fun h => by rw [hret] at h; cases h) hlk
  exact ⟨_, _, retOut X hx hret rfl (Or.inr (Or.inr (Or.inl ⟨rfl, rfl, z, rfl⟩))) hd hr, hrun, hended, _, _, rfl, hQ, ⟨_, rfl⟩, hW, hsame.mono hk hs⟩
theorem own_leafV (X : Stand p l e R s m args below meth c T locs cells slots) (hx : p.tables.exec = Jvm.exec) (hlk : meth.locks = false) (hret : meth.sig.returnType = none) {Q : Option Value → Heap → List Loc → Prop} {kc ks pc : Nat} {Ls : Array Slot} (hd : decode c.code pc = .ok (.return_, 1)) (hk : cells ≤ kc) (hs : slots ≤ ks) (hQ : Q none T.heap locs) :
    OwnR p e below s Q kc ks (T.setTop (mkF m pc Ls [])) := by
  obtain ⟨fs, hr, hrun, hended, hW, hsame⟩ := X.leave (v := none) (fun _ => rfl) hlk
  exact ⟨_, _, X.returnOut hx hret hd hr, hrun, hended, _, _, rfl, hQ, ⟨_, rfl⟩, hW, hsame.mono hk hs⟩
theorem own_sta {Z : State} {h h' : Heap} {C n d : String} {v : Value} (F : Sta Z h C n d v) (K : Keep h h' []) : Sta Z h' C n d v := by
  obtain ⟨cf, i, k, f, st, cell, h1, h2, h3, h4, h5, r⟩ := F
  exact ⟨cf, i, k, f, st, cell, h1, h2, h3, h4, K.2.1 _ _ h5 nin0, r⟩
theorem own_arr {Z : State} {h h' : Heap} {a : Addr} {c : Cell} {ty : FieldType} {ws : List Addr} (A : Arr Z h a c ty) (K : Keep h h' ws) (q : a ∉ ws) : Arr Z h' a c ty := ⟨K.2.1 _ _ A.1 q, A.2⟩
theorem own_lclt (a b : Int64) : lcmpW a b < 0 ↔ a < b := by
  obtain ⟨h1, h2, h3⟩ := c_lcmp a b
  have e1 := @Int64.lt_iff_toInt_lt a b
  have e2 := @Int32.lt_iff_toInt_lt (lcmpW a b) 0
  have e0 : (0 : Int32).toInt = 0 := by decide
  rw [e1, e2, e0]; omega
theorem own_lcgt (a b : Int64) : 0 < lcmpW a b ↔ b < a := by
  obtain ⟨h1, h2, h3⟩ := c_lcmp a b
  have e1 := @Int64.lt_iff_toInt_lt b a
  have e2 := @Int32.lt_iff_toInt_lt 0 (lcmpW a b)
  have e0 : (0 : Int32).toInt = 0 := by decide
  rw [e1, e2, e0]; omega
theorem own_lceq (a b : Int64) : lcmpW a b = 0 ↔ a = b := by
  obtain ⟨h1, h2, h3⟩ := c_lcmp a b
  have e0 : (0 : Int32).toInt = 0 := by decide
  rw [← Int64.toInt_inj, ← Int32.toInt_inj, e0]; omega
end OwnKit
theorem own_mod (x y : Int32) (hy : 0 < y.toInt) : 0 ≤ ((x &&& 2147483647) % y).toInt ∧ ((x &&& 2147483647) % y).toInt < y.toInt := by
  have h := (c_and x 2147483647 (by decide)).1
  have q := (c_iremV (x &&& 2147483647) y).1 h hy
  exact ⟨q.1, q.2.1⟩
def own_imax (x y : Int32) : Int32 := if x < y then y else x
theorem own_max1 (x : Int32) : ¬ own_imax 1 x < 1 := by
  unfold own_imax
  split
  · rename_i h; rw [Int32.lt_iff_toInt_lt] at *; omega
  · decide
theorem own_ne0 {x : Int32} (h : ¬ x < 1) : x ≠ 0 := fun e => h (by rw [e]; decide)
theorem own_nn (a : Int32) {b : Int32} (h : ¬ b < 1) : Jvm.Free.Fl.NoNaN64 (FP.ddiv (FP.i2d a) (FP.i2d b)) := Jvm.Free.Fl.ddiv_out (Jvm.Free.Fl.i2d_fin a).noNaN (Jvm.Free.Fl.i2d_fin b) (Jvm.Free.Fl.i2d_nz (own_ne0 h))
theorem own_r1 (x : Int32) : ((x &&& 2147483647) % 1) + 1 = (1 : Int32) := by
  obtain ⟨h1, h2⟩ := own_mod x 1 (by decide)
  have e : (1 : Int32).toInt = 1 := by decide
  have q : (x &&& 2147483647) % 1 = (0 : Int32) := by
    have e0 : (0 : Int32).toInt = 0 := by decide
    rw [← Int32.toInt_inj, e0]; omega
  rw [q]; decide
theorem own_r2 (x : Int32) : ((x &&& 2147483647) % 2) + 1 = (1 : Int32) ∨ ((x &&& 2147483647) % 2) + 1 = (2 : Int32) := by
  obtain ⟨h1, h2⟩ := own_mod x 2 (by decide)
  have e : (2 : Int32).toInt = 2 := by decide
  have q : (x &&& 2147483647) % 2 = (0 : Int32) ∨ (x &&& 2147483647) % 2 = (1 : Int32) := by
    have e0 : (0 : Int32).toInt = 0 := by decide
    have e1 : (1 : Int32).toInt = 1 := by decide
    simp only [← Int32.toInt_inj, e0, e1]; omega
  rcases q with q | q <;> rw [q] <;> decide
theorem own_r3 (x : Int32) : ((x &&& 2147483647) % 3) + 1 = (1 : Int32) ∨ ((x &&& 2147483647) % 3) + 1 = (2 : Int32) ∨ ((x &&& 2147483647) % 3) + 1 = (3 : Int32) := by
  obtain ⟨h1, h2⟩ := own_mod x 3 (by decide)
  have e : (3 : Int32).toInt = 3 := by decide
  have q : (x &&& 2147483647) % 3 = (0 : Int32) ∨ (x &&& 2147483647) % 3 = (1 : Int32) ∨ (x &&& 2147483647) % 3 = (2 : Int32) := by
    have e0 : (0 : Int32).toInt = 0 := by decide
    have e1 : (1 : Int32).toInt = 1 := by decide
    have e2 : (2 : Int32).toInt = 2 := by decide
    simp only [← Int32.toInt_inj, e0, e1, e2]; omega
  rcases q with q | q | q <;> rw [q] <;> decide
theorem ef_rm1 (m : MethodId) (x0 : Int32) (x1 : Int32) : entryFrame m #[(.int x0), (.int x1)] 2 = mkF m 0 #[.val (.int x0), .val (.int x1)] [] := by first | (simp [entryFrame, mkF, argsToLocals, Value.category]; done) | rfl
theorem d1_0 : decode jdk_29_method_65_code 0 = .ok (.iload_n 0, 1) := by decide +kernel
theorem d1_1 : decode jdk_29_method_65_code 1 = .ok (.iload_n 1, 1) := by decide +kernel
theorem d1_2 : decode jdk_29_method_65_code 2 = .ok (.if_icmp .lt 7, 3) := by decide +kernel
theorem d1_9 : decode jdk_29_method_65_code 9 = .ok (.iload_n 1, 1) := by decide +kernel
theorem d1_10 : decode jdk_29_method_65_code 10 = .ok (.ireturn, 1) := by decide +kernel
theorem d1_5 : decode jdk_29_method_65_code 5 = .ok (.iload_n 0, 1) := by decide +kernel
theorem d1_6 : decode jdk_29_method_65_code 6 = .ok (.goto 4, 3) := by decide +kernel
def Q1 (Z : State) (p1 : Int32) (p2 : Int32) (h0 : Heap) (n0 : Nat) (v : Option Value) (h : Heap) (L : List Loc) : Prop := v = some (.int (own_imax p1 p2)) ∧ Fr n0 L ∧ h = h0
set_option maxRecDepth 65536 in
set_option maxHeartbeats 40000000 in
theorem rm1 (l : Launch) (Z : State) (a0 : Array Value) (hw : ∀ d ∈ tables_1, d.before a0 Z = true) (ws : List Jvm.Cond) (p1 : Int32) (p2 : Int32) (h0 : Heap) (n0 : Nat) (Z0 : n0 ≤ h0.size) :
    MetFree l (⟨"java/lang/Math", "max", "(II)I"⟩ : MethodName) (head1 (Jvm.Cond.code (⟨"java/lang/Math", "max", "(II)I"⟩ : MethodName) jdk_29_method_65_code 2 (some .int) :: ws) ({ frames := 0, cells := 0, slots := 0, locals := 0 } : Room)) (fun a U => a = #[(.int p1), (.int p2)] ∧ Z.Warmed39 U.vm ∧ U.heap = h0) (fun _ _ _ _ _ => True) (fun _ U o U' => ∃ v L, o = .returned v ∧ Q1 Z p1 p2 h0 n0 v U'.heap L ∧ FrameEnd U o U' L ({ frames := 0, cells := 0, slots := 0, locals := 0 } : Room).cells ({ frames := 0, cells := 0, slots := 0, locals := 0 } : Room).slots) := by
  refine MetFree.of_bodySF (Jvm.Free.JP.mathPlain rfl (by decide +kernel)) hisR ?_
  intro p e s m args below meth c s₁ Bd hml0 hP hK
  obtain ⟨rfl, hZ, hh⟩ := hP
  have hx := Bd.exec
  have hby := Bd.bytes
  have hlk := BodyLoose.notSynchronized Bd
  have hml : c.maxLocals = 2 := hml0
  have hown : s.vm.findClass "java/lang/Math" = some m.cls := findClass_of_methodNamed Bd.named
  have hnm := (name_of_methodNamed Bd.named Bd.method).1
  have X0 : Stand p l e ({ frames := 0, cells := 0, slots := 0, locals := 0 } : Room) s m #[(.int p1), (.int p2)] below meth c s₁ [] 0 0 := Stand.of_body Bd
  have e0 : s₁.heap = h0 := by rw [← hh, Bd.state]; rfl
  have N0 := Fr.nil n0
  refine OwnR.of (s := s) (Q := Q1 Z p1 p2 h0 n0) (fun t k => castTop (ef_rm1 m p1 p2) k) ?_
  show OwnR _ _ _ _ _ _ _ (s₁.setTop (mkF m 0 #[.val (.int p1), .val (.int p2)] []))
  refine OwnR.of (fun _ hr => XS.iloadN X0.here hx rfl (hb hby d1_0) rfl hr) ?_
  show OwnR _ _ _ _ _ _ _ (s₁.setTop (mkF m 1 #[.val (.int p1), .val (.int p2)] [(.int p1)]))
  refine OwnR.of (fun _ hr => XS.iloadN X0.here hx rfl (hb hby d1_1) rfl hr) ?_
  show OwnR _ _ _ _ _ _ _ (s₁.setTop (mkF m 2 #[.val (.int p1), .val (.int p2)] [(.int p2), (.int p1)]))
  by_cases hc2_3 : p1 < p2
  · skip
    refine OwnR.of (fun _ hr => XS.icmpYes X0.here hx rfl (pc0 := 2) (pc' := 9) rfl (hb hby d1_2) rfl (tlt hc2_3).1 (by decide) (by decide) hr) ?_
    show OwnR _ _ _ _ _ _ _ (s₁.setTop (mkF m 9 #[.val (.int p1), .val (.int p2)] []))
    refine OwnR.of (fun _ hr => XS.iloadN X0.here hx rfl (hb hby d1_9) rfl hr) ?_
    show OwnR _ _ _ _ _ _ _ (s₁.setTop (mkF m 10 #[.val (.int p1), .val (.int p2)] [(.int p2)]))
    refine own_leafI X0 hx hlk Bd.returns (hb hby d1_10) (by decide) (by decide) ?_
    show Q1 Z p1 p2 h0 n0 _ s₁.heap _
    rw [show s₁.heap = h0 from e0]
    refine ⟨?_, N0, rfl⟩
    show (some (.int p2) : Option Value) = some (.int (own_imax p1 p2))
    simp only [own_imax, if_pos hc2_3]
  · skip
    refine OwnR.of (fun _ hr => XS.icmpNo X0.here hx rfl (hb hby d1_2) rfl (flt hc2_3).1 hr) ?_
    show OwnR _ _ _ _ _ _ _ (s₁.setTop (mkF m 5 #[.val (.int p1), .val (.int p2)] []))
    refine OwnR.of (fun _ hr => XS.iloadN X0.here hx rfl (hb hby d1_5) rfl hr) ?_
    show OwnR _ _ _ _ _ _ _ (s₁.setTop (mkF m 6 #[.val (.int p1), .val (.int p2)] [(.int p1)]))
    refine OwnR.of (fun _ hr => XS.goto X0.here hx rfl (pc0 := 6) (pc' := 10) rfl (hb hby d1_6) (by decide) (by decide) hr) ?_
    show OwnR _ _ _ _ _ _ _ (s₁.setTop (mkF m 10 #[.val (.int p1), .val (.int p2)] [(.int p1)]))
    refine own_leafI X0 hx hlk Bd.returns (hb hby d1_10) (by decide) (by decide) ?_
    show Q1 Z p1 p2 h0 n0 _ s₁.heap _
    rw [show s₁.heap = h0 from e0]
    refine ⟨?_, N0, rfl⟩
    show (some (.int p1) : Option Value) = some (.int (own_imax p1 p2))
    simp only [own_imax, if_neg hc2_3]
theorem pn_com_example_ramification_ramification_model_StrahlerOrders : plainName "com/example/ramification/ramification/model/StrahlerOrders" = true := by first | (simp [plainName, overriddenIn]; done) | decide +kernel
theorem ef_rm2_1 (m : MethodId) (x0 : Addr) (x1 : Addr) (x2 : Addr) : entryFrame m #[(.ref x0), (.ref x1), (.ref x2), .null] 5 = mkF m 0 #[.val (.ref x0), .val (.ref x1), .val (.ref x2), .val .null, .unset] [] := by first | (simp [entryFrame, mkF, argsToLocals, Value.category]; done) | rfl
theorem d2_0 : decode prog_88_method_1_code 0 = .ok (.aload_n 0, 1) := by decide +kernel
theorem d2_1 : decode prog_88_method_1_code 1 = .ok (.invokespecial 1, 3) := by decide +kernel
theorem d2_4 : decode prog_88_method_1_code 4 = .ok (.aload_n 1, 1) := by decide +kernel
theorem d2_5 : decode prog_88_method_1_code 5 = .ok (.arraylength, 1) := by decide +kernel
theorem d2_6 : decode prog_88_method_1_code 6 = .ok (.aload_n 2, 1) := by decide +kernel
theorem d2_7 : decode prog_88_method_1_code 7 = .ok (.arraylength, 1) := by decide +kernel
theorem d2_8 : decode prog_88_method_1_code 8 = .ok (.if_icmp .eq 20, 3) := by decide +kernel
theorem d2_28 : decode prog_88_method_1_code 28 = .ok (.iconst 0, 1) := by decide +kernel
theorem d2_29 : decode prog_88_method_1_code 29 = .ok (.istore 4, 2) := by decide +kernel
theorem d2_31 : decode prog_88_method_1_code 31 = .ok (.iload 4, 2) := by decide +kernel
theorem d2_33 : decode prog_88_method_1_code 33 = .ok (.aload_n 1, 1) := by decide +kernel
theorem d2_34 : decode prog_88_method_1_code 34 = .ok (.arraylength, 1) := by decide +kernel
theorem d2_35 : decode prog_88_method_1_code 35 = .ok (.if_icmp .ge 38, 3) := by decide +kernel
theorem d2_38 : decode prog_88_method_1_code 38 = .ok (.aload_n 1, 1) := by decide +kernel
theorem d2_39 : decode prog_88_method_1_code 39 = .ok (.iload 4, 2) := by decide +kernel
theorem d2_41 : decode prog_88_method_1_code 41 = .ok (.iaload, 1) := by decide +kernel
theorem d2_42 : decode prog_88_method_1_code 42 = .ok (.iconst 1, 1) := by decide +kernel
theorem d2_43 : decode prog_88_method_1_code 43 = .ok (.if_icmp .ge 24, 3) := by decide +kernel
theorem d2_67 : decode prog_88_method_1_code 67 = .ok (.iinc 4 1, 3) := by decide +kernel
theorem d2_70 : decode prog_88_method_1_code 70 = .ok (.goto (-39), 3) := by decide +kernel
theorem d2_73 : decode prog_88_method_1_code 73 = .ok (.aload_n 0, 1) := by decide +kernel
theorem d2_74 : decode prog_88_method_1_code 74 = .ok (.aload_n 1, 1) := by decide +kernel
theorem d2_75 : decode prog_88_method_1_code 75 = .ok (.invokevirtual 17, 3) := by decide +kernel
theorem d2_78 : decode prog_88_method_1_code 78 = .ok (.checkcast 18, 3) := by decide +kernel
theorem d2_81 : decode prog_88_method_1_code 81 = .ok (.putfield 23, 3) := by decide +kernel
theorem d2_84 : decode prog_88_method_1_code 84 = .ok (.aload_n 0, 1) := by decide +kernel
theorem d2_85 : decode prog_88_method_1_code 85 = .ok (.aload_n 2, 1) := by decide +kernel
theorem d2_86 : decode prog_88_method_1_code 86 = .ok (.invokevirtual 28, 3) := by decide +kernel
theorem d2_89 : decode prog_88_method_1_code 89 = .ok (.checkcast 29, 3) := by decide +kernel
theorem d2_92 : decode prog_88_method_1_code 92 = .ok (.putfield 31, 3) := by decide +kernel
theorem d2_95 : decode prog_88_method_1_code 95 = .ok (.aload_n 0, 1) := by decide +kernel
theorem d2_96 : decode prog_88_method_1_code 96 = .ok (.aload_n 3, 1) := by decide +kernel
theorem d2_97 : decode prog_88_method_1_code 97 = .ok (.putfield 34, 3) := by decide +kernel
theorem d2_100 : decode prog_88_method_1_code 100 = .ok (.return_, 1) := by decide +kernel
def Q2_1 (Z : State) (a1 : Addr) (k2 : ClassId) (x0 : Int32) (h0 : Heap) (n0 : Nat) (v : Option Value) (h : Heap) (L : List Loc) : Prop := ∃ (bI : Addr), v = none ∧ Fr n0 L ∧ Keep h0 h [a1] ∧ Exa Z h a1 "com/example/ramification/ramification/model/StrahlerOrders" ∧ Fld Z h a1 "com/example/ramification/ramification/model/StrahlerOrders" "branches" "[I" (.ref bI) ∧ Arv Z h bI k2 .int (1 : Int32) [(.int x0)] (.int (0 : Int32))
set_option maxRecDepth 65536 in
set_option maxHeartbeats 40000000 in
theorem rm2_1 (l : Launch) (Z : State) (a0 : Array Value) (hw : ∀ d ∈ tables_1, d.before a0 Z = true) (ws : List Jvm.Cond) (a1 : Addr) (a2 : Addr) (a3 : Addr) (k2 k3 : ClassId) (x0 : Int32) (h0 : Heap) (n0 : Nat) (Z0 : n0 ≤ h0.size) (E_a1 : Exa Z h0 a1 "com/example/ramification/ramification/model/StrahlerOrders") (F_branches_a1 : Fld Z h0 a1 "com/example/ramification/ramification/model/StrahlerOrders" "branches" "[I" .null) (F_lengths_a1 : Fld Z h0 a1 "com/example/ramification/ramification/model/StrahlerOrders" "lengths" "[D" .null) (F_unit_a1 : Fld Z h0 a1 "com/example/ramification/ramification/model/StrahlerOrders" "unit" "Ljava/util/Optional;" .null) (V_a2 : Arv Z h0 a2 k2 .int (1 : Int32) [(.int x0)] (.int (0 : Int32))) (V_a3 : Arv Z h0 a3 k3 .double (1 : Int32) [(.double (0 : UInt64))] (.double (0 : UInt64))) (E_a2 : Exa Z h0 a2 "[I") (E_a3 : Exa Z h0 a3 "[D") (g_a1 : n0 ≤ a1) (ne_12 : a1 ≠ a2) (ne_13 : a1 ≠ a3) (hx0 : ¬ (x0 < (1 : Int32))) :
    MetFree l (⟨"com/example/ramification/ramification/model/StrahlerOrders", "<init>", "([I[DLjava/util/Optional;)V"⟩ : MethodName) (head1 (Jvm.Cond.code (⟨"com/example/ramification/ramification/model/StrahlerOrders", "<init>", "([I[DLjava/util/Optional;)V"⟩ : MethodName) prog_88_method_1_code 5 none :: ws) ({ frames := 1, cells := 2, slots := 2, locals := 18 } : Room)) (fun a U => a = #[(.ref a1), (.ref a2), (.ref a3), .null] ∧ Z.Warmed39 U.vm ∧ U.heap = h0) (fun _ _ _ _ _ => True) (fun _ U o U' => ∃ v L, o = .returned v ∧ Q2_1 Z a1 k2 x0 h0 n0 v U'.heap L ∧ FrameEnd U o U' L ({ frames := 1, cells := 2, slots := 2, locals := 18 } : Room).cells ({ frames := 1, cells := 2, slots := 2, locals := 18 } : Room).slots) := by
  refine MetFree.of_bodySF (plainFor_of_name pn_com_example_ramification_ramification_model_StrahlerOrders) hisR ?_
  intro p e s m args below meth c s₁ Bd hml0 hP hK
  obtain ⟨rfl, hZ, hh⟩ := hP
  have hx := Bd.exec
  have hby := Bd.bytes
  have hlk := BodyLoose.notSynchronized Bd
  have hml : c.maxLocals = 5 := hml0
  have hown : s.vm.findClass "com/example/ramification/ramification/model/StrahlerOrders" = some m.cls := findClass_of_methodNamed Bd.named
  have hnm := (name_of_methodNamed Bd.named Bd.method).1
  have X0 : Stand p l e ({ frames := 1, cells := 2, slots := 2, locals := 18 } : Room) s m #[(.ref a1), (.ref a2), (.ref a3), .null] below meth c s₁ [] 0 0 := Stand.of_body Bd
  have e0 : s₁.heap = h0 := by rw [← hh, Bd.state]; rfl
  have N0 := Fr.nil n0
  refine OwnR.of (s := s) (Q := Q2_1 Z a1 k2 x0 h0 n0) (fun t k => castTop (ef_rm2_1 m a1 a2 a3) k) ?_
  show OwnR _ _ _ _ _ _ _ (s₁.setTop (mkF m 0 #[.val (.ref a1), .val (.ref a2), .val (.ref a3), .val .null, .unset] []))
  refine OwnR.of (fun _ hr => XS.aloadN X0.here hx rfl (hb hby d2_0) rfl rfl hr) ?_
  show OwnR _ _ _ _ _ _ _ (s₁.setTop (mkF m 1 #[.val (.ref a1), .val (.ref a2), .val (.ref a3), .val .null, .unset] [(.ref a1)]))
  obtain ⟨T1, X1, e1, st1⟩ := initO X0 hx hZ hown (hw _ (List.mem_of_getElem? (i := 13) rfl)) (hw _ (List.mem_of_getElem? (i := 14) rfl)) (hw _ (List.mem_of_getElem? (i := 15) rfl)) e0 (g := (mkF m 1 #[.val (.ref a1), .val (.ref a2), .val (.ref a3), .val .null, .unset] [(.ref a1)])) rfl (by rw [hml]; rfl) rfl (hb hby d2_1) (by decide) (W := 0) (by show 2 * 0 + _ ≤ _; exact Nat.le_of_eq rfl) (by decide)
  refine OwnR.of (st1) ?_
  show OwnR _ _ _ _ _ _ _ (T1.setTop (mkF m 4 #[.val (.ref a1), .val (.ref a2), .val (.ref a3), .val .null, .unset] []))
  refine OwnR.of (fun _ hr => XS.aloadN X1.here hx rfl (hb hby d2_4) rfl rfl hr) ?_
  show OwnR _ _ _ _ _ _ _ (T1.setTop (mkF m 5 #[.val (.ref a1), .val (.ref a2), .val (.ref a3), .val .null, .unset] [(.ref a2)]))
  obtain ⟨cl2, Ar2, -, S2, N2, -, -⟩ := id V_a2
  refine OwnR.of (X1.arraylength hx (by rw [e1]; exact Ar2.1) (State.isArrayOf_alike hZ.alike Ar2.2.1) (g := (mkF m 5 #[.val (.ref a1), .val (.ref a2), .val (.ref a3), .val .null, .unset] [(.ref a2)])) rfl rfl (hb hby d2_5)) ?_
  show OwnR _ _ _ _ _ _ _ (T1.setTop (mkF m 6 #[.val (.ref a1), .val (.ref a2), .val (.ref a3), .val .null, .unset] [(.int cl2.slots.size.toInt32)]))
  rw [len_of S2 N2]
  show OwnR _ _ _ _ _ _ _ (T1.setTop (mkF m 6 #[.val (.ref a1), .val (.ref a2), .val (.ref a3), .val .null, .unset] [(.int (1 : Int32))]))
  refine OwnR.of (fun _ hr => XS.aloadN X1.here hx rfl (hb hby d2_6) rfl rfl hr) ?_
  show OwnR _ _ _ _ _ _ _ (T1.setTop (mkF m 7 #[.val (.ref a1), .val (.ref a2), .val (.ref a3), .val .null, .unset] [(.ref a3), (.int (1 : Int32))]))
  obtain ⟨cl3, Ar3, -, S3, N3, -, -⟩ := id V_a3
  refine OwnR.of (X1.arraylength hx (by rw [e1]; exact Ar3.1) (State.isArrayOf_alike hZ.alike Ar3.2.1) (g := (mkF m 7 #[.val (.ref a1), .val (.ref a2), .val (.ref a3), .val .null, .unset] [(.ref a3), (.int (1 : Int32))])) rfl rfl (hb hby d2_7)) ?_
  show OwnR _ _ _ _ _ _ _ (T1.setTop (mkF m 8 #[.val (.ref a1), .val (.ref a2), .val (.ref a3), .val .null, .unset] [(.int cl3.slots.size.toInt32), (.int (1 : Int32))]))
  rw [len_of S3 N3]
  show OwnR _ _ _ _ _ _ _ (T1.setTop (mkF m 8 #[.val (.ref a1), .val (.ref a2), .val (.ref a3), .val .null, .unset] [(.int (1 : Int32)), (.int (1 : Int32))]))
  refine OwnR.of (fun _ hr => XS.icmpYes X1.here hx rfl (pc0 := 8) (pc' := 28) rfl (hb hby d2_8) rfl (teq (by decide : (1 : Int32) = (1 : Int32))).1 (by decide) (by decide) hr) ?_
  show OwnR _ _ _ _ _ _ _ (T1.setTop (mkF m 28 #[.val (.ref a1), .val (.ref a2), .val (.ref a3), .val .null, .unset] []))
  refine OwnR.of (fun _ hr => XS.iconst X1.here hx rfl (hb hby d2_28) hr) ?_
  show OwnR _ _ _ _ _ _ _ (T1.setTop (mkF m 29 #[.val (.ref a1), .val (.ref a2), .val (.ref a3), .val .null, .unset] [(.int (0 : Int32))]))
  refine OwnR.of (fun _ hr => XS.istore X1.here hx rfl (hb hby d2_29) rfl (l' := #[.val (.ref a1), .val (.ref a2), .val (.ref a3), .val .null, .val (.int (0 : Int32))]) rfl hr) ?_
  show OwnR _ _ _ _ _ _ _ (T1.setTop (mkF m 31 #[.val (.ref a1), .val (.ref a2), .val (.ref a3), .val .null, .val (.int (0 : Int32))] []))
  refine OwnR.of (fun _ hr => XS.iload X1.here hx rfl (hb hby d2_31) rfl hr) ?_
  show OwnR _ _ _ _ _ _ _ (T1.setTop (mkF m 33 #[.val (.ref a1), .val (.ref a2), .val (.ref a3), .val .null, .val (.int (0 : Int32))] [(.int (0 : Int32))]))
  refine OwnR.of (fun _ hr => XS.aloadN X1.here hx rfl (hb hby d2_33) rfl rfl hr) ?_
  show OwnR _ _ _ _ _ _ _ (T1.setTop (mkF m 34 #[.val (.ref a1), .val (.ref a2), .val (.ref a3), .val .null, .val (.int (0 : Int32))] [(.ref a2), (.int (0 : Int32))]))
  obtain ⟨cl4, Ar4, -, S4, N4, -, -⟩ := id V_a2
  refine OwnR.of (X1.arraylength hx (by rw [e1]; exact Ar4.1) (State.isArrayOf_alike hZ.alike Ar4.2.1) (g := (mkF m 34 #[.val (.ref a1), .val (.ref a2), .val (.ref a3), .val .null, .val (.int (0 : Int32))] [(.ref a2), (.int (0 : Int32))])) rfl rfl (hb hby d2_34)) ?_
  show OwnR _ _ _ _ _ _ _ (T1.setTop (mkF m 35 #[.val (.ref a1), .val (.ref a2), .val (.ref a3), .val .null, .val (.int (0 : Int32))] [(.int cl4.slots.size.toInt32), (.int (0 : Int32))]))
  rw [len_of S4 N4]
  show OwnR _ _ _ _ _ _ _ (T1.setTop (mkF m 35 #[.val (.ref a1), .val (.ref a2), .val (.ref a3), .val .null, .val (.int (0 : Int32))] [(.int (1 : Int32)), (.int (0 : Int32))]))
  refine OwnR.of (fun _ hr => XS.icmpNo X1.here hx rfl (hb hby d2_35) rfl (tlt (by decide : (0 : Int32) < (1 : Int32))).2.1 hr) ?_
  show OwnR _ _ _ _ _ _ _ (T1.setTop (mkF m 38 #[.val (.ref a1), .val (.ref a2), .val (.ref a3), .val .null, .val (.int (0 : Int32))] []))
  refine OwnR.of (fun _ hr => XS.aloadN X1.here hx rfl (hb hby d2_38) rfl rfl hr) ?_
  show OwnR _ _ _ _ _ _ _ (T1.setTop (mkF m 39 #[.val (.ref a1), .val (.ref a2), .val (.ref a3), .val .null, .val (.int (0 : Int32))] [(.ref a2)]))
  refine OwnR.of (fun _ hr => XS.iload X1.here hx rfl (hb hby d2_39) rfl hr) ?_
  show OwnR _ _ _ _ _ _ _ (T1.setTop (mkF m 41 #[.val (.ref a1), .val (.ref a2), .val (.ref a3), .val .null, .val (.int (0 : Int32))] [(.int (0 : Int32)), (.ref a2)]))
  obtain ⟨cl5, Ar5, -, S5, N5, H5, G5⟩ := id V_a2
  have hin5 : ¬ ((0 : Int32) < 0 ∨ cl5.slots.size ≤ ((0 : Int32)).toNatClampNeg) := (inb_of S5 ⟨by decide, by decide⟩)
  refine OwnR.of (X1.iaload hx (j := (0 : Int32)) (v := (.int x0)) (by rw [e1]; exact Ar5.1) (State.isArrayOf_alike hZ.alike Ar5.2.1) Ar5.2.2 hin5 (Has.at H5 hin5 rfl) (g := (mkF m 41 #[.val (.ref a1), .val (.ref a2), .val (.ref a3), .val .null, .val (.int (0 : Int32))] [(.int (0 : Int32)), (.ref a2)])) rfl rfl (hb hby d2_41)) ?_
  show OwnR _ _ _ _ _ _ _ (T1.setTop (mkF m 42 #[.val (.ref a1), .val (.ref a2), .val (.ref a3), .val .null, .val (.int (0 : Int32))] [(.int x0)]))
  refine OwnR.of (fun _ hr => XS.iconst X1.here hx rfl (hb hby d2_42) hr) ?_
  show OwnR _ _ _ _ _ _ _ (T1.setTop (mkF m 43 #[.val (.ref a1), .val (.ref a2), .val (.ref a3), .val .null, .val (.int (0 : Int32))] [(.int (1 : Int32)), (.int x0)]))
  refine OwnR.of (fun _ hr => XS.icmpYes X1.here hx rfl (pc0 := 43) (pc' := 67) rfl (hb hby d2_43) rfl (flt hx0).2.1 (by decide) (by decide) hr) ?_
  show OwnR _ _ _ _ _ _ _ (T1.setTop (mkF m 67 #[.val (.ref a1), .val (.ref a2), .val (.ref a3), .val .null, .val (.int (0 : Int32))] []))
  refine OwnR.of (fun _ hr => XS.iinc X1.here hx rfl (hb hby d2_67) rfl (l' := #[.val (.ref a1), .val (.ref a2), .val (.ref a3), .val .null, .val (.int ((0 : Int32) + (1 : Int32)))]) rfl hr) ?_
  show OwnR _ _ _ _ _ _ _ (T1.setTop (mkF m 70 #[.val (.ref a1), .val (.ref a2), .val (.ref a3), .val .null, .val (.int ((0 : Int32) + (1 : Int32)))] []))
  rw [(by decide : ((0 : Int32) + (1 : Int32)) = (1 : Int32))]
  show OwnR _ _ _ _ _ _ _ (T1.setTop (mkF m 70 #[.val (.ref a1), .val (.ref a2), .val (.ref a3), .val .null, .val (.int (1 : Int32))] []))
  refine OwnR.of (fun _ hr => XS.goto X1.here hx rfl (pc0 := 70) (pc' := 31) rfl (hb hby d2_70) (by decide) (by decide) hr) ?_
  show OwnR _ _ _ _ _ _ _ (T1.setTop (mkF m 31 #[.val (.ref a1), .val (.ref a2), .val (.ref a3), .val .null, .val (.int (1 : Int32))] []))
  refine OwnR.of (fun _ hr => XS.iload X1.here hx rfl (hb hby d2_31) rfl hr) ?_
  show OwnR _ _ _ _ _ _ _ (T1.setTop (mkF m 33 #[.val (.ref a1), .val (.ref a2), .val (.ref a3), .val .null, .val (.int (1 : Int32))] [(.int (1 : Int32))]))
  refine OwnR.of (fun _ hr => XS.aloadN X1.here hx rfl (hb hby d2_33) rfl rfl hr) ?_
  show OwnR _ _ _ _ _ _ _ (T1.setTop (mkF m 34 #[.val (.ref a1), .val (.ref a2), .val (.ref a3), .val .null, .val (.int (1 : Int32))] [(.ref a2), (.int (1 : Int32))]))
  obtain ⟨cl6, Ar6, -, S6, N6, -, -⟩ := id V_a2
  refine OwnR.of (X1.arraylength hx (by rw [e1]; exact Ar6.1) (State.isArrayOf_alike hZ.alike Ar6.2.1) (g := (mkF m 34 #[.val (.ref a1), .val (.ref a2), .val (.ref a3), .val .null, .val (.int (1 : Int32))] [(.ref a2), (.int (1 : Int32))])) rfl rfl (hb hby d2_34)) ?_
  show OwnR _ _ _ _ _ _ _ (T1.setTop (mkF m 35 #[.val (.ref a1), .val (.ref a2), .val (.ref a3), .val .null, .val (.int (1 : Int32))] [(.int cl6.slots.size.toInt32), (.int (1 : Int32))]))
  rw [len_of S6 N6]
  show OwnR _ _ _ _ _ _ _ (T1.setTop (mkF m 35 #[.val (.ref a1), .val (.ref a2), .val (.ref a3), .val .null, .val (.int (1 : Int32))] [(.int (1 : Int32)), (.int (1 : Int32))]))
  refine OwnR.of (fun _ hr => XS.icmpYes X1.here hx rfl (pc0 := 35) (pc' := 73) rfl (hb hby d2_35) rfl (flt (by decide : ¬ ((1 : Int32) < (1 : Int32)))).2.1 (by decide) (by decide) hr) ?_
  show OwnR _ _ _ _ _ _ _ (T1.setTop (mkF m 73 #[.val (.ref a1), .val (.ref a2), .val (.ref a3), .val .null, .val (.int (1 : Int32))] []))
  refine OwnR.of (fun _ hr => XS.aloadN X1.here hx rfl (hb hby d2_73) rfl rfl hr) ?_
  show OwnR _ _ _ _ _ _ _ (T1.setTop (mkF m 74 #[.val (.ref a1), .val (.ref a2), .val (.ref a3), .val .null, .val (.int (1 : Int32))] [(.ref a1)]))
  refine OwnR.of (fun _ hr => XS.aloadN X1.here hx rfl (hb hby d2_74) rfl rfl hr) ?_
  show OwnR _ _ _ _ _ _ _ (T1.setTop (mkF m 75 #[.val (.ref a1), .val (.ref a2), .val (.ref a3), .val .null, .val (.int (1 : Int32))] [(.ref a2), (.ref a1)]))
  obtain ⟨T7, h7, X7, e7, E7, V7, AE7, st7⟩ := cloneH X1 hx hZ hown (hw _ (List.mem_of_getElem? (i := 16) rfl)) (hw _ (List.mem_of_getElem? (i := 17) rfl)) (hw _ (List.mem_of_getElem? (i := 21) rfl)) (hw _ (List.mem_of_getElem? (i := 19) rfl)) (hw _ (List.mem_of_getElem? (i := 20) rfl)) (hw _ (List.mem_of_getElem? (i := 22) rfl)) e1 (Arv.arh V_a2) E_a2 (g := (mkF m 75 #[.val (.ref a1), .val (.ref a2), .val (.ref a3), .val .null, .val (.int (1 : Int32))] [(.ref a2), (.ref a1)])) rfl (by rw [hml]; rfl) rfl (hb hby d2_75) (by decide) (W := 1) (by show 2 * 0 + _ ≤ _; exact Nat.le_of_eq rfl) (by decide) (cap := 1) (by decide) (by decide) (by decide)
  obtain ⟨b7, g7⟩ : ∃ z, z = h0.size := ⟨_, rfl⟩
  rw [← g7] at V7 AE7 st7
  refine OwnR.of (st7) ?_
  have gn_b7 : n0 ≤ b7 := Nat.le_trans (Nat.le_trans Z0 (Keep.refl h0 [a1]).1) (Nat.le_of_eq g7.symm)
  have sz_b7 : h0.size ≤ b7 := Nat.le_trans (Keep.refl h0 [a1]).1 (Nat.le_of_eq g7.symm)
  have K7 : Keep h0 h7 [a1] := Keep.ext (Keep.refl h0 [a1]) E7
  have V7 : Arv Z h7 b7 k2 .int (1 : Int32) [(.int x0)] (.int (0 : Int32)) := V7
  show OwnR _ _ _ _ _ _ _ (T7.setTop (mkF m 78 #[.val (.ref a1), .val (.ref a2), .val (.ref a3), .val .null, .val (.int (1 : Int32))] [(.ref b7), (.ref a1)]))
  obtain ⟨T8, X8, e8, st8⟩ := castY X7 hx hZ hown (hw _ (List.mem_of_getElem? (i := 23) rfl)) e7 (Ins.self AE7) (g := (mkF m 78 #[.val (.ref a1), .val (.ref a2), .val (.ref a3), .val .null, .val (.int (1 : Int32))] [(.ref b7), (.ref a1)])) rfl rfl (hb hby d2_78)
  refine OwnR.of (st8) ?_
  show OwnR _ _ _ _ _ _ _ (T8.setTop (mkF m 81 #[.val (.ref a1), .val (.ref a2), .val (.ref a3), .val .null, .val (.int (1 : Int32))] [(.ref b7), (.ref a1)]))
  obtain ⟨T9, h9, X9, e9, W9, st9⟩ := putF X8 hx hZ hown (host := "") (Or.inl (hw _ (List.mem_of_getElem? (i := 25) rfl))) Via.refl e8 (Fld.ext E7 F_branches_a1) (Exa.keep E_a1 K7) (Or.inr ⟨(hw _ (List.mem_of_getElem? (i := 26) rfl)), rfl, hnm⟩) (hw _ (List.mem_of_getElem? (i := 6) rfl)) (ty := (.array .int)) (by decide) rfl rfl (g := (mkF m 81 #[.val (.ref a1), .val (.ref a2), .val (.ref a3), .val .null, .val (.int (1 : Int32))] [(.ref b7), (.ref a1)])) rfl rfl (hb hby d2_81)
  refine OwnR.of (st9) ?_
  have F9 := Fld.same W9 (Fld.ext E7 F_branches_a1)
  have K9 : Keep h0 h9 [a1] := Keep.wr K7 W9 (Or.inl (List.mem_of_getElem? (i := 0) rfl))
  have N9 := Fr.snoc X9 N0 g_a1
  show OwnR _ _ _ _ _ _ _ (T9.setTop (mkF m 84 #[.val (.ref a1), .val (.ref a2), .val (.ref a3), .val .null, .val (.int (1 : Int32))] []))
  refine OwnR.of (fun _ hr => XS.aloadN X9.here hx rfl (hb hby d2_84) rfl rfl hr) ?_
  show OwnR _ _ _ _ _ _ _ (T9.setTop (mkF m 85 #[.val (.ref a1), .val (.ref a2), .val (.ref a3), .val .null, .val (.int (1 : Int32))] [(.ref a1)]))
  refine OwnR.of (fun _ hr => XS.aloadN X9.here hx rfl (hb hby d2_85) rfl rfl hr) ?_
  show OwnR _ _ _ _ _ _ _ (T9.setTop (mkF m 86 #[.val (.ref a1), .val (.ref a2), .val (.ref a3), .val .null, .val (.int (1 : Int32))] [(.ref a3), (.ref a1)]))
  obtain ⟨T10, h10, X10, e10, E10, V10, AE10, st10⟩ := cloneH X9 hx hZ hown (hw _ (List.mem_of_getElem? (i := 27) rfl)) (hw _ (List.mem_of_getElem? (i := 28) rfl)) (hw _ (List.mem_of_getElem? (i := 21) rfl)) (hw _ (List.mem_of_getElem? (i := 19) rfl)) (hw _ (List.mem_of_getElem? (i := 29) rfl)) (hw _ (List.mem_of_getElem? (i := 30) rfl)) e9 (Arv.arh (Arv.keep V_a3 K9 (ninS (Ne.symm ne_13) nin0))) (Exa.keep E_a3 K9) (g := (mkF m 86 #[.val (.ref a1), .val (.ref a2), .val (.ref a3), .val .null, .val (.int (1 : Int32))] [(.ref a3), (.ref a1)])) rfl (by rw [hml]; rfl) rfl (hb hby d2_86) (by decide) (W := 1) (by show 2 * 0 + _ ≤ _; exact Nat.le_of_eq rfl) (by decide) (cap := 1) (by decide) (by decide) (by decide)
  obtain ⟨b10, g10⟩ : ∃ z, z = h9.size := ⟨_, rfl⟩
  rw [← g10] at V10 AE10 st10
  refine OwnR.of (st10) ?_
  have gn_b10 : n0 ≤ b10 := Nat.le_trans (Nat.le_trans Z0 K9.1) (Nat.le_of_eq g10.symm)
  have sz_b10 : h0.size ≤ b10 := Nat.le_trans K9.1 (Nat.le_of_eq g10.symm)
  have K10 : Keep h0 h10 [a1] := Keep.ext K9 E10
  have V10 : Arv Z h10 b10 k3 .double (1 : Int32) [(.double (0 : UInt64))] (.double (0 : UInt64)) := V10
  show OwnR _ _ _ _ _ _ _ (T10.setTop (mkF m 89 #[.val (.ref a1), .val (.ref a2), .val (.ref a3), .val .null, .val (.int (1 : Int32))] [(.ref b10), (.ref a1)]))
  obtain ⟨T11, X11, e11, st11⟩ := castY X10 hx hZ hown (hw _ (List.mem_of_getElem? (i := 31) rfl)) e10 (Ins.self AE10) (g := (mkF m 89 #[.val (.ref a1), .val (.ref a2), .val (.ref a3), .val .null, .val (.int (1 : Int32))] [(.ref b10), (.ref a1)])) rfl rfl (hb hby d2_89)
  refine OwnR.of (st11) ?_
  show OwnR _ _ _ _ _ _ _ (T11.setTop (mkF m 92 #[.val (.ref a1), .val (.ref a2), .val (.ref a3), .val .null, .val (.int (1 : Int32))] [(.ref b10), (.ref a1)]))
  obtain ⟨T12, h12, X12, e12, W12, st12⟩ := putF X11 hx hZ hown (host := "") (Or.inl (hw _ (List.mem_of_getElem? (i := 33) rfl))) Via.refl e11 (Fld.ext E10 (Fld.other W9 (Fld.ext E7 F_lengths_a1) (Or.inr (slot_ne (Or.inr (hw _ (List.mem_of_getElem? (i := 34) rfl))) (Or.inr (hw _ (List.mem_of_getElem? (i := 26) rfl))) (by decide) (t := (.array .double)) (t' := (.array .int)) (by decide) (by decide))))) (Exa.keep E_a1 K10) (Or.inr ⟨(hw _ (List.mem_of_getElem? (i := 34) rfl)), rfl, hnm⟩) (hw _ (List.mem_of_getElem? (i := 6) rfl)) (ty := (.array .double)) (by decide) rfl rfl (g := (mkF m 92 #[.val (.ref a1), .val (.ref a2), .val (.ref a3), .val .null, .val (.int (1 : Int32))] [(.ref b10), (.ref a1)])) rfl rfl (hb hby d2_92)
  refine OwnR.of (st12) ?_
  have F12 := Fld.same W12 (Fld.ext E10 (Fld.other W9 (Fld.ext E7 F_lengths_a1) (Or.inr (slot_ne (Or.inr (hw _ (List.mem_of_getElem? (i := 34) rfl))) (Or.inr (hw _ (List.mem_of_getElem? (i := 26) rfl))) (by decide) (t := (.array .double)) (t' := (.array .int)) (by decide) (by decide)))))
  have K12 : Keep h0 h12 [a1] := Keep.wr K10 W12 (Or.inl (List.mem_of_getElem? (i := 0) rfl))
  have N12 := Fr.snoc X12 N9 g_a1
  show OwnR _ _ _ _ _ _ _ (T12.setTop (mkF m 95 #[.val (.ref a1), .val (.ref a2), .val (.ref a3), .val .null, .val (.int (1 : Int32))] []))
  refine OwnR.of (fun _ hr => XS.aloadN X12.here hx rfl (hb hby d2_95) rfl rfl hr) ?_
  show OwnR _ _ _ _ _ _ _ (T12.setTop (mkF m 96 #[.val (.ref a1), .val (.ref a2), .val (.ref a3), .val .null, .val (.int (1 : Int32))] [(.ref a1)]))
  refine OwnR.of (fun _ hr => XS.aloadN X12.here hx rfl (hb hby d2_96) rfl rfl hr) ?_
  show OwnR _ _ _ _ _ _ _ (T12.setTop (mkF m 97 #[.val (.ref a1), .val (.ref a2), .val (.ref a3), .val .null, .val (.int (1 : Int32))] [.null, (.ref a1)]))
  obtain ⟨T13, h13, X13, e13, W13, st13⟩ := putF X12 hx hZ hown (host := "") (Or.inl (hw _ (List.mem_of_getElem? (i := 35) rfl))) Via.refl e12 (Fld.other W12 (Fld.ext E10 (Fld.other W9 (Fld.ext E7 F_unit_a1) (Or.inr (slot_ne (Or.inr (hw _ (List.mem_of_getElem? (i := 36) rfl))) (Or.inr (hw _ (List.mem_of_getElem? (i := 26) rfl))) (by decide) (t := (.object "java/util/Optional")) (t' := (.array .int)) (by decide) (by decide))))) (Or.inr (slot_ne (Or.inr (hw _ (List.mem_of_getElem? (i := 36) rfl))) (Or.inr (hw _ (List.mem_of_getElem? (i := 34) rfl))) (by decide) (t := (.object "java/util/Optional")) (t' := (.array .double)) (by decide) (by decide)))) (Exa.keep E_a1 K12) (Or.inr ⟨(hw _ (List.mem_of_getElem? (i := 36) rfl)), rfl, hnm⟩) (hw _ (List.mem_of_getElem? (i := 6) rfl)) (ty := (.object "java/util/Optional")) (by decide) rfl rfl (g := (mkF m 97 #[.val (.ref a1), .val (.ref a2), .val (.ref a3), .val .null, .val (.int (1 : Int32))] [.null, (.ref a1)])) rfl rfl (hb hby d2_97)
  refine OwnR.of (st13) ?_
  have F13 := Fld.same W13 (Fld.other W12 (Fld.ext E10 (Fld.other W9 (Fld.ext E7 F_unit_a1) (Or.inr (slot_ne (Or.inr (hw _ (List.mem_of_getElem? (i := 36) rfl))) (Or.inr (hw _ (List.mem_of_getElem? (i := 26) rfl))) (by decide) (t := (.object "java/util/Optional")) (t' := (.array .int)) (by decide) (by decide))))) (Or.inr (slot_ne (Or.inr (hw _ (List.mem_of_getElem? (i := 36) rfl))) (Or.inr (hw _ (List.mem_of_getElem? (i := 34) rfl))) (by decide) (t := (.object "java/util/Optional")) (t' := (.array .double)) (by decide) (by decide))))
  have K13 : Keep h0 h13 [a1] := Keep.wr K12 W13 (Or.inl (List.mem_of_getElem? (i := 0) rfl))
  have N13 := Fr.snoc X13 N12 g_a1
  show OwnR _ _ _ _ _ _ _ (T13.setTop (mkF m 100 #[.val (.ref a1), .val (.ref a2), .val (.ref a3), .val .null, .val (.int (1 : Int32))] []))
  refine own_leafV X13 hx hlk Bd.returns (hb hby d2_100) (by decide) (by decide) ?_
  show Q2_1 Z a1 k2 x0 h0 n0 _ T13.heap _
  rw [show T13.heap = h13 from e13]
  refine ⟨b7, rfl, N13, ⟨K13, (Exa.keep E_a1 K13), (Fld.other W13 (Fld.other W12 (Fld.ext E10 F9) (Or.inr (slot_ne (Or.inr (hw _ (List.mem_of_getElem? (i := 26) rfl))) (Or.inr (hw _ (List.mem_of_getElem? (i := 34) rfl))) (by decide) (t := (.array .int)) (t' := (.array .double)) (by decide) (by decide)))) (Or.inr (slot_ne (Or.inr (hw _ (List.mem_of_getElem? (i := 26) rfl))) (Or.inr (hw _ (List.mem_of_getElem? (i := 36) rfl))) (by decide) (t := (.array .int)) (t' := (.object "java/util/Optional")) (by decide) (by decide)))), (Arv.other (Arv.other (Arv.ext (Arv.other V7 W9 (Ne.symm (Nat.ne_of_lt (Nat.lt_of_lt_of_le E_a1.lt (Nat.le_of_eq g7.symm))))) E10) W12 (Ne.symm (Nat.ne_of_lt (Nat.lt_of_lt_of_le E_a1.lt (Nat.le_of_eq g7.symm))))) W13 (Ne.symm (Nat.ne_of_lt (Nat.lt_of_lt_of_le E_a1.lt (Nat.le_of_eq g7.symm)))))⟩⟩
theorem ef_rm4_1_1 (m : MethodId) (x0 : Addr) : entryFrame m #[(.ref x0), (.int (1 : Int32))] 2 = mkF m 0 #[.val (.ref x0), .val (.int (1 : Int32))] [] := by first | (simp [entryFrame, mkF, argsToLocals, Value.category]; done) | rfl
theorem d4_0 : decode prog_88_method_6_code 0 = .ok (.iload_n 1, 1) := by decide +kernel
theorem d4_1 : decode prog_88_method_6_code 1 = .ok (.aload_n 0, 1) := by decide +kernel
theorem d4_2 : decode prog_88_method_6_code 2 = .ok (.getfield 23, 3) := by decide +kernel
theorem d4_5 : decode prog_88_method_6_code 5 = .ok (.arraylength, 1) := by decide +kernel
theorem d4_6 : decode prog_88_method_6_code 6 = .ok (.if_icmp .ge 23, 3) := by decide +kernel
theorem d4_29 : decode prog_88_method_6_code 29 = .ok (.ldc2_w 40, 3) := by decide +kernel
theorem d4_32 : decode prog_88_method_6_code 32 = .ok (.dreturn, 1) := by decide +kernel
def Q4_1_1 (Z : State)  (h0 : Heap) (n0 : Nat) (v : Option Value) (h : Heap) (L : List Loc) : Prop := v = some (.double (9221120237041090560 : UInt64)) ∧ Fr n0 L ∧ h = h0
set_option maxRecDepth 65536 in
set_option maxHeartbeats 40000000 in
theorem rm4_1_1 (l : Launch) (Z : State) (a0 : Array Value) (hw : ∀ d ∈ tables_1, d.before a0 Z = true) (ws : List Jvm.Cond) (a1 : Addr) (a2 : Addr) (k2 : ClassId) (x0 : Int32) (h0 : Heap) (n0 : Nat) (Z0 : n0 ≤ h0.size) (E_a1 : Exa Z h0 a1 "com/example/ramification/ramification/model/StrahlerOrders") (F_branches_a1 : Fld Z h0 a1 "com/example/ramification/ramification/model/StrahlerOrders" "branches" "[I" (.ref a2)) (V_a2 : Arv Z h0 a2 k2 .int (1 : Int32) [(.int x0)] (.int (0 : Int32))) :
    MetFree l (⟨"com/example/ramification/ramification/model/StrahlerOrders", "getBifurcationRatio", "(I)D"⟩ : MethodName) (head1 (Jvm.Cond.code (⟨"com/example/ramification/ramification/model/StrahlerOrders", "getBifurcationRatio", "(I)D"⟩ : MethodName) prog_88_method_6_code 2 (some .double) :: ws) ({ frames := 0, cells := 0, slots := 0, locals := 0 } : Room)) (fun a U => a = #[(.ref a1), (.int (1 : Int32))] ∧ Z.Warmed39 U.vm ∧ U.heap = h0) (fun _ _ _ _ _ => True) (fun _ U o U' => ∃ v L, o = .returned v ∧ Q4_1_1 Z  h0 n0 v U'.heap L ∧ FrameEnd U o U' L ({ frames := 0, cells := 0, slots := 0, locals := 0 } : Room).cells ({ frames := 0, cells := 0, slots := 0, locals := 0 } : Room).slots) := by
  refine MetFree.of_bodySF (plainFor_of_name pn_com_example_ramification_ramification_model_StrahlerOrders) hisR ?_
  intro p e s m args below meth c s₁ Bd hml0 hP hK
  obtain ⟨rfl, hZ, hh⟩ := hP
  have hx := Bd.exec
  have hby := Bd.bytes
  have hlk := BodyLoose.notSynchronized Bd
  have hml : c.maxLocals = 2 := hml0
  have hown : s.vm.findClass "com/example/ramification/ramification/model/StrahlerOrders" = some m.cls := findClass_of_methodNamed Bd.named
  have hnm := (name_of_methodNamed Bd.named Bd.method).1
  have X0 : Stand p l e ({ frames := 0, cells := 0, slots := 0, locals := 0 } : Room) s m #[(.ref a1), (.int (1 : Int32))] below meth c s₁ [] 0 0 := Stand.of_body Bd
  have e0 : s₁.heap = h0 := by rw [← hh, Bd.state]; rfl
  have N0 := Fr.nil n0
  refine OwnR.of (s := s) (Q := Q4_1_1 Z  h0 n0) (fun t k => castTop (ef_rm4_1_1 m a1) k) ?_
  show OwnR _ _ _ _ _ _ _ (s₁.setTop (mkF m 0 #[.val (.ref a1), .val (.int (1 : Int32))] []))
  refine OwnR.of (fun _ hr => XS.iloadN X0.here hx rfl (hb hby d4_0) rfl hr) ?_
  show OwnR _ _ _ _ _ _ _ (s₁.setTop (mkF m 1 #[.val (.ref a1), .val (.int (1 : Int32))] [(.int (1 : Int32))]))
  refine OwnR.of (fun _ hr => XS.aloadN X0.here hx rfl (hb hby d4_1) rfl rfl hr) ?_
  show OwnR _ _ _ _ _ _ _ (s₁.setTop (mkF m 2 #[.val (.ref a1), .val (.int (1 : Int32))] [(.ref a1), (.int (1 : Int32))]))
  obtain ⟨T1, X1, e1, st1⟩ := getF X0 hx hZ hown (host := "") (Or.inl (hw _ (List.mem_of_getElem? (i := 25) rfl))) Via.refl e0 F_branches_a1 (g := (mkF m 2 #[.val (.ref a1), .val (.int (1 : Int32))] [(.ref a1), (.int (1 : Int32))])) rfl rfl (hb hby d4_2)
  refine OwnR.of (st1) ?_
  show OwnR _ _ _ _ _ _ _ (T1.setTop (mkF m 5 #[.val (.ref a1), .val (.int (1 : Int32))] [(.ref a2), (.int (1 : Int32))]))
  obtain ⟨cl2, Ar2, -, S2, N2, -, -⟩ := id V_a2
  refine OwnR.of (X1.arraylength hx (by rw [e1]; exact Ar2.1) (State.isArrayOf_alike hZ.alike Ar2.2.1) (g := (mkF m 5 #[.val (.ref a1), .val (.int (1 : Int32))] [(.ref a2), (.int (1 : Int32))])) rfl rfl (hb hby d4_5)) ?_
  show OwnR _ _ _ _ _ _ _ (T1.setTop (mkF m 6 #[.val (.ref a1), .val (.int (1 : Int32))] [(.int cl2.slots.size.toInt32), (.int (1 : Int32))]))
  rw [len_of S2 N2]
  show OwnR _ _ _ _ _ _ _ (T1.setTop (mkF m 6 #[.val (.ref a1), .val (.int (1 : Int32))] [(.int (1 : Int32)), (.int (1 : Int32))]))
  refine OwnR.of (fun _ hr => XS.icmpYes X1.here hx rfl (pc0 := 6) (pc' := 29) rfl (hb hby d4_6) rfl (flt (by decide : ¬ ((1 : Int32) < (1 : Int32)))).2.1 (by decide) (by decide) hr) ?_
  show OwnR _ _ _ _ _ _ _ (T1.setTop (mkF m 29 #[.val (.ref a1), .val (.int (1 : Int32))] []))
  refine OwnR.of (X1.ldc2DoubleC hx hown (mvT hZ (hw _ (List.mem_of_getElem? (i := 42) rfl))) (g := (mkF m 29 #[.val (.ref a1), .val (.int (1 : Int32))] [])) rfl (hb hby d4_29)) ?_
  show OwnR _ _ _ _ _ _ _ (T1.setTop (mkF m 32 #[.val (.ref a1), .val (.int (1 : Int32))] [(.double (9221120237041090560 : UInt64))]))
  refine own_leafD X1 hx hlk Bd.returns (hb hby d4_32) (by decide) (by decide) ?_
  show Q4_1_1 Z  h0 n0 _ T1.heap _
  rw [show T1.heap = h0 from e1]
  refine ⟨?_, N0, rfl⟩
  show (some (.double (9221120237041090560 : UInt64)) : Option Value) = some (.double (9221120237041090560 : UInt64))
  rfl
theorem ef_rm2_2 (m : MethodId) (x0 : Addr) (x1 : Addr) (x2 : Addr) : entryFrame m #[(.ref x0), (.ref x1), (.ref x2), .null] 5 = mkF m 0 #[.val (.ref x0), .val (.ref x1), .val (.ref x2), .val .null, .unset] [] := by first | (simp [entryFrame, mkF, argsToLocals, Value.category]; done) | rfl
def Q2_2 (Z : State) (a1 : Addr) (k2 : ClassId) (x0 : Int32) (x1 : Int32) (h0 : Heap) (n0 : Nat) (v : Option Value) (h : Heap) (L : List Loc) : Prop := ∃ (bI : Addr), v = none ∧ Fr n0 L ∧ Keep h0 h [a1] ∧ Exa Z h a1 "com/example/ramification/ramification/model/StrahlerOrders" ∧ Fld Z h a1 "com/example/ramification/ramification/model/StrahlerOrders" "branches" "[I" (.ref bI) ∧ Arv Z h bI k2 .int (2 : Int32) [(.int x0), (.int x1)] (.int (0 : Int32))
set_option maxRecDepth 65536 in
set_option maxHeartbeats 40000000 in
theorem rm2_2 (l : Launch) (Z : State) (a0 : Array Value) (hw : ∀ d ∈ tables_1, d.before a0 Z = true) (ws : List Jvm.Cond) (a1 : Addr) (a2 : Addr) (a3 : Addr) (k2 k3 : ClassId) (x0 x1 : Int32) (h0 : Heap) (n0 : Nat) (Z0 : n0 ≤ h0.size) (E_a1 : Exa Z h0 a1 "com/example/ramification/ramification/model/StrahlerOrders") (F_branches_a1 : Fld Z h0 a1 "com/example/ramification/ramification/model/StrahlerOrders" "branches" "[I" .null) (F_lengths_a1 : Fld Z h0 a1 "com/example/ramification/ramification/model/StrahlerOrders" "lengths" "[D" .null) (F_unit_a1 : Fld Z h0 a1 "com/example/ramification/ramification/model/StrahlerOrders" "unit" "Ljava/util/Optional;" .null) (V_a2 : Arv Z h0 a2 k2 .int (2 : Int32) [(.int x0), (.int x1)] (.int (0 : Int32))) (V_a3 : Arv Z h0 a3 k3 .double (2 : Int32) [(.double (0 : UInt64)), (.double (0 : UInt64))] (.double (0 : UInt64))) (E_a2 : Exa Z h0 a2 "[I") (E_a3 : Exa Z h0 a3 "[D") (g_a1 : n0 ≤ a1) (ne_12 : a1 ≠ a2) (ne_13 : a1 ≠ a3) (hx0 : ¬ (x0 < (1 : Int32))) (hx1 : ¬ (x1 < (1 : Int32))) :
    MetFree l (⟨"com/example/ramification/ramification/model/StrahlerOrders", "<init>", "([I[DLjava/util/Optional;)V"⟩ : MethodName) (head1 (Jvm.Cond.code (⟨"com/example/ramification/ramification/model/StrahlerOrders", "<init>", "([I[DLjava/util/Optional;)V"⟩ : MethodName) prog_88_method_1_code 5 none :: ws) ({ frames := 1, cells := 2, slots := 4, locals := 18 } : Room)) (fun a U => a = #[(.ref a1), (.ref a2), (.ref a3), .null] ∧ Z.Warmed39 U.vm ∧ U.heap = h0) (fun _ _ _ _ _ => True) (fun _ U o U' => ∃ v L, o = .returned v ∧ Q2_2 Z a1 k2 x0 x1 h0 n0 v U'.heap L ∧ FrameEnd U o U' L ({ frames := 1, cells := 2, slots := 4, locals := 18 } : Room).cells ({ frames := 1, cells := 2, slots := 4, locals := 18 } : Room).slots) := by
  refine MetFree.of_bodySF (plainFor_of_name pn_com_example_ramification_ramification_model_StrahlerOrders) hisR ?_
  intro p e s m args below meth c s₁ Bd hml0 hP hK
  obtain ⟨rfl, hZ, hh⟩ := hP
  have hx := Bd.exec
  have hby := Bd.bytes
  have hlk := BodyLoose.notSynchronized Bd
  have hml : c.maxLocals = 5 := hml0
  have hown : s.vm.findClass "com/example/ramification/ramification/model/StrahlerOrders" = some m.cls := findClass_of_methodNamed Bd.named
  have hnm := (name_of_methodNamed Bd.named Bd.method).1
  have X0 : Stand p l e ({ frames := 1, cells := 2, slots := 4, locals := 18 } : Room) s m #[(.ref a1), (.ref a2), (.ref a3), .null] below meth c s₁ [] 0 0 := Stand.of_body Bd
  have e0 : s₁.heap = h0 := by rw [← hh, Bd.state]; rfl
  have N0 := Fr.nil n0
  refine OwnR.of (s := s) (Q := Q2_2 Z a1 k2 x0 x1 h0 n0) (fun t k => castTop (ef_rm2_2 m a1 a2 a3) k) ?_
  show OwnR _ _ _ _ _ _ _ (s₁.setTop (mkF m 0 #[.val (.ref a1), .val (.ref a2), .val (.ref a3), .val .null, .unset] []))
  refine OwnR.of (fun _ hr => XS.aloadN X0.here hx rfl (hb hby d2_0) rfl rfl hr) ?_
  show OwnR _ _ _ _ _ _ _ (s₁.setTop (mkF m 1 #[.val (.ref a1), .val (.ref a2), .val (.ref a3), .val .null, .unset] [(.ref a1)]))
  obtain ⟨T1, X1, e1, st1⟩ := initO X0 hx hZ hown (hw _ (List.mem_of_getElem? (i := 13) rfl)) (hw _ (List.mem_of_getElem? (i := 14) rfl)) (hw _ (List.mem_of_getElem? (i := 15) rfl)) e0 (g := (mkF m 1 #[.val (.ref a1), .val (.ref a2), .val (.ref a3), .val .null, .unset] [(.ref a1)])) rfl (by rw [hml]; rfl) rfl (hb hby d2_1) (by decide) (W := 0) (by show 2 * 0 + _ ≤ _; exact Nat.le_of_eq rfl) (by decide)
  refine OwnR.of (st1) ?_
  show OwnR _ _ _ _ _ _ _ (T1.setTop (mkF m 4 #[.val (.ref a1), .val (.ref a2), .val (.ref a3), .val .null, .unset] []))
  refine OwnR.of (fun _ hr => XS.aloadN X1.here hx rfl (hb hby d2_4) rfl rfl hr) ?_
  show OwnR _ _ _ _ _ _ _ (T1.setTop (mkF m 5 #[.val (.ref a1), .val (.ref a2), .val (.ref a3), .val .null, .unset] [(.ref a2)]))
  obtain ⟨cl2, Ar2, -, S2, N2, -, -⟩ := id V_a2
  refine OwnR.of (X1.arraylength hx (by rw [e1]; exact Ar2.1) (State.isArrayOf_alike hZ.alike Ar2.2.1) (g := (mkF m 5 #[.val (.ref a1), .val (.ref a2), .val (.ref a3), .val .null, .unset] [(.ref a2)])) rfl rfl (hb hby d2_5)) ?_
  show OwnR _ _ _ _ _ _ _ (T1.setTop (mkF m 6 #[.val (.ref a1), .val (.ref a2), .val (.ref a3), .val .null, .unset] [(.int cl2.slots.size.toInt32)]))
  rw [len_of S2 N2]
  show OwnR _ _ _ _ _ _ _ (T1.setTop (mkF m 6 #[.val (.ref a1), .val (.ref a2), .val (.ref a3), .val .null, .unset] [(.int (2 : Int32))]))
  refine OwnR.of (fun _ hr => XS.aloadN X1.here hx rfl (hb hby d2_6) rfl rfl hr) ?_
  show OwnR _ _ _ _ _ _ _ (T1.setTop (mkF m 7 #[.val (.ref a1), .val (.ref a2), .val (.ref a3), .val .null, .unset] [(.ref a3), (.int (2 : Int32))]))
  obtain ⟨cl3, Ar3, -, S3, N3, -, -⟩ := id V_a3
  refine OwnR.of (X1.arraylength hx (by rw [e1]; exact Ar3.1) (State.isArrayOf_alike hZ.alike Ar3.2.1) (g := (mkF m 7 #[.val (.ref a1), .val (.ref a2), .val (.ref a3), .val .null, .unset] [(.ref a3), (.int (2 : Int32))])) rfl rfl (hb hby d2_7)) ?_
  show OwnR _ _ _ _ _ _ _ (T1.setTop (mkF m 8 #[.val (.ref a1), .val (.ref a2), .val (.ref a3), .val .null, .unset] [(.int cl3.slots.size.toInt32), (.int (2 : Int32))]))
  rw [len_of S3 N3]
  show OwnR _ _ _ _ _ _ _ (T1.setTop (mkF m 8 #[.val (.ref a1), .val (.ref a2), .val (.ref a3), .val .null, .unset] [(.int (2 : Int32)), (.int (2 : Int32))]))
  refine OwnR.of (fun _ hr => XS.icmpYes X1.here hx rfl (pc0 := 8) (pc' := 28) rfl (hb hby d2_8) rfl (teq (by decide : (2 : Int32) = (2 : Int32))).1 (by decide) (by decide) hr) ?_
  show OwnR _ _ _ _ _ _ _ (T1.setTop (mkF m 28 #[.val (.ref a1), .val (.ref a2), .val (.ref a3), .val .null, .unset] []))
  refine OwnR.of (fun _ hr => XS.iconst X1.here hx rfl (hb hby d2_28) hr) ?_
  show OwnR _ _ _ _ _ _ _ (T1.setTop (mkF m 29 #[.val (.ref a1), .val (.ref a2), .val (.ref a3), .val .null, .unset] [(.int (0 : Int32))]))
  refine OwnR.of (fun _ hr => XS.istore X1.here hx rfl (hb hby d2_29) rfl (l' := #[.val (.ref a1), .val (.ref a2), .val (.ref a3), .val .null, .val (.int (0 : Int32))]) rfl hr) ?_
  show OwnR _ _ _ _ _ _ _ (T1.setTop (mkF m 31 #[.val (.ref a1), .val (.ref a2), .val (.ref a3), .val .null, .val (.int (0 : Int32))] []))
  refine OwnR.of (fun _ hr => XS.iload X1.here hx rfl (hb hby d2_31) rfl hr) ?_
  show OwnR _ _ _ _ _ _ _ (T1.setTop (mkF m 33 #[.val (.ref a1), .val (.ref a2), .val (.ref a3), .val .null, .val (.int (0 : Int32))] [(.int (0 : Int32))]))
  refine OwnR.of (fun _ hr => XS.aloadN X1.here hx rfl (hb hby d2_33) rfl rfl hr) ?_
  show OwnR _ _ _ _ _ _ _ (T1.setTop (mkF m 34 #[.val (.ref a1), .val (.ref a2), .val (.ref a3), .val .null, .val (.int (0 : Int32))] [(.ref a2), (.int (0 : Int32))]))
  obtain ⟨cl4, Ar4, -, S4, N4, -, -⟩ := id V_a2
  refine OwnR.of (X1.arraylength hx (by rw [e1]; exact Ar4.1) (State.isArrayOf_alike hZ.alike Ar4.2.1) (g := (mkF m 34 #[.val (.ref a1), .val (.ref a2), .val (.ref a3), .val .null, .val (.int (0 : Int32))] [(.ref a2), (.int (0 : Int32))])) rfl rfl (hb hby d2_34)) ?_
  show OwnR _ _ _ _ _ _ _ (T1.setTop (mkF m 35 #[.val (.ref a1), .val (.ref a2), .val (.ref a3), .val .null, .val (.int (0 : Int32))] [(.int cl4.slots.size.toInt32), (.int (0 : Int32))]))
  rw [len_of S4 N4]
  show OwnR _ _ _ _ _ _ _ (T1.setTop (mkF m 35 #[.val (.ref a1), .val (.ref a2), .val (.ref a3), .val .null, .val (.int (0 : Int32))] [(.int (2 : Int32)), (.int (0 : Int32))]))
  refine OwnR.of (fun _ hr => XS.icmpNo X1.here hx rfl (hb hby d2_35) rfl (tlt (by decide : (0 : Int32) < (2 : Int32))).2.1 hr) ?_
  show OwnR _ _ _ _ _ _ _ (T1.setTop (mkF m 38 #[.val (.ref a1), .val (.ref a2), .val (.ref a3), .val .null, .val (.int (0 : Int32))] []))
  refine OwnR.of (fun _ hr => XS.aloadN X1.here hx rfl (hb hby d2_38) rfl rfl hr) ?_
  show OwnR _ _ _ _ _ _ _ (T1.setTop (mkF m 39 #[.val (.ref a1), .val (.ref a2), .val (.ref a3), .val .null, .val (.int (0 : Int32))] [(.ref a2)]))
  refine OwnR.of (fun _ hr => XS.iload X1.here hx rfl (hb hby d2_39) rfl hr) ?_
  show OwnR _ _ _ _ _ _ _ (T1.setTop (mkF m 41 #[.val (.ref a1), .val (.ref a2), .val (.ref a3), .val .null, .val (.int (0 : Int32))] [(.int (0 : Int32)), (.ref a2)]))
  obtain ⟨cl5, Ar5, -, S5, N5, H5, G5⟩ := id V_a2
  have hin5 : ¬ ((0 : Int32) < 0 ∨ cl5.slots.size ≤ ((0 : Int32)).toNatClampNeg) := (inb_of S5 ⟨by decide, by decide⟩)
  refine OwnR.of (X1.iaload hx (j := (0 : Int32)) (v := (.int x0)) (by rw [e1]; exact Ar5.1) (State.isArrayOf_alike hZ.alike Ar5.2.1) Ar5.2.2 hin5 (Has.at H5 hin5 rfl) (g := (mkF m 41 #[.val (.ref a1), .val (.ref a2), .val (.ref a3), .val .null, .val (.int (0 : Int32))] [(.int (0 : Int32)), (.ref a2)])) rfl rfl (hb hby d2_41)) ?_
  show OwnR _ _ _ _ _ _ _ (T1.setTop (mkF m 42 #[.val (.ref a1), .val (.ref a2), .val (.ref a3), .val .null, .val (.int (0 : Int32))] [(.int x0)]))
  refine OwnR.of (fun _ hr => XS.iconst X1.here hx rfl (hb hby d2_42) hr) ?_
  show OwnR _ _ _ _ _ _ _ (T1.setTop (mkF m 43 #[.val (.ref a1), .val (.ref a2), .val (.ref a3), .val .null, .val (.int (0 : Int32))] [(.int (1 : Int32)), (.int x0)]))
  refine OwnR.of (fun _ hr => XS.icmpYes X1.here hx rfl (pc0 := 43) (pc' := 67) rfl (hb hby d2_43) rfl (flt hx0).2.1 (by decide) (by decide) hr) ?_
  show OwnR _ _ _ _ _ _ _ (T1.setTop (mkF m 67 #[.val (.ref a1), .val (.ref a2), .val (.ref a3), .val .null, .val (.int (0 : Int32))] []))
  refine OwnR.of (fun _ hr => XS.iinc X1.here hx rfl (hb hby d2_67) rfl (l' := #[.val (.ref a1), .val (.ref a2), .val (.ref a3), .val .null, .val (.int ((0 : Int32) + (1 : Int32)))]) rfl hr) ?_
  show OwnR _ _ _ _ _ _ _ (T1.setTop (mkF m 70 #[.val (.ref a1), .val (.ref a2), .val (.ref a3), .val .null, .val (.int ((0 : Int32) + (1 : Int32)))] []))
  rw [(by decide : ((0 : Int32) + (1 : Int32)) = (1 : Int32))]
  show OwnR _ _ _ _ _ _ _ (T1.setTop (mkF m 70 #[.val (.ref a1), .val (.ref a2), .val (.ref a3), .val .null, .val (.int (1 : Int32))] []))
  refine OwnR.of (fun _ hr => XS.goto X1.here hx rfl (pc0 := 70) (pc' := 31) rfl (hb hby d2_70) (by decide) (by decide) hr) ?_
  show OwnR _ _ _ _ _ _ _ (T1.setTop (mkF m 31 #[.val (.ref a1), .val (.ref a2), .val (.ref a3), .val .null, .val (.int (1 : Int32))] []))
  refine OwnR.of (fun _ hr => XS.iload X1.here hx rfl (hb hby d2_31) rfl hr) ?_
  show OwnR _ _ _ _ _ _ _ (T1.setTop (mkF m 33 #[.val (.ref a1), .val (.ref a2), .val (.ref a3), .val .null, .val (.int (1 : Int32))] [(.int (1 : Int32))]))
  refine OwnR.of (fun _ hr => XS.aloadN X1.here hx rfl (hb hby d2_33) rfl rfl hr) ?_
  show OwnR _ _ _ _ _ _ _ (T1.setTop (mkF m 34 #[.val (.ref a1), .val (.ref a2), .val (.ref a3), .val .null, .val (.int (1 : Int32))] [(.ref a2), (.int (1 : Int32))]))
  obtain ⟨cl6, Ar6, -, S6, N6, -, -⟩ := id V_a2
  refine OwnR.of (X1.arraylength hx (by rw [e1]; exact Ar6.1) (State.isArrayOf_alike hZ.alike Ar6.2.1) (g := (mkF m 34 #[.val (.ref a1), .val (.ref a2), .val (.ref a3), .val .null, .val (.int (1 : Int32))] [(.ref a2), (.int (1 : Int32))])) rfl rfl (hb hby d2_34)) ?_
  show OwnR _ _ _ _ _ _ _ (T1.setTop (mkF m 35 #[.val (.ref a1), .val (.ref a2), .val (.ref a3), .val .null, .val (.int (1 : Int32))] [(.int cl6.slots.size.toInt32), (.int (1 : Int32))]))
  rw [len_of S6 N6]
  show OwnR _ _ _ _ _ _ _ (T1.setTop (mkF m 35 #[.val (.ref a1), .val (.ref a2), .val (.ref a3), .val .null, .val (.int (1 : Int32))] [(.int (2 : Int32)), (.int (1 : Int32))]))
  refine OwnR.of (fun _ hr => XS.icmpNo X1.here hx rfl (hb hby d2_35) rfl (tlt (by decide : (1 : Int32) < (2 : Int32))).2.1 hr) ?_
  show OwnR _ _ _ _ _ _ _ (T1.setTop (mkF m 38 #[.val (.ref a1), .val (.ref a2), .val (.ref a3), .val .null, .val (.int (1 : Int32))] []))
  refine OwnR.of (fun _ hr => XS.aloadN X1.here hx rfl (hb hby d2_38) rfl rfl hr) ?_
  show OwnR _ _ _ _ _ _ _ (T1.setTop (mkF m 39 #[.val (.ref a1), .val (.ref a2), .val (.ref a3), .val .null, .val (.int (1 : Int32))] [(.ref a2)]))
  refine OwnR.of (fun _ hr => XS.iload X1.here hx rfl (hb hby d2_39) rfl hr) ?_
  show OwnR _ _ _ _ _ _ _ (T1.setTop (mkF m 41 #[.val (.ref a1), .val (.ref a2), .val (.ref a3), .val .null, .val (.int (1 : Int32))] [(.int (1 : Int32)), (.ref a2)]))
  obtain ⟨cl7, Ar7, -, S7, N7, H7, G7⟩ := id V_a2
  have hin7 : ¬ ((1 : Int32) < 0 ∨ cl7.slots.size ≤ ((1 : Int32)).toNatClampNeg) := (inb_of S7 ⟨by decide, by decide⟩)
  refine OwnR.of (X1.iaload hx (j := (1 : Int32)) (v := (.int x1)) (by rw [e1]; exact Ar7.1) (State.isArrayOf_alike hZ.alike Ar7.2.1) Ar7.2.2 hin7 (Has.at H7 hin7 rfl) (g := (mkF m 41 #[.val (.ref a1), .val (.ref a2), .val (.ref a3), .val .null, .val (.int (1 : Int32))] [(.int (1 : Int32)), (.ref a2)])) rfl rfl (hb hby d2_41)) ?_
  show OwnR _ _ _ _ _ _ _ (T1.setTop (mkF m 42 #[.val (.ref a1), .val (.ref a2), .val (.ref a3), .val .null, .val (.int (1 : Int32))] [(.int x1)]))
  refine OwnR.of (fun _ hr => XS.iconst X1.here hx rfl (hb hby d2_42) hr) ?_
  show OwnR _ _ _ _ _ _ _ (T1.setTop (mkF m 43 #[.val (.ref a1), .val (.ref a2), .val (.ref a3), .val .null, .val (.int (1 : Int32))] [(.int (1 : Int32)), (.int x1)]))
  refine OwnR.of (fun _ hr => XS.icmpYes X1.here hx rfl (pc0 := 43) (pc' := 67) rfl (hb hby d2_43) rfl (flt hx1).2.1 (by decide) (by decide) hr) ?_
  show OwnR _ _ _ _ _ _ _ (T1.setTop (mkF m 67 #[.val (.ref a1), .val (.ref a2), .val (.ref a3), .val .null, .val (.int (1 : Int32))] []))
  refine OwnR.of (fun _ hr => XS.iinc X1.here hx rfl (hb hby d2_67) rfl (l' := #[.val (.ref a1), .val (.ref a2), .val (.ref a3), .val .null, .val (.int ((1 : Int32) + (1 : Int32)))]) rfl hr) ?_
  show OwnR _ _ _ _ _ _ _ (T1.setTop (mkF m 70 #[.val (.ref a1), .val (.ref a2), .val (.ref a3), .val .null, .val (.int ((1 : Int32) + (1 : Int32)))] []))
  rw [(by decide : ((1 : Int32) + (1 : Int32)) = (2 : Int32))]
  show OwnR _ _ _ _ _ _ _ (T1.setTop (mkF m 70 #[.val (.ref a1), .val (.ref a2), .val (.ref a3), .val .null, .val (.int (2 : Int32))] []))
  refine OwnR.of (fun _ hr => XS.goto X1.here hx rfl (pc0 := 70) (pc' := 31) rfl (hb hby d2_70) (by decide) (by decide) hr) ?_
  show OwnR _ _ _ _ _ _ _ (T1.setTop (mkF m 31 #[.val (.ref a1), .val (.ref a2), .val (.ref a3), .val .null, .val (.int (2 : Int32))] []))
  refine OwnR.of (fun _ hr => XS.iload X1.here hx rfl (hb hby d2_31) rfl hr) ?_
  show OwnR _ _ _ _ _ _ _ (T1.setTop (mkF m 33 #[.val (.ref a1), .val (.ref a2), .val (.ref a3), .val .null, .val (.int (2 : Int32))] [(.int (2 : Int32))]))
  refine OwnR.of (fun _ hr => XS.aloadN X1.here hx rfl (hb hby d2_33) rfl rfl hr) ?_
  show OwnR _ _ _ _ _ _ _ (T1.setTop (mkF m 34 #[.val (.ref a1), .val (.ref a2), .val (.ref a3), .val .null, .val (.int (2 : Int32))] [(.ref a2), (.int (2 : Int32))]))
  obtain ⟨cl8, Ar8, -, S8, N8, -, -⟩ := id V_a2
  refine OwnR.of (X1.arraylength hx (by rw [e1]; exact Ar8.1) (State.isArrayOf_alike hZ.alike Ar8.2.1) (g := (mkF m 34 #[.val (.ref a1), .val (.ref a2), .val (.ref a3), .val .null, .val (.int (2 : Int32))] [(.ref a2), (.int (2 : Int32))])) rfl rfl (hb hby d2_34)) ?_
  show OwnR _ _ _ _ _ _ _ (T1.setTop (mkF m 35 #[.val (.ref a1), .val (.ref a2), .val (.ref a3), .val .null, .val (.int (2 : Int32))] [(.int cl8.slots.size.toInt32), (.int (2 : Int32))]))
  rw [len_of S8 N8]
  show OwnR _ _ _ _ _ _ _ (T1.setTop (mkF m 35 #[.val (.ref a1), .val (.ref a2), .val (.ref a3), .val .null, .val (.int (2 : Int32))] [(.int (2 : Int32)), (.int (2 : Int32))]))
  refine OwnR.of (fun _ hr => XS.icmpYes X1.here hx rfl (pc0 := 35) (pc' := 73) rfl (hb hby d2_35) rfl (flt (by decide : ¬ ((2 : Int32) < (2 : Int32)))).2.1 (by decide) (by decide) hr) ?_
  show OwnR _ _ _ _ _ _ _ (T1.setTop (mkF m 73 #[.val (.ref a1), .val (.ref a2), .val (.ref a3), .val .null, .val (.int (2 : Int32))] []))
  refine OwnR.of (fun _ hr => XS.aloadN X1.here hx rfl (hb hby d2_73) rfl rfl hr) ?_
  show OwnR _ _ _ _ _ _ _ (T1.setTop (mkF m 74 #[.val (.ref a1), .val (.ref a2), .val (.ref a3), .val .null, .val (.int (2 : Int32))] [(.ref a1)]))
  refine OwnR.of (fun _ hr => XS.aloadN X1.here hx rfl (hb hby d2_74) rfl rfl hr) ?_
  show OwnR _ _ _ _ _ _ _ (T1.setTop (mkF m 75 #[.val (.ref a1), .val (.ref a2), .val (.ref a3), .val .null, .val (.int (2 : Int32))] [(.ref a2), (.ref a1)]))
  obtain ⟨T9, h9, X9, e9, E9, V9, AE9, st9⟩ := cloneH X1 hx hZ hown (hw _ (List.mem_of_getElem? (i := 16) rfl)) (hw _ (List.mem_of_getElem? (i := 17) rfl)) (hw _ (List.mem_of_getElem? (i := 21) rfl)) (hw _ (List.mem_of_getElem? (i := 19) rfl)) (hw _ (List.mem_of_getElem? (i := 20) rfl)) (hw _ (List.mem_of_getElem? (i := 22) rfl)) e1 (Arv.arh V_a2) E_a2 (g := (mkF m 75 #[.val (.ref a1), .val (.ref a2), .val (.ref a3), .val .null, .val (.int (2 : Int32))] [(.ref a2), (.ref a1)])) rfl (by rw [hml]; rfl) rfl (hb hby d2_75) (by decide) (W := 1) (by show 2 * 0 + _ ≤ _; exact Nat.le_of_eq rfl) (by decide) (cap := 2) (by decide) (by decide) (by decide)
  obtain ⟨b9, g9⟩ : ∃ z, z = h0.size := ⟨_, rfl⟩
  rw [← g9] at V9 AE9 st9
  refine OwnR.of (st9) ?_
  have gn_b9 : n0 ≤ b9 := Nat.le_trans (Nat.le_trans Z0 (Keep.refl h0 [a1]).1) (Nat.le_of_eq g9.symm)
  have sz_b9 : h0.size ≤ b9 := Nat.le_trans (Keep.refl h0 [a1]).1 (Nat.le_of_eq g9.symm)
  have K9 : Keep h0 h9 [a1] := Keep.ext (Keep.refl h0 [a1]) E9
  have V9 : Arv Z h9 b9 k2 .int (2 : Int32) [(.int x0), (.int x1)] (.int (0 : Int32)) := V9
  show OwnR _ _ _ _ _ _ _ (T9.setTop (mkF m 78 #[.val (.ref a1), .val (.ref a2), .val (.ref a3), .val .null, .val (.int (2 : Int32))] [(.ref b9), (.ref a1)]))
  obtain ⟨T10, X10, e10, st10⟩ := castY X9 hx hZ hown (hw _ (List.mem_of_getElem? (i := 23) rfl)) e9 (Ins.self AE9) (g := (mkF m 78 #[.val (.ref a1), .val (.ref a2), .val (.ref a3), .val .null, .val (.int (2 : Int32))] [(.ref b9), (.ref a1)])) rfl rfl (hb hby d2_78)
  refine OwnR.of (st10) ?_
  show OwnR _ _ _ _ _ _ _ (T10.setTop (mkF m 81 #[.val (.ref a1), .val (.ref a2), .val (.ref a3), .val .null, .val (.int (2 : Int32))] [(.ref b9), (.ref a1)]))
  obtain ⟨T11, h11, X11, e11, W11, st11⟩ := putF X10 hx hZ hown (host := "") (Or.inl (hw _ (List.mem_of_getElem? (i := 25) rfl))) Via.refl e10 (Fld.ext E9 F_branches_a1) (Exa.keep E_a1 K9) (Or.inr ⟨(hw _ (List.mem_of_getElem? (i := 26) rfl)), rfl, hnm⟩) (hw _ (List.mem_of_getElem? (i := 6) rfl)) (ty := (.array .int)) (by decide) rfl rfl (g := (mkF m 81 #[.val (.ref a1), .val (.ref a2), .val (.ref a3), .val .null, .val (.int (2 : Int32))] [(.ref b9), (.ref a1)])) rfl rfl (hb hby d2_81)
  refine OwnR.of (st11) ?_
  have F11 := Fld.same W11 (Fld.ext E9 F_branches_a1)
  have K11 : Keep h0 h11 [a1] := Keep.wr K9 W11 (Or.inl (List.mem_of_getElem? (i := 0) rfl))
  have N11 := Fr.snoc X11 N0 g_a1
  show OwnR _ _ _ _ _ _ _ (T11.setTop (mkF m 84 #[.val (.ref a1), .val (.ref a2), .val (.ref a3), .val .null, .val (.int (2 : Int32))] []))
  refine OwnR.of (fun _ hr => XS.aloadN X11.here hx rfl (hb hby d2_84) rfl rfl hr) ?_
  show OwnR _ _ _ _ _ _ _ (T11.setTop (mkF m 85 #[.val (.ref a1), .val (.ref a2), .val (.ref a3), .val .null, .val (.int (2 : Int32))] [(.ref a1)]))
  refine OwnR.of (fun _ hr => XS.aloadN X11.here hx rfl (hb hby d2_85) rfl rfl hr) ?_
  show OwnR _ _ _ _ _ _ _ (T11.setTop (mkF m 86 #[.val (.ref a1), .val (.ref a2), .val (.ref a3), .val .null, .val (.int (2 : Int32))] [(.ref a3), (.ref a1)]))
  obtain ⟨T12, h12, X12, e12, E12, V12, AE12, st12⟩ := cloneH X11 hx hZ hown (hw _ (List.mem_of_getElem? (i := 27) rfl)) (hw _ (List.mem_of_getElem? (i := 28) rfl)) (hw _ (List.mem_of_getElem? (i := 21) rfl)) (hw _ (List.mem_of_getElem? (i := 19) rfl)) (hw _ (List.mem_of_getElem? (i := 29) rfl)) (hw _ (List.mem_of_getElem? (i := 30) rfl)) e11 (Arv.arh (Arv.keep V_a3 K11 (ninS (Ne.symm ne_13) nin0))) (Exa.keep E_a3 K11) (g := (mkF m 86 #[.val (.ref a1), .val (.ref a2), .val (.ref a3), .val .null, .val (.int (2 : Int32))] [(.ref a3), (.ref a1)])) rfl (by rw [hml]; rfl) rfl (hb hby d2_86) (by decide) (W := 1) (by show 2 * 0 + _ ≤ _; exact Nat.le_of_eq rfl) (by decide) (cap := 2) (by decide) (by decide) (by decide)
  obtain ⟨b12, g12⟩ : ∃ z, z = h11.size := ⟨_, rfl⟩
  rw [← g12] at V12 AE12 st12
  refine OwnR.of (st12) ?_
  have gn_b12 : n0 ≤ b12 := Nat.le_trans (Nat.le_trans Z0 K11.1) (Nat.le_of_eq g12.symm)
  have sz_b12 : h0.size ≤ b12 := Nat.le_trans K11.1 (Nat.le_of_eq g12.symm)
  have K12 : Keep h0 h12 [a1] := Keep.ext K11 E12
  have V12 : Arv Z h12 b12 k3 .double (2 : Int32) [(.double (0 : UInt64)), (.double (0 : UInt64))] (.double (0 : UInt64)) := V12
  show OwnR _ _ _ _ _ _ _ (T12.setTop (mkF m 89 #[.val (.ref a1), .val (.ref a2), .val (.ref a3), .val .null, .val (.int (2 : Int32))] [(.ref b12), (.ref a1)]))
  obtain ⟨T13, X13, e13, st13⟩ := castY X12 hx hZ hown (hw _ (List.mem_of_getElem? (i := 31) rfl)) e12 (Ins.self AE12) (g := (mkF m 89 #[.val (.ref a1), .val (.ref a2), .val (.ref a3), .val .null, .val (.int (2 : Int32))] [(.ref b12), (.ref a1)])) rfl rfl (hb hby d2_89)
  refine OwnR.of (st13) ?_
  show OwnR _ _ _ _ _ _ _ (T13.setTop (mkF m 92 #[.val (.ref a1), .val (.ref a2), .val (.ref a3), .val .null, .val (.int (2 : Int32))] [(.ref b12), (.ref a1)]))
  obtain ⟨T14, h14, X14, e14, W14, st14⟩ := putF X13 hx hZ hown (host := "") (Or.inl (hw _ (List.mem_of_getElem? (i := 33) rfl))) Via.refl e13 (Fld.ext E12 (Fld.other W11 (Fld.ext E9 F_lengths_a1) (Or.inr (slot_ne (Or.inr (hw _ (List.mem_of_getElem? (i := 34) rfl))) (Or.inr (hw _ (List.mem_of_getElem? (i := 26) rfl))) (by decide) (t := (.array .double)) (t' := (.array .int)) (by decide) (by decide))))) (Exa.keep E_a1 K12) (Or.inr ⟨(hw _ (List.mem_of_getElem? (i := 34) rfl)), rfl, hnm⟩) (hw _ (List.mem_of_getElem? (i := 6) rfl)) (ty := (.array .double)) (by decide) rfl rfl (g := (mkF m 92 #[.val (.ref a1), .val (.ref a2), .val (.ref a3), .val .null, .val (.int (2 : Int32))] [(.ref b12), (.ref a1)])) rfl rfl (hb hby d2_92)
  refine OwnR.of (st14) ?_
  have F14 := Fld.same W14 (Fld.ext E12 (Fld.other W11 (Fld.ext E9 F_lengths_a1) (Or.inr (slot_ne (Or.inr (hw _ (List.mem_of_getElem? (i := 34) rfl))) (Or.inr (hw _ (List.mem_of_getElem? (i := 26) rfl))) (by decide) (t := (.array .double)) (t' := (.array .int)) (by decide) (by decide)))))
  have K14 : Keep h0 h14 [a1] := Keep.wr K12 W14 (Or.inl (List.mem_of_getElem? (i := 0) rfl))
  have N14 := Fr.snoc X14 N11 g_a1
  show OwnR _ _ _ _ _ _ _ (T14.setTop (mkF m 95 #[.val (.ref a1), .val (.ref a2), .val (.ref a3), .val .null, .val (.int (2 : Int32))] []))
  refine OwnR.of (fun _ hr => XS.aloadN X14.here hx rfl (hb hby d2_95) rfl rfl hr) ?_
  show OwnR _ _ _ _ _ _ _ (T14.setTop (mkF m 96 #[.val (.ref a1), .val (.ref a2), .val (.ref a3), .val .null, .val (.int (2 : Int32))] [(.ref a1)]))
  refine OwnR.of (fun _ hr => XS.aloadN X14.here hx rfl (hb hby d2_96) rfl rfl hr) ?_
  show OwnR _ _ _ _ _ _ _ (T14.setTop (mkF m 97 #[.val (.ref a1), .val (.ref a2), .val (.ref a3), .val .null, .val (.int (2 : Int32))] [.null, (.ref a1)]))
  obtain ⟨T15, h15, X15, e15, W15, st15⟩ := putF X14 hx hZ hown (host := "") (Or.inl (hw _ (List.mem_of_getElem? (i := 35) rfl))) Via.refl e14 (Fld.other W14 (Fld.ext E12 (Fld.other W11 (Fld.ext E9 F_unit_a1) (Or.inr (slot_ne (Or.inr (hw _ (List.mem_of_getElem? (i := 36) rfl))) (Or.inr (hw _ (List.mem_of_getElem? (i := 26) rfl))) (by decide) (t := (.object "java/util/Optional")) (t' := (.array .int)) (by decide) (by decide))))) (Or.inr (slot_ne (Or.inr (hw _ (List.mem_of_getElem? (i := 36) rfl))) (Or.inr (hw _ (List.mem_of_getElem? (i := 34) rfl))) (by decide) (t := (.object "java/util/Optional")) (t' := (.array .double)) (by decide) (by decide)))) (Exa.keep E_a1 K14) (Or.inr ⟨(hw _ (List.mem_of_getElem? (i := 36) rfl)), rfl, hnm⟩) (hw _ (List.mem_of_getElem? (i := 6) rfl)) (ty := (.object "java/util/Optional")) (by decide) rfl rfl (g := (mkF m 97 #[.val (.ref a1), .val (.ref a2), .val (.ref a3), .val .null, .val (.int (2 : Int32))] [.null, (.ref a1)])) rfl rfl (hb hby d2_97)
  refine OwnR.of (st15) ?_
  have F15 := Fld.same W15 (Fld.other W14 (Fld.ext E12 (Fld.other W11 (Fld.ext E9 F_unit_a1) (Or.inr (slot_ne (Or.inr (hw _ (List.mem_of_getElem? (i := 36) rfl))) (Or.inr (hw _ (List.mem_of_getElem? (i := 26) rfl))) (by decide) (t := (.object "java/util/Optional")) (t' := (.array .int)) (by decide) (by decide))))) (Or.inr (slot_ne (Or.inr (hw _ (List.mem_of_getElem? (i := 36) rfl))) (Or.inr (hw _ (List.mem_of_getElem? (i := 34) rfl))) (by decide) (t := (.object "java/util/Optional")) (t' := (.array .double)) (by decide) (by decide))))
  have K15 : Keep h0 h15 [a1] := Keep.wr K14 W15 (Or.inl (List.mem_of_getElem? (i := 0) rfl))
  have N15 := Fr.snoc X15 N14 g_a1
  show OwnR _ _ _ _ _ _ _ (T15.setTop (mkF m 100 #[.val (.ref a1), .val (.ref a2), .val (.ref a3), .val .null, .val (.int (2 : Int32))] []))
  refine own_leafV X15 hx hlk Bd.returns (hb hby d2_100) (by decide) (by decide) ?_
  show Q2_2 Z a1 k2 x0 x1 h0 n0 _ T15.heap _
  rw [show T15.heap = h15 from e15]
  refine ⟨b9, rfl, N15, ⟨K15, (Exa.keep E_a1 K15), (Fld.other W15 (Fld.other W14 (Fld.ext E12 F11) (Or.inr (slot_ne (Or.inr (hw _ (List.mem_of_getElem? (i := 26) rfl))) (Or.inr (hw _ (List.mem_of_getElem? (i := 34) rfl))) (by decide) (t := (.array .int)) (t' := (.array .double)) (by decide) (by decide)))) (Or.inr (slot_ne (Or.inr (hw _ (List.mem_of_getElem? (i := 26) rfl))) (Or.inr (hw _ (List.mem_of_getElem? (i := 36) rfl))) (by decide) (t := (.array .int)) (t' := (.object "java/util/Optional")) (by decide) (by decide)))), (Arv.other (Arv.other (Arv.ext (Arv.other V9 W11 (Ne.symm (Nat.ne_of_lt (Nat.lt_of_lt_of_le E_a1.lt (Nat.le_of_eq g9.symm))))) E12) W14 (Ne.symm (Nat.ne_of_lt (Nat.lt_of_lt_of_le E_a1.lt (Nat.le_of_eq g9.symm))))) W15 (Ne.symm (Nat.ne_of_lt (Nat.lt_of_lt_of_le E_a1.lt (Nat.le_of_eq g9.symm)))))⟩⟩
theorem ef_rm4_2_1 (m : MethodId) (x0 : Addr) : entryFrame m #[(.ref x0), (.int (1 : Int32))] 2 = mkF m 0 #[.val (.ref x0), .val (.int (1 : Int32))] [] := by first | (simp [entryFrame, mkF, argsToLocals, Value.category]; done) | rfl
theorem d4_9 : decode prog_88_method_6_code 9 = .ok (.aload_n 0, 1) := by decide +kernel
theorem d4_10 : decode prog_88_method_6_code 10 = .ok (.getfield 23, 3) := by decide +kernel
theorem d4_13 : decode prog_88_method_6_code 13 = .ok (.iload_n 1, 1) := by decide +kernel
theorem d4_14 : decode prog_88_method_6_code 14 = .ok (.iconst 1, 1) := by decide +kernel
theorem d4_15 : decode prog_88_method_6_code 15 = .ok (.isub, 1) := by decide +kernel
theorem d4_16 : decode prog_88_method_6_code 16 = .ok (.iaload, 1) := by decide +kernel
theorem d4_17 : decode prog_88_method_6_code 17 = .ok (.i2d, 1) := by decide +kernel
theorem d4_18 : decode prog_88_method_6_code 18 = .ok (.aload_n 0, 1) := by decide +kernel
theorem d4_19 : decode prog_88_method_6_code 19 = .ok (.getfield 23, 3) := by decide +kernel
theorem d4_22 : decode prog_88_method_6_code 22 = .ok (.iload_n 1, 1) := by decide +kernel
theorem d4_23 : decode prog_88_method_6_code 23 = .ok (.iaload, 1) := by decide +kernel
theorem d4_24 : decode prog_88_method_6_code 24 = .ok (.i2d, 1) := by decide +kernel
theorem d4_25 : decode prog_88_method_6_code 25 = .ok (.ddiv, 1) := by decide +kernel
theorem d4_26 : decode prog_88_method_6_code 26 = .ok (.goto 6, 3) := by decide +kernel
def Q4_2_1 (Z : State) (x0 : Int32) (x1 : Int32) (h0 : Heap) (n0 : Nat) (v : Option Value) (h : Heap) (L : List Loc) : Prop := v = some (.double (FP.ddiv (FP.i2d x0) (FP.i2d x1))) ∧ Fr n0 L ∧ h = h0
set_option maxRecDepth 65536 in
set_option maxHeartbeats 40000000 in
theorem rm4_2_1 (l : Launch) (Z : State) (a0 : Array Value) (hw : ∀ d ∈ tables_1, d.before a0 Z = true) (ws : List Jvm.Cond) (a1 : Addr) (a2 : Addr) (k2 : ClassId) (x0 x1 : Int32) (h0 : Heap) (n0 : Nat) (Z0 : n0 ≤ h0.size) (E_a1 : Exa Z h0 a1 "com/example/ramification/ramification/model/StrahlerOrders") (F_branches_a1 : Fld Z h0 a1 "com/example/ramification/ramification/model/StrahlerOrders" "branches" "[I" (.ref a2)) (V_a2 : Arv Z h0 a2 k2 .int (2 : Int32) [(.int x0), (.int x1)] (.int (0 : Int32))) (hxo : ¬ (x1 < (1 : Int32))) :
    MetFree l (⟨"com/example/ramification/ramification/model/StrahlerOrders", "getBifurcationRatio", "(I)D"⟩ : MethodName) (head1 (Jvm.Cond.code (⟨"com/example/ramification/ramification/model/StrahlerOrders", "getBifurcationRatio", "(I)D"⟩ : MethodName) prog_88_method_6_code 2 (some .double) :: ws) ({ frames := 0, cells := 0, slots := 0, locals := 0 } : Room)) (fun a U => a = #[(.ref a1), (.int (1 : Int32))] ∧ Z.Warmed39 U.vm ∧ U.heap = h0) (fun _ _ _ _ _ => True) (fun _ U o U' => ∃ v L, o = .returned v ∧ Q4_2_1 Z x0 x1 h0 n0 v U'.heap L ∧ FrameEnd U o U' L ({ frames := 0, cells := 0, slots := 0, locals := 0 } : Room).cells ({ frames := 0, cells := 0, slots := 0, locals := 0 } : Room).slots) := by
  refine MetFree.of_bodySF (plainFor_of_name pn_com_example_ramification_ramification_model_StrahlerOrders) hisR ?_
  intro p e s m args below meth c s₁ Bd hml0 hP hK
  obtain ⟨rfl, hZ, hh⟩ := hP
  have hx := Bd.exec
  have hby := Bd.bytes
  have hlk := BodyLoose.notSynchronized Bd
  have hml : c.maxLocals = 2 := hml0
  have hown : s.vm.findClass "com/example/ramification/ramification/model/StrahlerOrders" = some m.cls := findClass_of_methodNamed Bd.named
  have hnm := (name_of_methodNamed Bd.named Bd.method).1
  have X0 : Stand p l e ({ frames := 0, cells := 0, slots := 0, locals := 0 } : Room) s m #[(.ref a1), (.int (1 : Int32))] below meth c s₁ [] 0 0 := Stand.of_body Bd
  have e0 : s₁.heap = h0 := by rw [← hh, Bd.state]; rfl
  have N0 := Fr.nil n0
  refine OwnR.of (s := s) (Q := Q4_2_1 Z x0 x1 h0 n0) (fun t k => castTop (ef_rm4_2_1 m a1) k) ?_
  show OwnR _ _ _ _ _ _ _ (s₁.setTop (mkF m 0 #[.val (.ref a1), .val (.int (1 : Int32))] []))
  refine OwnR.of (fun _ hr => XS.iloadN X0.here hx rfl (hb hby d4_0) rfl hr) ?_
  show OwnR _ _ _ _ _ _ _ (s₁.setTop (mkF m 1 #[.val (.ref a1), .val (.int (1 : Int32))] [(.int (1 : Int32))]))
  refine OwnR.of (fun _ hr => XS.aloadN X0.here hx rfl (hb hby d4_1) rfl rfl hr) ?_
  show OwnR _ _ _ _ _ _ _ (s₁.setTop (mkF m 2 #[.val (.ref a1), .val (.int (1 : Int32))] [(.ref a1), (.int (1 : Int32))]))
  obtain ⟨T1, X1, e1, st1⟩ := getF X0 hx hZ hown (host := "") (Or.inl (hw _ (List.mem_of_getElem? (i := 25) rfl))) Via.refl e0 F_branches_a1 (g := (mkF m 2 #[.val (.ref a1), .val (.int (1 : Int32))] [(.ref a1), (.int (1 : Int32))])) rfl rfl (hb hby d4_2)
  refine OwnR.of (st1) ?_
  show OwnR _ _ _ _ _ _ _ (T1.setTop (mkF m 5 #[.val (.ref a1), .val (.int (1 : Int32))] [(.ref a2), (.int (1 : Int32))]))
  obtain ⟨cl2, Ar2, -, S2, N2, -, -⟩ := id V_a2
  refine OwnR.of (X1.arraylength hx (by rw [e1]; exact Ar2.1) (State.isArrayOf_alike hZ.alike Ar2.2.1) (g := (mkF m 5 #[.val (.ref a1), .val (.int (1 : Int32))] [(.ref a2), (.int (1 : Int32))])) rfl rfl (hb hby d4_5)) ?_
  show OwnR _ _ _ _ _ _ _ (T1.setTop (mkF m 6 #[.val (.ref a1), .val (.int (1 : Int32))] [(.int cl2.slots.size.toInt32), (.int (1 : Int32))]))
  rw [len_of S2 N2]
  show OwnR _ _ _ _ _ _ _ (T1.setTop (mkF m 6 #[.val (.ref a1), .val (.int (1 : Int32))] [(.int (2 : Int32)), (.int (1 : Int32))]))
  refine OwnR.of (fun _ hr => XS.icmpNo X1.here hx rfl (hb hby d4_6) rfl (tlt (by decide : (1 : Int32) < (2 : Int32))).2.1 hr) ?_
  show OwnR _ _ _ _ _ _ _ (T1.setTop (mkF m 9 #[.val (.ref a1), .val (.int (1 : Int32))] []))
  refine OwnR.of (fun _ hr => XS.aloadN X1.here hx rfl (hb hby d4_9) rfl rfl hr) ?_
  show OwnR _ _ _ _ _ _ _ (T1.setTop (mkF m 10 #[.val (.ref a1), .val (.int (1 : Int32))] [(.ref a1)]))
  obtain ⟨T3, X3, e3, st3⟩ := getF X1 hx hZ hown (host := "") (Or.inl (hw _ (List.mem_of_getElem? (i := 25) rfl))) Via.refl e1 F_branches_a1 (g := (mkF m 10 #[.val (.ref a1), .val (.int (1 : Int32))] [(.ref a1)])) rfl rfl (hb hby d4_10)
  refine OwnR.of (st3) ?_
  show OwnR _ _ _ _ _ _ _ (T3.setTop (mkF m 13 #[.val (.ref a1), .val (.int (1 : Int32))] [(.ref a2)]))
  refine OwnR.of (fun _ hr => XS.iloadN X3.here hx rfl (hb hby d4_13) rfl hr) ?_
  show OwnR _ _ _ _ _ _ _ (T3.setTop (mkF m 14 #[.val (.ref a1), .val (.int (1 : Int32))] [(.int (1 : Int32)), (.ref a2)]))
  refine OwnR.of (fun _ hr => XS.iconst X3.here hx rfl (hb hby d4_14) hr) ?_
  show OwnR _ _ _ _ _ _ _ (T3.setTop (mkF m 15 #[.val (.ref a1), .val (.int (1 : Int32))] [(.int (1 : Int32)), (.int (1 : Int32)), (.ref a2)]))
  refine OwnR.of (fun _ hr => XS.isub X3.here hx rfl (hb hby d4_15) rfl hr) ?_
  show OwnR _ _ _ _ _ _ _ (T3.setTop (mkF m 16 #[.val (.ref a1), .val (.int (1 : Int32))] [(.int ((1 : Int32) - (1 : Int32))), (.ref a2)]))
  rw [(by decide : ((1 : Int32) - (1 : Int32)) = (0 : Int32))]
  show OwnR _ _ _ _ _ _ _ (T3.setTop (mkF m 16 #[.val (.ref a1), .val (.int (1 : Int32))] [(.int (0 : Int32)), (.ref a2)]))
  obtain ⟨cl4, Ar4, -, S4, N4, H4, G4⟩ := id V_a2
  have hin4 : ¬ ((0 : Int32) < 0 ∨ cl4.slots.size ≤ ((0 : Int32)).toNatClampNeg) := (inb_of S4 ⟨by decide, by decide⟩)
  refine OwnR.of (X3.iaload hx (j := (0 : Int32)) (v := (.int x0)) (by rw [e3]; exact Ar4.1) (State.isArrayOf_alike hZ.alike Ar4.2.1) Ar4.2.2 hin4 (Has.at H4 hin4 rfl) (g := (mkF m 16 #[.val (.ref a1), .val (.int (1 : Int32))] [(.int (0 : Int32)), (.ref a2)])) rfl rfl (hb hby d4_16)) ?_
  show OwnR _ _ _ _ _ _ _ (T3.setTop (mkF m 17 #[.val (.ref a1), .val (.int (1 : Int32))] [(.int x0)]))
  refine OwnR.of (fun _ hr => XS.i2dS X3.here hx rfl (hb hby d4_17) rfl rfl hr) ?_
  show OwnR _ _ _ _ _ _ _ (T3.setTop (mkF m 18 #[.val (.ref a1), .val (.int (1 : Int32))] [(.double (FP.i2d x0))]))
  refine OwnR.of (fun _ hr => XS.aloadN X3.here hx rfl (hb hby d4_18) rfl rfl hr) ?_
  show OwnR _ _ _ _ _ _ _ (T3.setTop (mkF m 19 #[.val (.ref a1), .val (.int (1 : Int32))] [(.ref a1), (.double (FP.i2d x0))]))
  obtain ⟨T5, X5, e5, st5⟩ := getF X3 hx hZ hown (host := "") (Or.inl (hw _ (List.mem_of_getElem? (i := 25) rfl))) Via.refl e3 F_branches_a1 (g := (mkF m 19 #[.val (.ref a1), .val (.int (1 : Int32))] [(.ref a1), (.double (FP.i2d x0))])) rfl rfl (hb hby d4_19)
  refine OwnR.of (st5) ?_
  show OwnR _ _ _ _ _ _ _ (T5.setTop (mkF m 22 #[.val (.ref a1), .val (.int (1 : Int32))] [(.ref a2), (.double (FP.i2d x0))]))
  refine OwnR.of (fun _ hr => XS.iloadN X5.here hx rfl (hb hby d4_22) rfl hr) ?_
  show OwnR _ _ _ _ _ _ _ (T5.setTop (mkF m 23 #[.val (.ref a1), .val (.int (1 : Int32))] [(.int (1 : Int32)), (.ref a2), (.double (FP.i2d x0))]))
  obtain ⟨cl6, Ar6, -, S6, N6, H6, G6⟩ := id V_a2
  have hin6 : ¬ ((1 : Int32) < 0 ∨ cl6.slots.size ≤ ((1 : Int32)).toNatClampNeg) := (inb_of S6 ⟨by decide, by decide⟩)
  refine OwnR.of (X5.iaload hx (j := (1 : Int32)) (v := (.int x1)) (by rw [e5]; exact Ar6.1) (State.isArrayOf_alike hZ.alike Ar6.2.1) Ar6.2.2 hin6 (Has.at H6 hin6 rfl) (g := (mkF m 23 #[.val (.ref a1), .val (.int (1 : Int32))] [(.int (1 : Int32)), (.ref a2), (.double (FP.i2d x0))])) rfl rfl (hb hby d4_23)) ?_
  show OwnR _ _ _ _ _ _ _ (T5.setTop (mkF m 24 #[.val (.ref a1), .val (.int (1 : Int32))] [(.int x1), (.double (FP.i2d x0))]))
  refine OwnR.of (fun _ hr => XS.i2dS X5.here hx rfl (hb hby d4_24) rfl rfl hr) ?_
  show OwnR _ _ _ _ _ _ _ (T5.setTop (mkF m 25 #[.val (.ref a1), .val (.int (1 : Int32))] [(.double (FP.i2d x1)), (.double (FP.i2d x0))]))
  refine OwnR.of (fun _ hr => XS.ddivS X5.here hx rfl (hb hby d4_25) rfl (own_nn x0 hxo) rfl hr) ?_
  show OwnR _ _ _ _ _ _ _ (T5.setTop (mkF m 26 #[.val (.ref a1), .val (.int (1 : Int32))] [(.double (FP.ddiv (FP.i2d x0) (FP.i2d x1)))]))
  refine OwnR.of (fun _ hr => XS.goto X5.here hx rfl (pc0 := 26) (pc' := 32) rfl (hb hby d4_26) (by decide) (by decide) hr) ?_
  show OwnR _ _ _ _ _ _ _ (T5.setTop (mkF m 32 #[.val (.ref a1), .val (.int (1 : Int32))] [(.double (FP.ddiv (FP.i2d x0) (FP.i2d x1)))]))
  refine own_leafD X5 hx hlk Bd.returns (hb hby d4_32) (by decide) (by decide) ?_
  show Q4_2_1 Z x0 x1 h0 n0 _ T5.heap _
  rw [show T5.heap = h0 from e5]
  refine ⟨?_, N0, rfl⟩
  show (some (.double (FP.ddiv (FP.i2d x0) (FP.i2d x1))) : Option Value) = some (.double (FP.ddiv (FP.i2d x0) (FP.i2d x1)))
  rfl
theorem ef_rm4_2_2 (m : MethodId) (x0 : Addr) : entryFrame m #[(.ref x0), (.int (2 : Int32))] 2 = mkF m 0 #[.val (.ref x0), .val (.int (2 : Int32))] [] := by first | (simp [entryFrame, mkF, argsToLocals, Value.category]; done) | rfl
def Q4_2_2 (Z : State)  (h0 : Heap) (n0 : Nat) (v : Option Value) (h : Heap) (L : List Loc) : Prop := v = some (.double (9221120237041090560 : UInt64)) ∧ Fr n0 L ∧ h = h0
set_option maxRecDepth 65536 in
set_option maxHeartbeats 40000000 in
theorem rm4_2_2 (l : Launch) (Z : State) (a0 : Array Value) (hw : ∀ d ∈ tables_1, d.before a0 Z = true) (ws : List Jvm.Cond) (a1 : Addr) (a2 : Addr) (k2 : ClassId) (x0 x1 : Int32) (h0 : Heap) (n0 : Nat) (Z0 : n0 ≤ h0.size) (E_a1 : Exa Z h0 a1 "com/example/ramification/ramification/model/StrahlerOrders") (F_branches_a1 : Fld Z h0 a1 "com/example/ramification/ramification/model/StrahlerOrders" "branches" "[I" (.ref a2)) (V_a2 : Arv Z h0 a2 k2 .int (2 : Int32) [(.int x0), (.int x1)] (.int (0 : Int32))) :
    MetFree l (⟨"com/example/ramification/ramification/model/StrahlerOrders", "getBifurcationRatio", "(I)D"⟩ : MethodName) (head1 (Jvm.Cond.code (⟨"com/example/ramification/ramification/model/StrahlerOrders", "getBifurcationRatio", "(I)D"⟩ : MethodName) prog_88_method_6_code 2 (some .double) :: ws) ({ frames := 0, cells := 0, slots := 0, locals := 0 } : Room)) (fun a U => a = #[(.ref a1), (.int (2 : Int32))] ∧ Z.Warmed39 U.vm ∧ U.heap = h0) (fun _ _ _ _ _ => True) (fun _ U o U' => ∃ v L, o = .returned v ∧ Q4_2_2 Z  h0 n0 v U'.heap L ∧ FrameEnd U o U' L ({ frames := 0, cells := 0, slots := 0, locals := 0 } : Room).cells ({ frames := 0, cells := 0, slots := 0, locals := 0 } : Room).slots) := by
  refine MetFree.of_bodySF (plainFor_of_name pn_com_example_ramification_ramification_model_StrahlerOrders) hisR ?_
  intro p e s m args below meth c s₁ Bd hml0 hP hK
  obtain ⟨rfl, hZ, hh⟩ := hP
  have hx := Bd.exec
  have hby := Bd.bytes
  have hlk := BodyLoose.notSynchronized Bd
  have hml : c.maxLocals = 2 := hml0
  have hown : s.vm.findClass "com/example/ramification/ramification/model/StrahlerOrders" = some m.cls := findClass_of_methodNamed Bd.named
  have hnm := (name_of_methodNamed Bd.named Bd.method).1
  have X0 : Stand p l e ({ frames := 0, cells := 0, slots := 0, locals := 0 } : Room) s m #[(.ref a1), (.int (2 : Int32))] below meth c s₁ [] 0 0 := Stand.of_body Bd
  have e0 : s₁.heap = h0 := by rw [← hh, Bd.state]; rfl
  have N0 := Fr.nil n0
  refine OwnR.of (s := s) (Q := Q4_2_2 Z  h0 n0) (fun t k => castTop (ef_rm4_2_2 m a1) k) ?_
  show OwnR _ _ _ _ _ _ _ (s₁.setTop (mkF m 0 #[.val (.ref a1), .val (.int (2 : Int32))] []))
  refine OwnR.of (fun _ hr => XS.iloadN X0.here hx rfl (hb hby d4_0) rfl hr) ?_
  show OwnR _ _ _ _ _ _ _ (s₁.setTop (mkF m 1 #[.val (.ref a1), .val (.int (2 : Int32))] [(.int (2 : Int32))]))
  refine OwnR.of (fun _ hr => XS.aloadN X0.here hx rfl (hb hby d4_1) rfl rfl hr) ?_
  show OwnR _ _ _ _ _ _ _ (s₁.setTop (mkF m 2 #[.val (.ref a1), .val (.int (2 : Int32))] [(.ref a1), (.int (2 : Int32))]))
  obtain ⟨T1, X1, e1, st1⟩ := getF X0 hx hZ hown (host := "") (Or.inl (hw _ (List.mem_of_getElem? (i := 25) rfl))) Via.refl e0 F_branches_a1 (g := (mkF m 2 #[.val (.ref a1), .val (.int (2 : Int32))] [(.ref a1), (.int (2 : Int32))])) rfl rfl (hb hby d4_2)
  refine OwnR.of (st1) ?_
  show OwnR _ _ _ _ _ _ _ (T1.setTop (mkF m 5 #[.val (.ref a1), .val (.int (2 : Int32))] [(.ref a2), (.int (2 : Int32))]))
  obtain ⟨cl2, Ar2, -, S2, N2, -, -⟩ := id V_a2
  refine OwnR.of (X1.arraylength hx (by rw [e1]; exact Ar2.1) (State.isArrayOf_alike hZ.alike Ar2.2.1) (g := (mkF m 5 #[.val (.ref a1), .val (.int (2 : Int32))] [(.ref a2), (.int (2 : Int32))])) rfl rfl (hb hby d4_5)) ?_
  show OwnR _ _ _ _ _ _ _ (T1.setTop (mkF m 6 #[.val (.ref a1), .val (.int (2 : Int32))] [(.int cl2.slots.size.toInt32), (.int (2 : Int32))]))
  rw [len_of S2 N2]
  show OwnR _ _ _ _ _ _ _ (T1.setTop (mkF m 6 #[.val (.ref a1), .val (.int (2 : Int32))] [(.int (2 : Int32)), (.int (2 : Int32))]))
  refine OwnR.of (fun _ hr => XS.icmpYes X1.here hx rfl (pc0 := 6) (pc' := 29) rfl (hb hby d4_6) rfl (flt (by decide : ¬ ((2 : Int32) < (2 : Int32)))).2.1 (by decide) (by decide) hr) ?_
  show OwnR _ _ _ _ _ _ _ (T1.setTop (mkF m 29 #[.val (.ref a1), .val (.int (2 : Int32))] []))
  refine OwnR.of (X1.ldc2DoubleC hx hown (mvT hZ (hw _ (List.mem_of_getElem? (i := 42) rfl))) (g := (mkF m 29 #[.val (.ref a1), .val (.int (2 : Int32))] [])) rfl (hb hby d4_29)) ?_
  show OwnR _ _ _ _ _ _ _ (T1.setTop (mkF m 32 #[.val (.ref a1), .val (.int (2 : Int32))] [(.double (9221120237041090560 : UInt64))]))
  refine own_leafD X1 hx hlk Bd.returns (hb hby d4_32) (by decide) (by decide) ?_
  show Q4_2_2 Z  h0 n0 _ T1.heap _
  rw [show T1.heap = h0 from e1]
  refine ⟨?_, N0, rfl⟩
  show (some (.double (9221120237041090560 : UInt64)) : Option Value) = some (.double (9221120237041090560 : UInt64))
  rfl
theorem ef_rm2_3 (m : MethodId) (x0 : Addr) (x1 : Addr) (x2 : Addr) : entryFrame m #[(.ref x0), (.ref x1), (.ref x2), .null] 5 = mkF m 0 #[.val (.ref x0), .val (.ref x1), .val (.ref x2), .val .null, .unset] [] := by first | (simp [entryFrame, mkF, argsToLocals, Value.category]; done) | rfl
def Q2_3 (Z : State) (a1 : Addr) (k2 : ClassId) (x0 : Int32) (x1 : Int32) (x2 : Int32) (h0 : Heap) (n0 : Nat) (v : Option Value) (h : Heap) (L : List Loc) : Prop := ∃ (bI : Addr), v = none ∧ Fr n0 L ∧ Keep h0 h [a1] ∧ Exa Z h a1 "com/example/ramification/ramification/model/StrahlerOrders" ∧ Fld Z h a1 "com/example/ramification/ramification/model/StrahlerOrders" "branches" "[I" (.ref bI) ∧ Arv Z h bI k2 .int (3 : Int32) [(.int x0), (.int x1), (.int x2)] (.int (0 : Int32))
set_option maxRecDepth 65536 in
set_option maxHeartbeats 40000000 in
theorem rm2_3 (l : Launch) (Z : State) (a0 : Array Value) (hw : ∀ d ∈ tables_1, d.before a0 Z = true) (ws : List Jvm.Cond) (a1 : Addr) (a2 : Addr) (a3 : Addr) (k2 k3 : ClassId) (x0 x1 x2 : Int32) (h0 : Heap) (n0 : Nat) (Z0 : n0 ≤ h0.size) (E_a1 : Exa Z h0 a1 "com/example/ramification/ramification/model/StrahlerOrders") (F_branches_a1 : Fld Z h0 a1 "com/example/ramification/ramification/model/StrahlerOrders" "branches" "[I" .null) (F_lengths_a1 : Fld Z h0 a1 "com/example/ramification/ramification/model/StrahlerOrders" "lengths" "[D" .null) (F_unit_a1 : Fld Z h0 a1 "com/example/ramification/ramification/model/StrahlerOrders" "unit" "Ljava/util/Optional;" .null) (V_a2 : Arv Z h0 a2 k2 .int (3 : Int32) [(.int x0), (.int x1), (.int x2)] (.int (0 : Int32))) (V_a3 : Arv Z h0 a3 k3 .double (3 : Int32) [(.double (0 : UInt64)), (.double (0 : UInt64)), (.double (0 : UInt64))] (.double (0 : UInt64))) (E_a2 : Exa Z h0 a2 "[I") (E_a3 : Exa Z h0 a3 "[D") (g_a1 : n0 ≤ a1) (ne_12 : a1 ≠ a2) (ne_13 : a1 ≠ a3) (hx0 : ¬ (x0 < (1 : Int32))) (hx1 : ¬ (x1 < (1 : Int32))) (hx2 : ¬ (x2 < (1 : Int32))) :
    MetFree l (⟨"com/example/ramification/ramification/model/StrahlerOrders", "<init>", "([I[DLjava/util/Optional;)V"⟩ : MethodName) (head1 (Jvm.Cond.code (⟨"com/example/ramification/ramification/model/StrahlerOrders", "<init>", "([I[DLjava/util/Optional;)V"⟩ : MethodName) prog_88_method_1_code 5 none :: ws) ({ frames := 1, cells := 2, slots := 6, locals := 18 } : Room)) (fun a U => a = #[(.ref a1), (.ref a2), (.ref a3), .null] ∧ Z.Warmed39 U.vm ∧ U.heap = h0) (fun _ _ _ _ _ => True) (fun _ U o U' => ∃ v L, o = .returned v ∧ Q2_3 Z a1 k2 x0 x1 x2 h0 n0 v U'.heap L ∧ FrameEnd U o U' L ({ frames := 1, cells := 2, slots := 6, locals := 18 } : Room).cells ({ frames := 1, cells := 2, slots := 6, locals := 18 } : Room).slots) := by
  refine MetFree.of_bodySF (plainFor_of_name pn_com_example_ramification_ramification_model_StrahlerOrders) hisR ?_
  intro p e s m args below meth c s₁ Bd hml0 hP hK
  obtain ⟨rfl, hZ, hh⟩ := hP
  have hx := Bd.exec
  have hby := Bd.bytes
  have hlk := BodyLoose.notSynchronized Bd
  have hml : c.maxLocals = 5 := hml0
  have hown : s.vm.findClass "com/example/ramification/ramification/model/StrahlerOrders" = some m.cls := findClass_of_methodNamed Bd.named
  have hnm := (name_of_methodNamed Bd.named Bd.method).1
  have X0 : Stand p l e ({ frames := 1, cells := 2, slots := 6, locals := 18 } : Room) s m #[(.ref a1), (.ref a2), (.ref a3), .null] below meth c s₁ [] 0 0 := Stand.of_body Bd
  have e0 : s₁.heap = h0 := by rw [← hh, Bd.state]; rfl
  have N0 := Fr.nil n0
  refine OwnR.of (s := s) (Q := Q2_3 Z a1 k2 x0 x1 x2 h0 n0) (fun t k => castTop (ef_rm2_3 m a1 a2 a3) k) ?_
  show OwnR _ _ _ _ _ _ _ (s₁.setTop (mkF m 0 #[.val (.ref a1), .val (.ref a2), .val (.ref a3), .val .null, .unset] []))
  refine OwnR.of (fun _ hr => XS.aloadN X0.here hx rfl (hb hby d2_0) rfl rfl hr) ?_
  show OwnR _ _ _ _ _ _ _ (s₁.setTop (mkF m 1 #[.val (.ref a1), .val (.ref a2), .val (.ref a3), .val .null, .unset] [(.ref a1)]))
  obtain ⟨T1, X1, e1, st1⟩ := initO X0 hx hZ hown (hw _ (List.mem_of_getElem? (i := 13) rfl)) (hw _ (List.mem_of_getElem? (i := 14) rfl)) (hw _ (List.mem_of_getElem? (i := 15) rfl)) e0 (g := (mkF m 1 #[.val (.ref a1), .val (.ref a2), .val (.ref a3), .val .null, .unset] [(.ref a1)])) rfl (by rw [hml]; rfl) rfl (hb hby d2_1) (by decide) (W := 0) (by show 2 * 0 + _ ≤ _; exact Nat.le_of_eq rfl) (by decide)
  refine OwnR.of (st1) ?_
  show OwnR _ _ _ _ _ _ _ (T1.setTop (mkF m 4 #[.val (.ref a1), .val (.ref a2), .val (.ref a3), .val .null, .unset] []))
  refine OwnR.of (fun _ hr => XS.aloadN X1.here hx rfl (hb hby d2_4) rfl rfl hr) ?_
  show OwnR _ _ _ _ _ _ _ (T1.setTop (mkF m 5 #[.val (.ref a1), .val (.ref a2), .val (.ref a3), .val .null, .unset] [(.ref a2)]))
  obtain ⟨cl2, Ar2, -, S2, N2, -, -⟩ := id V_a2
  refine OwnR.of (X1.arraylength hx (by rw [e1]; exact Ar2.1) (State.isArrayOf_alike hZ.alike Ar2.2.1) (g := (mkF m 5 #[.val (.ref a1), .val (.ref a2), .val (.ref a3), .val .null, .unset] [(.ref a2)])) rfl rfl (hb hby d2_5)) ?_
  show OwnR _ _ _ _ _ _ _ (T1.setTop (mkF m 6 #[.val (.ref a1), .val (.ref a2), .val (.ref a3), .val .null, .unset] [(.int cl2.slots.size.toInt32)]))
  rw [len_of S2 N2]
  show OwnR _ _ _ _ _ _ _ (T1.setTop (mkF m 6 #[.val (.ref a1), .val (.ref a2), .val (.ref a3), .val .null, .unset] [(.int (3 : Int32))]))
  refine OwnR.of (fun _ hr => XS.aloadN X1.here hx rfl (hb hby d2_6) rfl rfl hr) ?_
  show OwnR _ _ _ _ _ _ _ (T1.setTop (mkF m 7 #[.val (.ref a1), .val (.ref a2), .val (.ref a3), .val .null, .unset] [(.ref a3), (.int (3 : Int32))]))
  obtain ⟨cl3, Ar3, -, S3, N3, -, -⟩ := id V_a3
  refine OwnR.of (X1.arraylength hx (by rw [e1]; exact Ar3.1) (State.isArrayOf_alike hZ.alike Ar3.2.1) (g := (mkF m 7 #[.val (.ref a1), .val (.ref a2), .val (.ref a3), .val .null, .unset] [(.ref a3), (.int (3 : Int32))])) rfl rfl (hb hby d2_7)) ?_
  show OwnR _ _ _ _ _ _ _ (T1.setTop (mkF m 8 #[.val (.ref a1), .val (.ref a2), .val (.ref a3), .val .null, .unset] [(.int cl3.slots.size.toInt32), (.int (3 : Int32))]))
  rw [len_of S3 N3]
  show OwnR _ _ _ _ _ _ _ (T1.setTop (mkF m 8 #[.val (.ref a1), .val (.ref a2), .val (.ref a3), .val .null, .unset] [(.int (3 : Int32)), (.int (3 : Int32))]))
  refine OwnR.of (fun _ hr => XS.icmpYes X1.here hx rfl (pc0 := 8) (pc' := 28) rfl (hb hby d2_8) rfl (teq (by decide : (3 : Int32) = (3 : Int32))).1 (by decide) (by decide) hr) ?_
  show OwnR _ _ _ _ _ _ _ (T1.setTop (mkF m 28 #[.val (.ref a1), .val (.ref a2), .val (.ref a3), .val .null, .unset] []))
  refine OwnR.of (fun _ hr => XS.iconst X1.here hx rfl (hb hby d2_28) hr) ?_
  show OwnR _ _ _ _ _ _ _ (T1.setTop (mkF m 29 #[.val (.ref a1), .val (.ref a2), .val (.ref a3), .val .null, .unset] [(.int (0 : Int32))]))
  refine OwnR.of (fun _ hr => XS.istore X1.here hx rfl (hb hby d2_29) rfl (l' := #[.val (.ref a1), .val (.ref a2), .val (.ref a3), .val .null, .val (.int (0 : Int32))]) rfl hr) ?_
  show OwnR _ _ _ _ _ _ _ (T1.setTop (mkF m 31 #[.val (.ref a1), .val (.ref a2), .val (.ref a3), .val .null, .val (.int (0 : Int32))] []))
  refine OwnR.of (fun _ hr => XS.iload X1.here hx rfl (hb hby d2_31) rfl hr) ?_
  show OwnR _ _ _ _ _ _ _ (T1.setTop (mkF m 33 #[.val (.ref a1), .val (.ref a2), .val (.ref a3), .val .null, .val (.int (0 : Int32))] [(.int (0 : Int32))]))
  refine OwnR.of (fun _ hr => XS.aloadN X1.here hx rfl (hb hby d2_33) rfl rfl hr) ?_
  show OwnR _ _ _ _ _ _ _ (T1.setTop (mkF m 34 #[.val (.ref a1), .val (.ref a2), .val (.ref a3), .val .null, .val (.int (0 : Int32))] [(.ref a2), (.int (0 : Int32))]))
  obtain ⟨cl4, Ar4, -, S4, N4, -, -⟩ := id V_a2
  refine OwnR.of (X1.arraylength hx (by rw [e1]; exact Ar4.1) (State.isArrayOf_alike hZ.alike Ar4.2.1) (g := (mkF m 34 #[.val (.ref a1), .val (.ref a2), .val (.ref a3), .val .null, .val (.int (0 : Int32))] [(.ref a2), (.int (0 : Int32))])) rfl rfl (hb hby d2_34)) ?_
  show OwnR _ _ _ _ _ _ _ (T1.setTop (mkF m 35 #[.val (.ref a1), .val (.ref a2), .val (.ref a3), .val .null, .val (.int (0 : Int32))] [(.int cl4.slots.size.toInt32), (.int (0 : Int32))]))
  rw [len_of S4 N4]
  show OwnR _ _ _ _ _ _ _ (T1.setTop (mkF m 35 #[.val (.ref a1), .val (.ref a2), .val (.ref a3), .val .null, .val (.int (0 : Int32))] [(.int (3 : Int32)), (.int (0 : Int32))]))
  refine OwnR.of (fun _ hr => XS.icmpNo X1.here hx rfl (hb hby d2_35) rfl (tlt (by decide : (0 : Int32) < (3 : Int32))).2.1 hr) ?_
  show OwnR _ _ _ _ _ _ _ (T1.setTop (mkF m 38 #[.val (.ref a1), .val (.ref a2), .val (.ref a3), .val .null, .val (.int (0 : Int32))] []))
  refine OwnR.of (fun _ hr => XS.aloadN X1.here hx rfl (hb hby d2_38) rfl rfl hr) ?_
  show OwnR _ _ _ _ _ _ _ (T1.setTop (mkF m 39 #[.val (.ref a1), .val (.ref a2), .val (.ref a3), .val .null, .val (.int (0 : Int32))] [(.ref a2)]))
  refine OwnR.of (fun _ hr => XS.iload X1.here hx rfl (hb hby d2_39) rfl hr) ?_
  show OwnR _ _ _ _ _ _ _ (T1.setTop (mkF m 41 #[.val (.ref a1), .val (.ref a2), .val (.ref a3), .val .null, .val (.int (0 : Int32))] [(.int (0 : Int32)), (.ref a2)]))
  obtain ⟨cl5, Ar5, -, S5, N5, H5, G5⟩ := id V_a2
  have hin5 : ¬ ((0 : Int32) < 0 ∨ cl5.slots.size ≤ ((0 : Int32)).toNatClampNeg) := (inb_of S5 ⟨by decide, by decide⟩)
  refine OwnR.of (X1.iaload hx (j := (0 : Int32)) (v := (.int x0)) (by rw [e1]; exact Ar5.1) (State.isArrayOf_alike hZ.alike Ar5.2.1) Ar5.2.2 hin5 (Has.at H5 hin5 rfl) (g := (mkF m 41 #[.val (.ref a1), .val (.ref a2), .val (.ref a3), .val .null, .val (.int (0 : Int32))] [(.int (0 : Int32)), (.ref a2)])) rfl rfl (hb hby d2_41)) ?_
  show OwnR _ _ _ _ _ _ _ (T1.setTop (mkF m 42 #[.val (.ref a1), .val (.ref a2), .val (.ref a3), .val .null, .val (.int (0 : Int32))] [(.int x0)]))
  refine OwnR.of (fun _ hr => XS.iconst X1.here hx rfl (hb hby d2_42) hr) ?_
  show OwnR _ _ _ _ _ _ _ (T1.setTop (mkF m 43 #[.val (.ref a1), .val (.ref a2), .val (.ref a3), .val .null, .val (.int (0 : Int32))] [(.int (1 : Int32)), (.int x0)]))
  refine OwnR.of (fun _ hr => XS.icmpYes X1.here hx rfl (pc0 := 43) (pc' := 67) rfl (hb hby d2_43) rfl (flt hx0).2.1 (by decide) (by decide) hr) ?_
  show OwnR _ _ _ _ _ _ _ (T1.setTop (mkF m 67 #[.val (.ref a1), .val (.ref a2), .val (.ref a3), .val .null, .val (.int (0 : Int32))] []))
  refine OwnR.of (fun _ hr => XS.iinc X1.here hx rfl (hb hby d2_67) rfl (l' := #[.val (.ref a1), .val (.ref a2), .val (.ref a3), .val .null, .val (.int ((0 : Int32) + (1 : Int32)))]) rfl hr) ?_
  show OwnR _ _ _ _ _ _ _ (T1.setTop (mkF m 70 #[.val (.ref a1), .val (.ref a2), .val (.ref a3), .val .null, .val (.int ((0 : Int32) + (1 : Int32)))] []))
  rw [(by decide : ((0 : Int32) + (1 : Int32)) = (1 : Int32))]
  show OwnR _ _ _ _ _ _ _ (T1.setTop (mkF m 70 #[.val (.ref a1), .val (.ref a2), .val (.ref a3), .val .null, .val (.int (1 : Int32))] []))
  refine OwnR.of (fun _ hr => XS.goto X1.here hx rfl (pc0 := 70) (pc' := 31) rfl (hb hby d2_70) (by decide) (by decide) hr) ?_
  show OwnR _ _ _ _ _ _ _ (T1.setTop (mkF m 31 #[.val (.ref a1), .val (.ref a2), .val (.ref a3), .val .null, .val (.int (1 : Int32))] []))
  refine OwnR.of (fun _ hr => XS.iload X1.here hx rfl (hb hby d2_31) rfl hr) ?_
  show OwnR _ _ _ _ _ _ _ (T1.setTop (mkF m 33 #[.val (.ref a1), .val (.ref a2), .val (.ref a3), .val .null, .val (.int (1 : Int32))] [(.int (1 : Int32))]))
  refine OwnR.of (fun _ hr => XS.aloadN X1.here hx rfl (hb hby d2_33) rfl rfl hr) ?_
  show OwnR _ _ _ _ _ _ _ (T1.setTop (mkF m 34 #[.val (.ref a1), .val (.ref a2), .val (.ref a3), .val .null, .val (.int (1 : Int32))] [(.ref a2), (.int (1 : Int32))]))
  obtain ⟨cl6, Ar6, -, S6, N6, -, -⟩ := id V_a2
  refine OwnR.of (X1.arraylength hx (by rw [e1]; exact Ar6.1) (State.isArrayOf_alike hZ.alike Ar6.2.1) (g := (mkF m 34 #[.val (.ref a1), .val (.ref a2), .val (.ref a3), .val .null, .val (.int (1 : Int32))] [(.ref a2), (.int (1 : Int32))])) rfl rfl (hb hby d2_34)) ?_
  show OwnR _ _ _ _ _ _ _ (T1.setTop (mkF m 35 #[.val (.ref a1), .val (.ref a2), .val (.ref a3), .val .null, .val (.int (1 : Int32))] [(.int cl6.slots.size.toInt32), (.int (1 : Int32))]))
  rw [len_of S6 N6]
  show OwnR _ _ _ _ _ _ _ (T1.setTop (mkF m 35 #[.val (.ref a1), .val (.ref a2), .val (.ref a3), .val .null, .val (.int (1 : Int32))] [(.int (3 : Int32)), (.int (1 : Int32))]))
  refine OwnR.of (fun _ hr => XS.icmpNo X1.here hx rfl (hb hby d2_35) rfl (tlt (by decide : (1 : Int32) < (3 : Int32))).2.1 hr) ?_
  show OwnR _ _ _ _ _ _ _ (T1.setTop (mkF m 38 #[.val (.ref a1), .val (.ref a2), .val (.ref a3), .val .null, .val (.int (1 : Int32))] []))
  refine OwnR.of (fun _ hr => XS.aloadN X1.here hx rfl (hb hby d2_38) rfl rfl hr) ?_
  show OwnR _ _ _ _ _ _ _ (T1.setTop (mkF m 39 #[.val (.ref a1), .val (.ref a2), .val (.ref a3), .val .null, .val (.int (1 : Int32))] [(.ref a2)]))
  refine OwnR.of (fun _ hr => XS.iload X1.here hx rfl (hb hby d2_39) rfl hr) ?_
  show OwnR _ _ _ _ _ _ _ (T1.setTop (mkF m 41 #[.val (.ref a1), .val (.ref a2), .val (.ref a3), .val .null, .val (.int (1 : Int32))] [(.int (1 : Int32)), (.ref a2)]))
  obtain ⟨cl7, Ar7, -, S7, N7, H7, G7⟩ := id V_a2
  have hin7 : ¬ ((1 : Int32) < 0 ∨ cl7.slots.size ≤ ((1 : Int32)).toNatClampNeg) := (inb_of S7 ⟨by decide, by decide⟩)
  refine OwnR.of (X1.iaload hx (j := (1 : Int32)) (v := (.int x1)) (by rw [e1]; exact Ar7.1) (State.isArrayOf_alike hZ.alike Ar7.2.1) Ar7.2.2 hin7 (Has.at H7 hin7 rfl) (g := (mkF m 41 #[.val (.ref a1), .val (.ref a2), .val (.ref a3), .val .null, .val (.int (1 : Int32))] [(.int (1 : Int32)), (.ref a2)])) rfl rfl (hb hby d2_41)) ?_
  show OwnR _ _ _ _ _ _ _ (T1.setTop (mkF m 42 #[.val (.ref a1), .val (.ref a2), .val (.ref a3), .val .null, .val (.int (1 : Int32))] [(.int x1)]))
  refine OwnR.of (fun _ hr => XS.iconst X1.here hx rfl (hb hby d2_42) hr) ?_
  show OwnR _ _ _ _ _ _ _ (T1.setTop (mkF m 43 #[.val (.ref a1), .val (.ref a2), .val (.ref a3), .val .null, .val (.int (1 : Int32))] [(.int (1 : Int32)), (.int x1)]))
  refine OwnR.of (fun _ hr => XS.icmpYes X1.here hx rfl (pc0 := 43) (pc' := 67) rfl (hb hby d2_43) rfl (flt hx1).2.1 (by decide) (by decide) hr) ?_
  show OwnR _ _ _ _ _ _ _ (T1.setTop (mkF m 67 #[.val (.ref a1), .val (.ref a2), .val (.ref a3), .val .null, .val (.int (1 : Int32))] []))
  refine OwnR.of (fun _ hr => XS.iinc X1.here hx rfl (hb hby d2_67) rfl (l' := #[.val (.ref a1), .val (.ref a2), .val (.ref a3), .val .null, .val (.int ((1 : Int32) + (1 : Int32)))]) rfl hr) ?_
  show OwnR _ _ _ _ _ _ _ (T1.setTop (mkF m 70 #[.val (.ref a1), .val (.ref a2), .val (.ref a3), .val .null, .val (.int ((1 : Int32) + (1 : Int32)))] []))
  rw [(by decide : ((1 : Int32) + (1 : Int32)) = (2 : Int32))]
  show OwnR _ _ _ _ _ _ _ (T1.setTop (mkF m 70 #[.val (.ref a1), .val (.ref a2), .val (.ref a3), .val .null, .val (.int (2 : Int32))] []))
  refine OwnR.of (fun _ hr => XS.goto X1.here hx rfl (pc0 := 70) (pc' := 31) rfl (hb hby d2_70) (by decide) (by decide) hr) ?_
  show OwnR _ _ _ _ _ _ _ (T1.setTop (mkF m 31 #[.val (.ref a1), .val (.ref a2), .val (.ref a3), .val .null, .val (.int (2 : Int32))] []))
  refine OwnR.of (fun _ hr => XS.iload X1.here hx rfl (hb hby d2_31) rfl hr) ?_
  show OwnR _ _ _ _ _ _ _ (T1.setTop (mkF m 33 #[.val (.ref a1), .val (.ref a2), .val (.ref a3), .val .null, .val (.int (2 : Int32))] [(.int (2 : Int32))]))
  refine OwnR.of (fun _ hr => XS.aloadN X1.here hx rfl (hb hby d2_33) rfl rfl hr) ?_
  show OwnR _ _ _ _ _ _ _ (T1.setTop (mkF m 34 #[.val (.ref a1), .val (.ref a2), .val (.ref a3), .val .null, .val (.int (2 : Int32))] [(.ref a2), (.int (2 : Int32))]))
  obtain ⟨cl8, Ar8, -, S8, N8, -, -⟩ := id V_a2
  refine OwnR.of (X1.arraylength hx (by rw [e1]; exact Ar8.1) (State.isArrayOf_alike hZ.alike Ar8.2.1) (g := (mkF m 34 #[.val (.ref a1), .val (.ref a2), .val (.ref a3), .val .null, .val (.int (2 : Int32))] [(.ref a2), (.int (2 : Int32))])) rfl rfl (hb hby d2_34)) ?_
  show OwnR _ _ _ _ _ _ _ (T1.setTop (mkF m 35 #[.val (.ref a1), .val (.ref a2), .val (.ref a3), .val .null, .val (.int (2 : Int32))] [(.int cl8.slots.size.toInt32), (.int (2 : Int32))]))
  rw [len_of S8 N8]
  show OwnR _ _ _ _ _ _ _ (T1.setTop (mkF m 35 #[.val (.ref a1), .val (.ref a2), .val (.ref a3), .val .null, .val (.int (2 : Int32))] [(.int (3 : Int32)), (.int (2 : Int32))]))
  refine OwnR.of (fun _ hr => XS.icmpNo X1.here hx rfl (hb hby d2_35) rfl (tlt (by decide : (2 : Int32) < (3 : Int32))).2.1 hr) ?_
  show OwnR _ _ _ _ _ _ _ (T1.setTop (mkF m 38 #[.val (.ref a1), .val (.ref a2), .val (.ref a3), .val .null, .val (.int (2 : Int32))] []))
  refine OwnR.of (fun _ hr => XS.aloadN X1.here hx rfl (hb hby d2_38) rfl rfl hr) ?_
  show OwnR _ _ _ _ _ _ _ (T1.setTop (mkF m 39 #[.val (.ref a1), .val (.ref a2), .val (.ref a3), .val .null, .val (.int (2 : Int32))] [(.ref a2)]))
  refine OwnR.of (fun _ hr => XS.iload X1.here hx rfl (hb hby d2_39) rfl hr) ?_
  show OwnR _ _ _ _ _ _ _ (T1.setTop (mkF m 41 #[.val (.ref a1), .val (.ref a2), .val (.ref a3), .val .null, .val (.int (2 : Int32))] [(.int (2 : Int32)), (.ref a2)]))
  obtain ⟨cl9, Ar9, -, S9, N9, H9, G9⟩ := id V_a2
  have hin9 : ¬ ((2 : Int32) < 0 ∨ cl9.slots.size ≤ ((2 : Int32)).toNatClampNeg) := (inb_of S9 ⟨by decide, by decide⟩)
  refine OwnR.of (X1.iaload hx (j := (2 : Int32)) (v := (.int x2)) (by rw [e1]; exact Ar9.1) (State.isArrayOf_alike hZ.alike Ar9.2.1) Ar9.2.2 hin9 (Has.at H9 hin9 rfl) (g := (mkF m 41 #[.val (.ref a1), .val (.ref a2), .val (.ref a3), .val .null, .val (.int (2 : Int32))] [(.int (2 : Int32)), (.ref a2)])) rfl rfl (hb hby d2_41)) ?_
  show OwnR _ _ _ _ _ _ _ (T1.setTop (mkF m 42 #[.val (.ref a1), .val (.ref a2), .val (.ref a3), .val .null, .val (.int (2 : Int32))] [(.int x2)]))
  refine OwnR.of (fun _ hr => XS.iconst X1.here hx rfl (hb hby d2_42) hr) ?_
  show OwnR _ _ _ _ _ _ _ (T1.setTop (mkF m 43 #[.val (.ref a1), .val (.ref a2), .val (.ref a3), .val .null, .val (.int (2 : Int32))] [(.int (1 : Int32)), (.int x2)]))
  refine OwnR.of (fun _ hr => XS.icmpYes X1.here hx rfl (pc0 := 43) (pc' := 67) rfl (hb hby d2_43) rfl (flt hx2).2.1 (by decide) (by decide) hr) ?_
  show OwnR _ _ _ _ _ _ _ (T1.setTop (mkF m 67 #[.val (.ref a1), .val (.ref a2), .val (.ref a3), .val .null, .val (.int (2 : Int32))] []))
  refine OwnR.of (fun _ hr => XS.iinc X1.here hx rfl (hb hby d2_67) rfl (l' := #[.val (.ref a1), .val (.ref a2), .val (.ref a3), .val .null, .val (.int ((2 : Int32) + (1 : Int32)))]) rfl hr) ?_
  show OwnR _ _ _ _ _ _ _ (T1.setTop (mkF m 70 #[.val (.ref a1), .val (.ref a2), .val (.ref a3), .val .null, .val (.int ((2 : Int32) + (1 : Int32)))] []))
  rw [(by decide : ((2 : Int32) + (1 : Int32)) = (3 : Int32))]
  show OwnR _ _ _ _ _ _ _ (T1.setTop (mkF m 70 #[.val (.ref a1), .val (.ref a2), .val (.ref a3), .val .null, .val (.int (3 : Int32))] []))
  refine OwnR.of (fun _ hr => XS.goto X1.here hx rfl (pc0 := 70) (pc' := 31) rfl (hb hby d2_70) (by decide) (by decide) hr) ?_
  show OwnR _ _ _ _ _ _ _ (T1.setTop (mkF m 31 #[.val (.ref a1), .val (.ref a2), .val (.ref a3), .val .null, .val (.int (3 : Int32))] []))
  refine OwnR.of (fun _ hr => XS.iload X1.here hx rfl (hb hby d2_31) rfl hr) ?_
  show OwnR _ _ _ _ _ _ _ (T1.setTop (mkF m 33 #[.val (.ref a1), .val (.ref a2), .val (.ref a3), .val .null, .val (.int (3 : Int32))] [(.int (3 : Int32))]))
  refine OwnR.of (fun _ hr => XS.aloadN X1.here hx rfl (hb hby d2_33) rfl rfl hr) ?_
  show OwnR _ _ _ _ _ _ _ (T1.setTop (mkF m 34 #[.val (.ref a1), .val (.ref a2), .val (.ref a3), .val .null, .val (.int (3 : Int32))] [(.ref a2), (.int (3 : Int32))]))
  obtain ⟨cl10, Ar10, -, S10, N10, -, -⟩ := id V_a2
  refine OwnR.of (X1.arraylength hx (by rw [e1]; exact Ar10.1) (State.isArrayOf_alike hZ.alike Ar10.2.1) (g := (mkF m 34 #[.val (.ref a1), .val (.ref a2), .val (.ref a3), .val .null, .val (.int (3 : Int32))] [(.ref a2), (.int (3 : Int32))])) rfl rfl (hb hby d2_34)) ?_
  show OwnR _ _ _ _ _ _ _ (T1.setTop (mkF m 35 #[.val (.ref a1), .val (.ref a2), .val (.ref a3), .val .null, .val (.int (3 : Int32))] [(.int cl10.slots.size.toInt32), (.int (3 : Int32))]))
  rw [len_of S10 N10]
  show OwnR _ _ _ _ _ _ _ (T1.setTop (mkF m 35 #[.val (.ref a1), .val (.ref a2), .val (.ref a3), .val .null, .val (.int (3 : Int32))] [(.int (3 : Int32)), (.int (3 : Int32))]))
  refine OwnR.of (fun _ hr => XS.icmpYes X1.here hx rfl (pc0 := 35) (pc' := 73) rfl (hb hby d2_35) rfl (flt (by decide : ¬ ((3 : Int32) < (3 : Int32)))).2.1 (by decide) (by decide) hr) ?_
  show OwnR _ _ _ _ _ _ _ (T1.setTop (mkF m 73 #[.val (.ref a1), .val (.ref a2), .val (.ref a3), .val .null, .val (.int (3 : Int32))] []))
  refine OwnR.of (fun _ hr => XS.aloadN X1.here hx rfl (hb hby d2_73) rfl rfl hr) ?_
  show OwnR _ _ _ _ _ _ _ (T1.setTop (mkF m 74 #[.val (.ref a1), .val (.ref a2), .val (.ref a3), .val .null, .val (.int (3 : Int32))] [(.ref a1)]))
  refine OwnR.of (fun _ hr => XS.aloadN X1.here hx rfl (hb hby d2_74) rfl rfl hr) ?_
  show OwnR _ _ _ _ _ _ _ (T1.setTop (mkF m 75 #[.val (.ref a1), .val (.ref a2), .val (.ref a3), .val .null, .val (.int (3 : Int32))] [(.ref a2), (.ref a1)]))
  obtain ⟨T11, h11, X11, e11, E11, V11, AE11, st11⟩ := cloneH X1 hx hZ hown (hw _ (List.mem_of_getElem? (i := 16) rfl)) (hw _ (List.mem_of_getElem? (i := 17) rfl)) (hw _ (List.mem_of_getElem? (i := 21) rfl)) (hw _ (List.mem_of_getElem? (i := 19) rfl)) (hw _ (List.mem_of_getElem? (i := 20) rfl)) (hw _ (List.mem_of_getElem? (i := 22) rfl)) e1 (Arv.arh V_a2) E_a2 (g := (mkF m 75 #[.val (.ref a1), .val (.ref a2), .val (.ref a3), .val .null, .val (.int (3 : Int32))] [(.ref a2), (.ref a1)])) rfl (by rw [hml]; rfl) rfl (hb hby d2_75) (by decide) (W := 1) (by show 2 * 0 + _ ≤ _; exact Nat.le_of_eq rfl) (by decide) (cap := 3) (by decide) (by decide) (by decide)
  obtain ⟨b11, g11⟩ : ∃ z, z = h0.size := ⟨_, rfl⟩
  rw [← g11] at V11 AE11 st11
  refine OwnR.of (st11) ?_
  have gn_b11 : n0 ≤ b11 := Nat.le_trans (Nat.le_trans Z0 (Keep.refl h0 [a1]).1) (Nat.le_of_eq g11.symm)
  have sz_b11 : h0.size ≤ b11 := Nat.le_trans (Keep.refl h0 [a1]).1 (Nat.le_of_eq g11.symm)
  have K11 : Keep h0 h11 [a1] := Keep.ext (Keep.refl h0 [a1]) E11
  have V11 : Arv Z h11 b11 k2 .int (3 : Int32) [(.int x0), (.int x1), (.int x2)] (.int (0 : Int32)) := V11
  show OwnR _ _ _ _ _ _ _ (T11.setTop (mkF m 78 #[.val (.ref a1), .val (.ref a2), .val (.ref a3), .val .null, .val (.int (3 : Int32))] [(.ref b11), (.ref a1)]))
  obtain ⟨T12, X12, e12, st12⟩ := castY X11 hx hZ hown (hw _ (List.mem_of_getElem? (i := 23) rfl)) e11 (Ins.self AE11) (g := (mkF m 78 #[.val (.ref a1), .val (.ref a2), .val (.ref a3), .val .null, .val (.int (3 : Int32))] [(.ref b11), (.ref a1)])) rfl rfl (hb hby d2_78)
  refine OwnR.of (st12) ?_
  show OwnR _ _ _ _ _ _ _ (T12.setTop (mkF m 81 #[.val (.ref a1), .val (.ref a2), .val (.ref a3), .val .null, .val (.int (3 : Int32))] [(.ref b11), (.ref a1)]))
  obtain ⟨T13, h13, X13, e13, W13, st13⟩ := putF X12 hx hZ hown (host := "") (Or.inl (hw _ (List.mem_of_getElem? (i := 25) rfl))) Via.refl e12 (Fld.ext E11 F_branches_a1) (Exa.keep E_a1 K11) (Or.inr ⟨(hw _ (List.mem_of_getElem? (i := 26) rfl)), rfl, hnm⟩) (hw _ (List.mem_of_getElem? (i := 6) rfl)) (ty := (.array .int)) (by decide) rfl rfl (g := (mkF m 81 #[.val (.ref a1), .val (.ref a2), .val (.ref a3), .val .null, .val (.int (3 : Int32))] [(.ref b11), (.ref a1)])) rfl rfl (hb hby d2_81)
  refine OwnR.of (st13) ?_
  have F13 := Fld.same W13 (Fld.ext E11 F_branches_a1)
  have K13 : Keep h0 h13 [a1] := Keep.wr K11 W13 (Or.inl (List.mem_of_getElem? (i := 0) rfl))
  have N13 := Fr.snoc X13 N0 g_a1
  show OwnR _ _ _ _ _ _ _ (T13.setTop (mkF m 84 #[.val (.ref a1), .val (.ref a2), .val (.ref a3), .val .null, .val (.int (3 : Int32))] []))
  refine OwnR.of (fun _ hr => XS.aloadN X13.here hx rfl (hb hby d2_84) rfl rfl hr) ?_
  show OwnR _ _ _ _ _ _ _ (T13.setTop (mkF m 85 #[.val (.ref a1), .val (.ref a2), .val (.ref a3), .val .null, .val (.int (3 : Int32))] [(.ref a1)]))
  refine OwnR.of (fun _ hr => XS.aloadN X13.here hx rfl (hb hby d2_85) rfl rfl hr) ?_
  show OwnR _ _ _ _ _ _ _ (T13.setTop (mkF m 86 #[.val (.ref a1), .val (.ref a2), .val (.ref a3), .val .null, .val (.int (3 : Int32))] [(.ref a3), (.ref a1)]))
  obtain ⟨T14, h14, X14, e14, E14, V14, AE14, st14⟩ := cloneH X13 hx hZ hown (hw _ (List.mem_of_getElem? (i := 27) rfl)) (hw _ (List.mem_of_getElem? (i := 28) rfl)) (hw _ (List.mem_of_getElem? (i := 21) rfl)) (hw _ (List.mem_of_getElem? (i := 19) rfl)) (hw _ (List.mem_of_getElem? (i := 29) rfl)) (hw _ (List.mem_of_getElem? (i := 30) rfl)) e13 (Arv.arh (Arv.keep V_a3 K13 (ninS (Ne.symm ne_13) nin0))) (Exa.keep E_a3 K13) (g := (mkF m 86 #[.val (.ref a1), .val (.ref a2), .val (.ref a3), .val .null, .val (.int (3 : Int32))] [(.ref a3), (.ref a1)])) rfl (by rw [hml]; rfl) rfl (hb hby d2_86) (by decide) (W := 1) (by show 2 * 0 + _ ≤ _; exact Nat.le_of_eq rfl) (by decide) (cap := 3) (by decide) (by decide) (by decide)
  obtain ⟨b14, g14⟩ : ∃ z, z = h13.size := ⟨_, rfl⟩
  rw [← g14] at V14 AE14 st14
  refine OwnR.of (st14) ?_
  have gn_b14 : n0 ≤ b14 := Nat.le_trans (Nat.le_trans Z0 K13.1) (Nat.le_of_eq g14.symm)
  have sz_b14 : h0.size ≤ b14 := Nat.le_trans K13.1 (Nat.le_of_eq g14.symm)
  have K14 : Keep h0 h14 [a1] := Keep.ext K13 E14
  have V14 : Arv Z h14 b14 k3 .double (3 : Int32) [(.double (0 : UInt64)), (.double (0 : UInt64)), (.double (0 : UInt64))] (.double (0 : UInt64)) := V14
  show OwnR _ _ _ _ _ _ _ (T14.setTop (mkF m 89 #[.val (.ref a1), .val (.ref a2), .val (.ref a3), .val .null, .val (.int (3 : Int32))] [(.ref b14), (.ref a1)]))
  obtain ⟨T15, X15, e15, st15⟩ := castY X14 hx hZ hown (hw _ (List.mem_of_getElem? (i := 31) rfl)) e14 (Ins.self AE14) (g := (mkF m 89 #[.val (.ref a1), .val (.ref a2), .val (.ref a3), .val .null, .val (.int (3 : Int32))] [(.ref b14), (.ref a1)])) rfl rfl (hb hby d2_89)
  refine OwnR.of (st15) ?_
  show OwnR _ _ _ _ _ _ _ (T15.setTop (mkF m 92 #[.val (.ref a1), .val (.ref a2), .val (.ref a3), .val .null, .val (.int (3 : Int32))] [(.ref b14), (.ref a1)]))
  obtain ⟨T16, h16, X16, e16, W16, st16⟩ := putF X15 hx hZ hown (host := "") (Or.inl (hw _ (List.mem_of_getElem? (i := 33) rfl))) Via.refl e15 (Fld.ext E14 (Fld.other W13 (Fld.ext E11 F_lengths_a1) (Or.inr (slot_ne (Or.inr (hw _ (List.mem_of_getElem? (i := 34) rfl))) (Or.inr (hw _ (List.mem_of_getElem? (i := 26) rfl))) (by decide) (t := (.array .double)) (t' := (.array .int)) (by decide) (by decide))))) (Exa.keep E_a1 K14) (Or.inr ⟨(hw _ (List.mem_of_getElem? (i := 34) rfl)), rfl, hnm⟩) (hw _ (List.mem_of_getElem? (i := 6) rfl)) (ty := (.array .double)) (by decide) rfl rfl (g := (mkF m 92 #[.val (.ref a1), .val (.ref a2), .val (.ref a3), .val .null, .val (.int (3 : Int32))] [(.ref b14), (.ref a1)])) rfl rfl (hb hby d2_92)
  refine OwnR.of (st16) ?_
  have F16 := Fld.same W16 (Fld.ext E14 (Fld.other W13 (Fld.ext E11 F_lengths_a1) (Or.inr (slot_ne (Or.inr (hw _ (List.mem_of_getElem? (i := 34) rfl))) (Or.inr (hw _ (List.mem_of_getElem? (i := 26) rfl))) (by decide) (t := (.array .double)) (t' := (.array .int)) (by decide) (by decide)))))
  have K16 : Keep h0 h16 [a1] := Keep.wr K14 W16 (Or.inl (List.mem_of_getElem? (i := 0) rfl))
  have N16 := Fr.snoc X16 N13 g_a1
  show OwnR _ _ _ _ _ _ _ (T16.setTop (mkF m 95 #[.val (.ref a1), .val (.ref a2), .val (.ref a3), .val .null, .val (.int (3 : Int32))] []))
  refine OwnR.of (fun _ hr => XS.aloadN X16.here hx rfl (hb hby d2_95) rfl rfl hr) ?_
  show OwnR _ _ _ _ _ _ _ (T16.setTop (mkF m 96 #[.val (.ref a1), .val (.ref a2), .val (.ref a3), .val .null, .val (.int (3 : Int32))] [(.ref a1)]))
  refine OwnR.of (fun _ hr => XS.aloadN X16.here hx rfl (hb hby d2_96) rfl rfl hr) ?_
  show OwnR _ _ _ _ _ _ _ (T16.setTop (mkF m 97 #[.val (.ref a1), .val (.ref a2), .val (.ref a3), .val .null, .val (.int (3 : Int32))] [.null, (.ref a1)]))
  obtain ⟨T17, h17, X17, e17, W17, st17⟩ := putF X16 hx hZ hown (host := "") (Or.inl (hw _ (List.mem_of_getElem? (i := 35) rfl))) Via.refl e16 (Fld.other W16 (Fld.ext E14 (Fld.other W13 (Fld.ext E11 F_unit_a1) (Or.inr (slot_ne (Or.inr (hw _ (List.mem_of_getElem? (i := 36) rfl))) (Or.inr (hw _ (List.mem_of_getElem? (i := 26) rfl))) (by decide) (t := (.object "java/util/Optional")) (t' := (.array .int)) (by decide) (by decide))))) (Or.inr (slot_ne (Or.inr (hw _ (List.mem_of_getElem? (i := 36) rfl))) (Or.inr (hw _ (List.mem_of_getElem? (i := 34) rfl))) (by decide) (t := (.object "java/util/Optional")) (t' := (.array .double)) (by decide) (by decide)))) (Exa.keep E_a1 K16) (Or.inr ⟨(hw _ (List.mem_of_getElem? (i := 36) rfl)), rfl, hnm⟩) (hw _ (List.mem_of_getElem? (i := 6) rfl)) (ty := (.object "java/util/Optional")) (by decide) rfl rfl (g := (mkF m 97 #[.val (.ref a1), .val (.ref a2), .val (.ref a3), .val .null, .val (.int (3 : Int32))] [.null, (.ref a1)])) rfl rfl (hb hby d2_97)
  refine OwnR.of (st17) ?_
  have F17 := Fld.same W17 (Fld.other W16 (Fld.ext E14 (Fld.other W13 (Fld.ext E11 F_unit_a1) (Or.inr (slot_ne (Or.inr (hw _ (List.mem_of_getElem? (i := 36) rfl))) (Or.inr (hw _ (List.mem_of_getElem? (i := 26) rfl))) (by decide) (t := (.object "java/util/Optional")) (t' := (.array .int)) (by decide) (by decide))))) (Or.inr (slot_ne (Or.inr (hw _ (List.mem_of_getElem? (i := 36) rfl))) (Or.inr (hw _ (List.mem_of_getElem? (i := 34) rfl))) (by decide) (t := (.object "java/util/Optional")) (t' := (.array .double)) (by decide) (by decide))))
  have K17 : Keep h0 h17 [a1] := Keep.wr K16 W17 (Or.inl (List.mem_of_getElem? (i := 0) rfl))
  have N17 := Fr.snoc X17 N16 g_a1
  show OwnR _ _ _ _ _ _ _ (T17.setTop (mkF m 100 #[.val (.ref a1), .val (.ref a2), .val (.ref a3), .val .null, .val (.int (3 : Int32))] []))
  refine own_leafV X17 hx hlk Bd.returns (hb hby d2_100) (by decide) (by decide) ?_
  show Q2_3 Z a1 k2 x0 x1 x2 h0 n0 _ T17.heap _
  rw [show T17.heap = h17 from e17]
  refine ⟨b11, rfl, N17, ⟨K17, (Exa.keep E_a1 K17), (Fld.other W17 (Fld.other W16 (Fld.ext E14 F13) (Or.inr (slot_ne (Or.inr (hw _ (List.mem_of_getElem? (i := 26) rfl))) (Or.inr (hw _ (List.mem_of_getElem? (i := 34) rfl))) (by decide) (t := (.array .int)) (t' := (.array .double)) (by decide) (by decide)))) (Or.inr (slot_ne (Or.inr (hw _ (List.mem_of_getElem? (i := 26) rfl))) (Or.inr (hw _ (List.mem_of_getElem? (i := 36) rfl))) (by decide) (t := (.array .int)) (t' := (.object "java/util/Optional")) (by decide) (by decide)))), (Arv.other (Arv.other (Arv.ext (Arv.other V11 W13 (Ne.symm (Nat.ne_of_lt (Nat.lt_of_lt_of_le E_a1.lt (Nat.le_of_eq g11.symm))))) E14) W16 (Ne.symm (Nat.ne_of_lt (Nat.lt_of_lt_of_le E_a1.lt (Nat.le_of_eq g11.symm))))) W17 (Ne.symm (Nat.ne_of_lt (Nat.lt_of_lt_of_le E_a1.lt (Nat.le_of_eq g11.symm)))))⟩⟩
theorem ef_rm4_3_1 (m : MethodId) (x0 : Addr) : entryFrame m #[(.ref x0), (.int (1 : Int32))] 2 = mkF m 0 #[.val (.ref x0), .val (.int (1 : Int32))] [] := by first | (simp [entryFrame, mkF, argsToLocals, Value.category]; done) | rfl
def Q4_3_1 (Z : State) (x0 : Int32) (x1 : Int32) (h0 : Heap) (n0 : Nat) (v : Option Value) (h : Heap) (L : List Loc) : Prop := v = some (.double (FP.ddiv (FP.i2d x0) (FP.i2d x1))) ∧ Fr n0 L ∧ h = h0
set_option maxRecDepth 65536 in
set_option maxHeartbeats 40000000 in
theorem rm4_3_1 (l : Launch) (Z : State) (a0 : Array Value) (hw : ∀ d ∈ tables_1, d.before a0 Z = true) (ws : List Jvm.Cond) (a1 : Addr) (a2 : Addr) (k2 : ClassId) (x0 x1 x2 : Int32) (h0 : Heap) (n0 : Nat) (Z0 : n0 ≤ h0.size) (E_a1 : Exa Z h0 a1 "com/example/ramification/ramification/model/StrahlerOrders") (F_branches_a1 : Fld Z h0 a1 "com/example/ramification/ramification/model/StrahlerOrders" "branches" "[I" (.ref a2)) (V_a2 : Arv Z h0 a2 k2 .int (3 : Int32) [(.int x0), (.int x1), (.int x2)] (.int (0 : Int32))) (hxo : ¬ (x1 < (1 : Int32))) :
    MetFree l (⟨"com/example/ramification/ramification/model/StrahlerOrders", "getBifurcationRatio", "(I)D"⟩ : MethodName) (head1 (Jvm.Cond.code (⟨"com/example/ramification/ramification/model/StrahlerOrders", "getBifurcationRatio", "(I)D"⟩ : MethodName) prog_88_method_6_code 2 (some .double) :: ws) ({ frames := 0, cells := 0, slots := 0, locals := 0 } : Room)) (fun a U => a = #[(.ref a1), (.int (1 : Int32))] ∧ Z.Warmed39 U.vm ∧ U.heap = h0) (fun _ _ _ _ _ => True) (fun _ U o U' => ∃ v L, o = .returned v ∧ Q4_3_1 Z x0 x1 h0 n0 v U'.heap L ∧ FrameEnd U o U' L ({ frames := 0, cells := 0, slots := 0, locals := 0 } : Room).cells ({ frames := 0, cells := 0, slots := 0, locals := 0 } : Room).slots) := by
  refine MetFree.of_bodySF (plainFor_of_name pn_com_example_ramification_ramification_model_StrahlerOrders) hisR ?_
  intro p e s m args below meth c s₁ Bd hml0 hP hK
  obtain ⟨rfl, hZ, hh⟩ := hP
  have hx := Bd.exec
  have hby := Bd.bytes
  have hlk := BodyLoose.notSynchronized Bd
  have hml : c.maxLocals = 2 := hml0
  have hown : s.vm.findClass "com/example/ramification/ramification/model/StrahlerOrders" = some m.cls := findClass_of_methodNamed Bd.named
  have hnm := (name_of_methodNamed Bd.named Bd.method).1
  have X0 : Stand p l e ({ frames := 0, cells := 0, slots := 0, locals := 0 } : Room) s m #[(.ref a1), (.int (1 : Int32))] below meth c s₁ [] 0 0 := Stand.of_body Bd
  have e0 : s₁.heap = h0 := by rw [← hh, Bd.state]; rfl
  have N0 := Fr.nil n0
  refine OwnR.of (s := s) (Q := Q4_3_1 Z x0 x1 h0 n0) (fun t k => castTop (ef_rm4_3_1 m a1) k) ?_
  show OwnR _ _ _ _ _ _ _ (s₁.setTop (mkF m 0 #[.val (.ref a1), .val (.int (1 : Int32))] []))
  refine OwnR.of (fun _ hr => XS.iloadN X0.here hx rfl (hb hby d4_0) rfl hr) ?_
  show OwnR _ _ _ _ _ _ _ (s₁.setTop (mkF m 1 #[.val (.ref a1), .val (.int (1 : Int32))] [(.int (1 : Int32))]))
  refine OwnR.of (fun _ hr => XS.aloadN X0.here hx rfl (hb hby d4_1) rfl rfl hr) ?_
  show OwnR _ _ _ _ _ _ _ (s₁.setTop (mkF m 2 #[.val (.ref a1), .val (.int (1 : Int32))] [(.ref a1), (.int (1 : Int32))]))
  obtain ⟨T1, X1, e1, st1⟩ := getF X0 hx hZ hown (host := "") (Or.inl (hw _ (List.mem_of_getElem? (i := 25) rfl))) Via.refl e0 F_branches_a1 (g := (mkF m 2 #[.val (.ref a1), .val (.int (1 : Int32))] [(.ref a1), (.int (1 : Int32))])) rfl rfl (hb hby d4_2)
  refine OwnR.of (st1) ?_
  show OwnR _ _ _ _ _ _ _ (T1.setTop (mkF m 5 #[.val (.ref a1), .val (.int (1 : Int32))] [(.ref a2), (.int (1 : Int32))]))
  obtain ⟨cl2, Ar2, -, S2, N2, -, -⟩ := id V_a2
  refine OwnR.of (X1.arraylength hx (by rw [e1]; exact Ar2.1) (State.isArrayOf_alike hZ.alike Ar2.2.1) (g := (mkF m 5 #[.val (.ref a1), .val (.int (1 : Int32))] [(.ref a2), (.int (1 : Int32))])) rfl rfl (hb hby d4_5)) ?_
  show OwnR _ _ _ _ _ _ _ (T1.setTop (mkF m 6 #[.val (.ref a1), .val (.int (1 : Int32))] [(.int cl2.slots.size.toInt32), (.int (1 : Int32))]))
  rw [len_of S2 N2]
  show OwnR _ _ _ _ _ _ _ (T1.setTop (mkF m 6 #[.val (.ref a1), .val (.int (1 : Int32))] [(.int (3 : Int32)), (.int (1 : Int32))]))
  refine OwnR.of (fun _ hr => XS.icmpNo X1.here hx rfl (hb hby d4_6) rfl (tlt (by decide : (1 : Int32) < (3 : Int32))).2.1 hr) ?_
  show OwnR _ _ _ _ _ _ _ (T1.setTop (mkF m 9 #[.val (.ref a1), .val (.int (1 : Int32))] []))
  refine OwnR.of (fun _ hr => XS.aloadN X1.here hx rfl (hb hby d4_9) rfl rfl hr) ?_
  show OwnR _ _ _ _ _ _ _ (T1.setTop (mkF m 10 #[.val (.ref a1), .val (.int (1 : Int32))] [(.ref a1)]))
  obtain ⟨T3, X3, e3, st3⟩ := getF X1 hx hZ hown (host := "") (Or.inl (hw _ (List.mem_of_getElem? (i := 25) rfl))) Via.refl e1 F_branches_a1 (g := (mkF m 10 #[.val (.ref a1), .val (.int (1 : Int32))] [(.ref a1)])) rfl rfl (hb hby d4_10)
  refine OwnR.of (st3) ?_
  show OwnR _ _ _ _ _ _ _ (T3.setTop (mkF m 13 #[.val (.ref a1), .val (.int (1 : Int32))] [(.ref a2)]))
  refine OwnR.of (fun _ hr => XS.iloadN X3.here hx rfl (hb hby d4_13) rfl hr) ?_
  show OwnR _ _ _ _ _ _ _ (T3.setTop (mkF m 14 #[.val (.ref a1), .val (.int (1 : Int32))] [(.int (1 : Int32)), (.ref a2)]))
  refine OwnR.of (fun _ hr => XS.iconst X3.here hx rfl (hb hby d4_14) hr) ?_
  show OwnR _ _ _ _ _ _ _ (T3.setTop (mkF m 15 #[.val (.ref a1), .val (.int (1 : Int32))] [(.int (1 : Int32)), (.int (1 : Int32)), (.ref a2)]))
  refine OwnR.of (fun _ hr => XS.isub X3.here hx rfl (hb hby d4_15) rfl hr) ?_
  show OwnR _ _ _ _ _ _ _ (T3.setTop (mkF m 16 #[.val (.ref a1), .val (.int (1 : Int32))] [(.int ((1 : Int32) - (1 : Int32))), (.ref a2)]))
  rw [(by decide : ((1 : Int32) - (1 : Int32)) = (0 : Int32))]
  show OwnR _ _ _ _ _ _ _ (T3.setTop (mkF m 16 #[.val (.ref a1), .val (.int (1 : Int32))] [(.int (0 : Int32)), (.ref a2)]))
  obtain ⟨cl4, Ar4, -, S4, N4, H4, G4⟩ := id V_a2
  have hin4 : ¬ ((0 : Int32) < 0 ∨ cl4.slots.size ≤ ((0 : Int32)).toNatClampNeg) := (inb_of S4 ⟨by decide, by decide⟩)
  refine OwnR.of (X3.iaload hx (j := (0 : Int32)) (v := (.int x0)) (by rw [e3]; exact Ar4.1) (State.isArrayOf_alike hZ.alike Ar4.2.1) Ar4.2.2 hin4 (Has.at H4 hin4 rfl) (g := (mkF m 16 #[.val (.ref a1), .val (.int (1 : Int32))] [(.int (0 : Int32)), (.ref a2)])) rfl rfl (hb hby d4_16)) ?_
  show OwnR _ _ _ _ _ _ _ (T3.setTop (mkF m 17 #[.val (.ref a1), .val (.int (1 : Int32))] [(.int x0)]))
  refine OwnR.of (fun _ hr => XS.i2dS X3.here hx rfl (hb hby d4_17) rfl rfl hr) ?_
  show OwnR _ _ _ _ _ _ _ (T3.setTop (mkF m 18 #[.val (.ref a1), .val (.int (1 : Int32))] [(.double (FP.i2d x0))]))
  refine OwnR.of (fun _ hr => XS.aloadN X3.here hx rfl (hb hby d4_18) rfl rfl hr) ?_
  show OwnR _ _ _ _ _ _ _ (T3.setTop (mkF m 19 #[.val (.ref a1), .val (.int (1 : Int32))] [(.ref a1), (.double (FP.i2d x0))]))
  obtain ⟨T5, X5, e5, st5⟩ := getF X3 hx hZ hown (host := "") (Or.inl (hw _ (List.mem_of_getElem? (i := 25) rfl))) Via.refl e3 F_branches_a1 (g := (mkF m 19 #[.val (.ref a1), .val (.int (1 : Int32))] [(.ref a1), (.double (FP.i2d x0))])) rfl rfl (hb hby d4_19)
  refine OwnR.of (st5) ?_
  show OwnR _ _ _ _ _ _ _ (T5.setTop (mkF m 22 #[.val (.ref a1), .val (.int (1 : Int32))] [(.ref a2), (.double (FP.i2d x0))]))
  refine OwnR.of (fun _ hr => XS.iloadN X5.here hx rfl (hb hby d4_22) rfl hr) ?_
  show OwnR _ _ _ _ _ _ _ (T5.setTop (mkF m 23 #[.val (.ref a1), .val (.int (1 : Int32))] [(.int (1 : Int32)), (.ref a2), (.double (FP.i2d x0))]))
  obtain ⟨cl6, Ar6, -, S6, N6, H6, G6⟩ := id V_a2
  have hin6 : ¬ ((1 : Int32) < 0 ∨ cl6.slots.size ≤ ((1 : Int32)).toNatClampNeg) := (inb_of S6 ⟨by decide, by decide⟩)
  refine OwnR.of (X5.iaload hx (j := (1 : Int32)) (v := (.int x1)) (by rw [e5]; exact Ar6.1) (State.isArrayOf_alike hZ.alike Ar6.2.1) Ar6.2.2 hin6 (Has.at H6 hin6 rfl) (g := (mkF m 23 #[.val (.ref a1), .val (.int (1 : Int32))] [(.int (1 : Int32)), (.ref a2), (.double (FP.i2d x0))])) rfl rfl (hb hby d4_23)) ?_
  show OwnR _ _ _ _ _ _ _ (T5.setTop (mkF m 24 #[.val (.ref a1), .val (.int (1 : Int32))] [(.int x1), (.double (FP.i2d x0))]))
  refine OwnR.of (fun _ hr => XS.i2dS X5.here hx rfl (hb hby d4_24) rfl rfl hr) ?_
  show OwnR _ _ _ _ _ _ _ (T5.setTop (mkF m 25 #[.val (.ref a1), .val (.int (1 : Int32))] [(.double (FP.i2d x1)), (.double (FP.i2d x0))]))
  refine OwnR.of (fun _ hr => XS.ddivS X5.here hx rfl (hb hby d4_25) rfl (own_nn x0 hxo) rfl hr) ?_
  show OwnR _ _ _ _ _ _ _ (T5.setTop (mkF m 26 #[.val (.ref a1), .val (.int (1 : Int32))] [(.double (FP.ddiv (FP.i2d x0) (FP.i2d x1)))]))
  refine OwnR.of (fun _ hr => XS.goto X5.here hx rfl (pc0 := 26) (pc' := 32) rfl (hb hby d4_26) (by decide) (by decide) hr) ?_
  show OwnR _ _ _ _ _ _ _ (T5.setTop (mkF m 32 #[.val (.ref a1), .val (.int (1 : Int32))] [(.double (FP.ddiv (FP.i2d x0) (FP.i2d x1)))]))
  refine own_leafD X5 hx hlk Bd.returns (hb hby d4_32) (by decide) (by decide) ?_
  show Q4_3_1 Z x0 x1 h0 n0 _ T5.heap _
  rw [show T5.heap = h0 from e5]
  refine ⟨?_, N0, rfl⟩
  show (some (.double (FP.ddiv (FP.i2d x0) (FP.i2d x1))) : Option Value) = some (.double (FP.ddiv (FP.i2d x0) (FP.i2d x1)))
  rfl
theorem ef_rm4_3_2 (m : MethodId) (x0 : Addr) : entryFrame m #[(.ref x0), (.int (2 : Int32))] 2 = mkF m 0 #[.val (.ref x0), .val (.int (2 : Int32))] [] := by first | (simp [entryFrame, mkF, argsToLocals, Value.category]; done) | rfl
def Q4_3_2 (Z : State) (x1 : Int32) (x2 : Int32) (h0 : Heap) (n0 : Nat) (v : Option Value) (h : Heap) (L : List Loc) : Prop := v = some (.double (FP.ddiv (FP.i2d x1) (FP.i2d x2))) ∧ Fr n0 L ∧ h = h0
set_option maxRecDepth 65536 in
set_option maxHeartbeats 40000000 in
theorem rm4_3_2 (l : Launch) (Z : State) (a0 : Array Value) (hw : ∀ d ∈ tables_1, d.before a0 Z = true) (ws : List Jvm.Cond) (a1 : Addr) (a2 : Addr) (k2 : ClassId) (x0 x1 x2 : Int32) (h0 : Heap) (n0 : Nat) (Z0 : n0 ≤ h0.size) (E_a1 : Exa Z h0 a1 "com/example/ramification/ramification/model/StrahlerOrders") (F_branches_a1 : Fld Z h0 a1 "com/example/ramification/ramification/model/StrahlerOrders" "branches" "[I" (.ref a2)) (V_a2 : Arv Z h0 a2 k2 .int (3 : Int32) [(.int x0), (.int x1), (.int x2)] (.int (0 : Int32))) (hxo : ¬ (x2 < (1 : Int32))) :
    MetFree l (⟨"com/example/ramification/ramification/model/StrahlerOrders", "getBifurcationRatio", "(I)D"⟩ : MethodName) (head1 (Jvm.Cond.code (⟨"com/example/ramification/ramification/model/StrahlerOrders", "getBifurcationRatio", "(I)D"⟩ : MethodName) prog_88_method_6_code 2 (some .double) :: ws) ({ frames := 0, cells := 0, slots := 0, locals := 0 } : Room)) (fun a U => a = #[(.ref a1), (.int (2 : Int32))] ∧ Z.Warmed39 U.vm ∧ U.heap = h0) (fun _ _ _ _ _ => True) (fun _ U o U' => ∃ v L, o = .returned v ∧ Q4_3_2 Z x1 x2 h0 n0 v U'.heap L ∧ FrameEnd U o U' L ({ frames := 0, cells := 0, slots := 0, locals := 0 } : Room).cells ({ frames := 0, cells := 0, slots := 0, locals := 0 } : Room).slots) := by
  refine MetFree.of_bodySF (plainFor_of_name pn_com_example_ramification_ramification_model_StrahlerOrders) hisR ?_
  intro p e s m args below meth c s₁ Bd hml0 hP hK
  obtain ⟨rfl, hZ, hh⟩ := hP
  have hx := Bd.exec
  have hby := Bd.bytes
  have hlk := BodyLoose.notSynchronized Bd
  have hml : c.maxLocals = 2 := hml0
  have hown : s.vm.findClass "com/example/ramification/ramification/model/StrahlerOrders" = some m.cls := findClass_of_methodNamed Bd.named
  have hnm := (name_of_methodNamed Bd.named Bd.method).1
  have X0 : Stand p l e ({ frames := 0, cells := 0, slots := 0, locals := 0 } : Room) s m #[(.ref a1), (.int (2 : Int32))] below meth c s₁ [] 0 0 := Stand.of_body Bd
  have e0 : s₁.heap = h0 := by rw [← hh, Bd.state]; rfl
  have N0 := Fr.nil n0
  refine OwnR.of (s := s) (Q := Q4_3_2 Z x1 x2 h0 n0) (fun t k => castTop (ef_rm4_3_2 m a1) k) ?_
  show OwnR _ _ _ _ _ _ _ (s₁.setTop (mkF m 0 #[.val (.ref a1), .val (.int (2 : Int32))] []))
  refine OwnR.of (fun _ hr => XS.iloadN X0.here hx rfl (hb hby d4_0) rfl hr) ?_
  show OwnR _ _ _ _ _ _ _ (s₁.setTop (mkF m 1 #[.val (.ref a1), .val (.int (2 : Int32))] [(.int (2 : Int32))]))
  refine OwnR.of (fun _ hr => XS.aloadN X0.here hx rfl (hb hby d4_1) rfl rfl hr) ?_
  show OwnR _ _ _ _ _ _ _ (s₁.setTop (mkF m 2 #[.val (.ref a1), .val (.int (2 : Int32))] [(.ref a1), (.int (2 : Int32))]))
  obtain ⟨T1, X1, e1, st1⟩ := getF X0 hx hZ hown (host := "") (Or.inl (hw _ (List.mem_of_getElem? (i := 25) rfl))) Via.refl e0 F_branches_a1 (g := (mkF m 2 #[.val (.ref a1), .val (.int (2 : Int32))] [(.ref a1), (.int (2 : Int32))])) rfl rfl (hb hby d4_2)
  refine OwnR.of (st1) ?_
  show OwnR _ _ _ _ _ _ _ (T1.setTop (mkF m 5 #[.val (.ref a1), .val (.int (2 : Int32))] [(.ref a2), (.int (2 : Int32))]))
  obtain ⟨cl2, Ar2, -, S2, N2, -, -⟩ := id V_a2
  refine OwnR.of (X1.arraylength hx (by rw [e1]; exact Ar2.1) (State.isArrayOf_alike hZ.alike Ar2.2.1) (g := (mkF m 5 #[.val (.ref a1), .val (.int (2 : Int32))] [(.ref a2), (.int (2 : Int32))])) rfl rfl (hb hby d4_5)) ?_
  show OwnR _ _ _ _ _ _ _ (T1.setTop (mkF m 6 #[.val (.ref a1), .val (.int (2 : Int32))] [(.int cl2.slots.size.toInt32), (.int (2 : Int32))]))
  rw [len_of S2 N2]
  show OwnR _ _ _ _ _ _ _ (T1.setTop (mkF m 6 #[.val (.ref a1), .val (.int (2 : Int32))] [(.int (3 : Int32)), (.int (2 : Int32))]))
  refine OwnR.of (fun _ hr => XS.icmpNo X1.here hx rfl (hb hby d4_6) rfl (tlt (by decide : (2 : Int32) < (3 : Int32))).2.1 hr) ?_
  show OwnR _ _ _ _ _ _ _ (T1.setTop (mkF m 9 #[.val (.ref a1), .val (.int (2 : Int32))] []))
  refine OwnR.of (fun _ hr => XS.aloadN X1.here hx rfl (hb hby d4_9) rfl rfl hr) ?_
  show OwnR _ _ _ _ _ _ _ (T1.setTop (mkF m 10 #[.val (.ref a1), .val (.int (2 : Int32))] [(.ref a1)]))
  obtain ⟨T3, X3, e3, st3⟩ := getF X1 hx hZ hown (host := "") (Or.inl (hw _ (List.mem_of_getElem? (i := 25) rfl))) Via.refl e1 F_branches_a1 (g := (mkF m 10 #[.val (.ref a1), .val (.int (2 : Int32))] [(.ref a1)])) rfl rfl (hb hby d4_10)
  refine OwnR.of (st3) ?_
  show OwnR _ _ _ _ _ _ _ (T3.setTop (mkF m 13 #[.val (.ref a1), .val (.int (2 : Int32))] [(.ref a2)]))
  refine OwnR.of (fun _ hr => XS.iloadN X3.here hx rfl (hb hby d4_13) rfl hr) ?_
  show OwnR _ _ _ _ _ _ _ (T3.setTop (mkF m 14 #[.val (.ref a1), .val (.int (2 : Int32))] [(.int (2 : Int32)), (.ref a2)]))
  refine OwnR.of (fun _ hr => XS.iconst X3.here hx rfl (hb hby d4_14) hr) ?_
  show OwnR _ _ _ _ _ _ _ (T3.setTop (mkF m 15 #[.val (.ref a1), .val (.int (2 : Int32))] [(.int (1 : Int32)), (.int (2 : Int32)), (.ref a2)]))
  refine OwnR.of (fun _ hr => XS.isub X3.here hx rfl (hb hby d4_15) rfl hr) ?_
  show OwnR _ _ _ _ _ _ _ (T3.setTop (mkF m 16 #[.val (.ref a1), .val (.int (2 : Int32))] [(.int ((2 : Int32) - (1 : Int32))), (.ref a2)]))
  rw [(by decide : ((2 : Int32) - (1 : Int32)) = (1 : Int32))]
  show OwnR _ _ _ _ _ _ _ (T3.setTop (mkF m 16 #[.val (.ref a1), .val (.int (2 : Int32))] [(.int (1 : Int32)), (.ref a2)]))
  obtain ⟨cl4, Ar4, -, S4, N4, H4, G4⟩ := id V_a2
  have hin4 : ¬ ((1 : Int32) < 0 ∨ cl4.slots.size ≤ ((1 : Int32)).toNatClampNeg) := (inb_of S4 ⟨by decide, by decide⟩)
  refine OwnR.of (X3.iaload hx (j := (1 : Int32)) (v := (.int x1)) (by rw [e3]; exact Ar4.1) (State.isArrayOf_alike hZ.alike Ar4.2.1) Ar4.2.2 hin4 (Has.at H4 hin4 rfl) (g := (mkF m 16 #[.val (.ref a1), .val (.int (2 : Int32))] [(.int (1 : Int32)), (.ref a2)])) rfl rfl (hb hby d4_16)) ?_
  show OwnR _ _ _ _ _ _ _ (T3.setTop (mkF m 17 #[.val (.ref a1), .val (.int (2 : Int32))] [(.int x1)]))
  refine OwnR.of (fun _ hr => XS.i2dS X3.here hx rfl (hb hby d4_17) rfl rfl hr) ?_
  show OwnR _ _ _ _ _ _ _ (T3.setTop (mkF m 18 #[.val (.ref a1), .val (.int (2 : Int32))] [(.double (FP.i2d x1))]))
  refine OwnR.of (fun _ hr => XS.aloadN X3.here hx rfl (hb hby d4_18) rfl rfl hr) ?_
  show OwnR _ _ _ _ _ _ _ (T3.setTop (mkF m 19 #[.val (.ref a1), .val (.int (2 : Int32))] [(.ref a1), (.double (FP.i2d x1))]))
  obtain ⟨T5, X5, e5, st5⟩ := getF X3 hx hZ hown (host := "") (Or.inl (hw _ (List.mem_of_getElem? (i := 25) rfl))) Via.refl e3 F_branches_a1 (g := (mkF m 19 #[.val (.ref a1), .val (.int (2 : Int32))] [(.ref a1), (.double (FP.i2d x1))])) rfl rfl (hb hby d4_19)
  refine OwnR.of (st5) ?_
  show OwnR _ _ _ _ _ _ _ (T5.setTop (mkF m 22 #[.val (.ref a1), .val (.int (2 : Int32))] [(.ref a2), (.double (FP.i2d x1))]))
  refine OwnR.of (fun _ hr => XS.iloadN X5.here hx rfl (hb hby d4_22) rfl hr) ?_
  show OwnR _ _ _ _ _ _ _ (T5.setTop (mkF m 23 #[.val (.ref a1), .val (.int (2 : Int32))] [(.int (2 : Int32)), (.ref a2), (.double (FP.i2d x1))]))
  obtain ⟨cl6, Ar6, -, S6, N6, H6, G6⟩ := id V_a2
  have hin6 : ¬ ((2 : Int32) < 0 ∨ cl6.slots.size ≤ ((2 : Int32)).toNatClampNeg) := (inb_of S6 ⟨by decide, by decide⟩)
  refine OwnR.of (X5.iaload hx (j := (2 : Int32)) (v := (.int x2)) (by rw [e5]; exact Ar6.1) (State.isArrayOf_alike hZ.alike Ar6.2.1) Ar6.2.2 hin6 (Has.at H6 hin6 rfl) (g := (mkF m 23 #[.val (.ref a1), .val (.int (2 : Int32))] [(.int (2 : Int32)), (.ref a2), (.double (FP.i2d x1))])) rfl rfl (hb hby d4_23)) ?_
  show OwnR _ _ _ _ _ _ _ (T5.setTop (mkF m 24 #[.val (.ref a1), .val (.int (2 : Int32))] [(.int x2), (.double (FP.i2d x1))]))
  refine OwnR.of (fun _ hr => XS.i2dS X5.here hx rfl (hb hby d4_24) rfl rfl hr) ?_
  show OwnR _ _ _ _ _ _ _ (T5.setTop (mkF m 25 #[.val (.ref a1), .val (.int (2 : Int32))] [(.double (FP.i2d x2)), (.double (FP.i2d x1))]))
  refine OwnR.of (fun _ hr => XS.ddivS X5.here hx rfl (hb hby d4_25) rfl (own_nn x1 hxo) rfl hr) ?_
  show OwnR _ _ _ _ _ _ _ (T5.setTop (mkF m 26 #[.val (.ref a1), .val (.int (2 : Int32))] [(.double (FP.ddiv (FP.i2d x1) (FP.i2d x2)))]))
  refine OwnR.of (fun _ hr => XS.goto X5.here hx rfl (pc0 := 26) (pc' := 32) rfl (hb hby d4_26) (by decide) (by decide) hr) ?_
  show OwnR _ _ _ _ _ _ _ (T5.setTop (mkF m 32 #[.val (.ref a1), .val (.int (2 : Int32))] [(.double (FP.ddiv (FP.i2d x1) (FP.i2d x2)))]))
  refine own_leafD X5 hx hlk Bd.returns (hb hby d4_32) (by decide) (by decide) ?_
  show Q4_3_2 Z x1 x2 h0 n0 _ T5.heap _
  rw [show T5.heap = h0 from e5]
  refine ⟨?_, N0, rfl⟩
  show (some (.double (FP.ddiv (FP.i2d x1) (FP.i2d x2))) : Option Value) = some (.double (FP.ddiv (FP.i2d x1) (FP.i2d x2)))
  rfl
theorem ef_rm4_3_3 (m : MethodId) (x0 : Addr) : entryFrame m #[(.ref x0), (.int (3 : Int32))] 2 = mkF m 0 #[.val (.ref x0), .val (.int (3 : Int32))] [] := by first | (simp [entryFrame, mkF, argsToLocals, Value.category]; done) | rfl
def Q4_3_3 (Z : State)  (h0 : Heap) (n0 : Nat) (v : Option Value) (h : Heap) (L : List Loc) : Prop := v = some (.double (9221120237041090560 : UInt64)) ∧ Fr n0 L ∧ h = h0
set_option maxRecDepth 65536 in
set_option maxHeartbeats 40000000 in
theorem rm4_3_3 (l : Launch) (Z : State) (a0 : Array Value) (hw : ∀ d ∈ tables_1, d.before a0 Z = true) (ws : List Jvm.Cond) (a1 : Addr) (a2 : Addr) (k2 : ClassId) (x0 x1 x2 : Int32) (h0 : Heap) (n0 : Nat) (Z0 : n0 ≤ h0.size) (E_a1 : Exa Z h0 a1 "com/example/ramification/ramification/model/StrahlerOrders") (F_branches_a1 : Fld Z h0 a1 "com/example/ramification/ramification/model/StrahlerOrders" "branches" "[I" (.ref a2)) (V_a2 : Arv Z h0 a2 k2 .int (3 : Int32) [(.int x0), (.int x1), (.int x2)] (.int (0 : Int32))) :
    MetFree l (⟨"com/example/ramification/ramification/model/StrahlerOrders", "getBifurcationRatio", "(I)D"⟩ : MethodName) (head1 (Jvm.Cond.code (⟨"com/example/ramification/ramification/model/StrahlerOrders", "getBifurcationRatio", "(I)D"⟩ : MethodName) prog_88_method_6_code 2 (some .double) :: ws) ({ frames := 0, cells := 0, slots := 0, locals := 0 } : Room)) (fun a U => a = #[(.ref a1), (.int (3 : Int32))] ∧ Z.Warmed39 U.vm ∧ U.heap = h0) (fun _ _ _ _ _ => True) (fun _ U o U' => ∃ v L, o = .returned v ∧ Q4_3_3 Z  h0 n0 v U'.heap L ∧ FrameEnd U o U' L ({ frames := 0, cells := 0, slots := 0, locals := 0 } : Room).cells ({ frames := 0, cells := 0, slots := 0, locals := 0 } : Room).slots) := by
  refine MetFree.of_bodySF (plainFor_of_name pn_com_example_ramification_ramification_model_StrahlerOrders) hisR ?_
  intro p e s m args below meth c s₁ Bd hml0 hP hK
  obtain ⟨rfl, hZ, hh⟩ := hP
  have hx := Bd.exec
  have hby := Bd.bytes
  have hlk := BodyLoose.notSynchronized Bd
  have hml : c.maxLocals = 2 := hml0
  have hown : s.vm.findClass "com/example/ramification/ramification/model/StrahlerOrders" = some m.cls := findClass_of_methodNamed Bd.named
  have hnm := (name_of_methodNamed Bd.named Bd.method).1
  have X0 : Stand p l e ({ frames := 0, cells := 0, slots := 0, locals := 0 } : Room) s m #[(.ref a1), (.int (3 : Int32))] below meth c s₁ [] 0 0 := Stand.of_body Bd
  have e0 : s₁.heap = h0 := by rw [← hh, Bd.state]; rfl
  have N0 := Fr.nil n0
  refine OwnR.of (s := s) (Q := Q4_3_3 Z  h0 n0) (fun t k => castTop (ef_rm4_3_3 m a1) k) ?_
  show OwnR _ _ _ _ _ _ _ (s₁.setTop (mkF m 0 #[.val (.ref a1), .val (.int (3 : Int32))] []))
  refine OwnR.of (fun _ hr => XS.iloadN X0.here hx rfl (hb hby d4_0) rfl hr) ?_
  show OwnR _ _ _ _ _ _ _ (s₁.setTop (mkF m 1 #[.val (.ref a1), .val (.int (3 : Int32))] [(.int (3 : Int32))]))
  refine OwnR.of (fun _ hr => XS.aloadN X0.here hx rfl (hb hby d4_1) rfl rfl hr) ?_
  show OwnR _ _ _ _ _ _ _ (s₁.setTop (mkF m 2 #[.val (.ref a1), .val (.int (3 : Int32))] [(.ref a1), (.int (3 : Int32))]))
  obtain ⟨T1, X1, e1, st1⟩ := getF X0 hx hZ hown (host := "") (Or.inl (hw _ (List.mem_of_getElem? (i := 25) rfl))) Via.refl e0 F_branches_a1 (g := (mkF m 2 #[.val (.ref a1), .val (.int (3 : Int32))] [(.ref a1), (.int (3 : Int32))])) rfl rfl (hb hby d4_2)
  refine OwnR.of (st1) ?_
  show OwnR _ _ _ _ _ _ _ (T1.setTop (mkF m 5 #[.val (.ref a1), .val (.int (3 : Int32))] [(.ref a2), (.int (3 : Int32))]))
  obtain ⟨cl2, Ar2, -, S2, N2, -, -⟩ := id V_a2
  refine OwnR.of (X1.arraylength hx (by rw [e1]; exact Ar2.1) (State.isArrayOf_alike hZ.alike Ar2.2.1) (g := (mkF m 5 #[.val (.ref a1), .val (.int (3 : Int32))] [(.ref a2), (.int (3 : Int32))])) rfl rfl (hb hby d4_5)) ?_
  show OwnR _ _ _ _ _ _ _ (T1.setTop (mkF m 6 #[.val (.ref a1), .val (.int (3 : Int32))] [(.int cl2.slots.size.toInt32), (.int (3 : Int32))]))
  rw [len_of S2 N2]
  show OwnR _ _ _ _ _ _ _ (T1.setTop (mkF m 6 #[.val (.ref a1), .val (.int (3 : Int32))] [(.int (3 : Int32)), (.int (3 : Int32))]))
  refine OwnR.of (fun _ hr => XS.icmpYes X1.here hx rfl (pc0 := 6) (pc' := 29) rfl (hb hby d4_6) rfl (flt (by decide : ¬ ((3 : Int32) < (3 : Int32)))).2.1 (by decide) (by decide) hr) ?_
  show OwnR _ _ _ _ _ _ _ (T1.setTop (mkF m 29 #[.val (.ref a1), .val (.int (3 : Int32))] []))
  refine OwnR.of (X1.ldc2DoubleC hx hown (mvT hZ (hw _ (List.mem_of_getElem? (i := 42) rfl))) (g := (mkF m 29 #[.val (.ref a1), .val (.int (3 : Int32))] [])) rfl (hb hby d4_29)) ?_
  show OwnR _ _ _ _ _ _ _ (T1.setTop (mkF m 32 #[.val (.ref a1), .val (.int (3 : Int32))] [(.double (9221120237041090560 : UInt64))]))
  refine own_leafD X1 hx hlk Bd.returns (hb hby d4_32) (by decide) (by decide) ?_
  show Q4_3_3 Z  h0 n0 _ T1.heap _
  rw [show T1.heap = h0 from e1]
  refine ⟨?_, N0, rfl⟩
  show (some (.double (9221120237041090560 : UInt64)) : Option Value) = some (.double (9221120237041090560 : UInt64))
  rfl
theorem pn_com_example_ramification_ramification_model_StrahlerOrdersGetBifurcationRatioPinLaw : plainName "com/example/ramification/ramification/model/StrahlerOrdersGetBifurcationRatioPinLaw" = true := by first | (simp [plainName, overriddenIn]; done) | decide +kernel
theorem ef_rm0 (m : MethodId) (x0 : Int32) (x1 : Int32) (x2 : Int32) (x3 : Int32) (x4 : Int32) : entryFrame m #[(.int x0), (.int x1), (.int x2), (.int x3), (.int x4)] maxLocals = mkF m 0 #[.val (.int x0), .val (.int x1), .val (.int x2), .val (.int x3), .val (.int x4), .unset, .unset, .unset, .unset, .unset, .unset, .unset, .unset, .unset, .unset] [] := by first | (simp [entryFrame, mkF, argsToLocals, Value.category, maxLocals]; done) | rfl
theorem pd__II_I : parseMethodDescriptor "(II)I" = some ⟨[.int, .int], some .int⟩ := by decide +kernel
theorem pd___I_DLjava_util_Optional__V : parseMethodDescriptor "([I[DLjava/util/Optional;)V" = some ⟨[(.array .int), (.array .double), (.object "java/util/Optional")], none⟩ := by decide +kernel
theorem pd__I_D : parseMethodDescriptor "(I)D" = some ⟨[.int], some .double⟩ := by decide +kernel
def Q0 (Z : State)  (h0 : Heap) (n0 : Nat) (v : Option Value) (h : Heap) (L : List Loc) : Prop := v = some (.int (1 : Int32)) ∧ Fr n0 L
set_option maxRecDepth 65536 in
set_option maxHeartbeats 40000000 in
theorem rm0 (l : Launch) (Z : State) (a0 : Array Value) (hw : ∀ d ∈ tables_1, d.before a0 Z = true) (ws : List Jvm.Cond) (p1 : Int32) (p2 : Int32) (p3 : Int32) (p4 : Int32) (p5 : Int32) (h0 : Heap) (n0 : Nat) (Z0 : n0 ≤ h0.size) :
    MetFree l x (head1 (Jvm.Cond.code x code maxLocals ret :: ws) room_1) (fun a U => a = #[(.int p1), (.int p2), (.int p3), (.int p4), (.int p5)] ∧ Z.Warmed39 U.vm ∧ U.heap = h0) (fun _ _ _ _ _ => True) (fun _ U o U' => ∃ v L, o = .returned v ∧ Q0 Z  h0 n0 v U'.heap L ∧ FrameEnd U o U' L 24 128) := by
  refine MetFree.of_bodySF (plainFor_of_name pn_com_example_ramification_ramification_model_StrahlerOrdersGetBifurcationRatioPinLaw) hisR ?_
  intro p e s m args below meth c s₁ Bd hml0 hP hK
  obtain ⟨rfl, hZ, hh⟩ := hP
  have hx := Bd.exec
  have hby := Bd.bytes
  have hlk := BodyLoose.notSynchronized Bd
  have hml : c.maxLocals = 15 := hml0
  have hown : s.vm.findClass "com/example/ramification/ramification/model/StrahlerOrdersGetBifurcationRatioPinLaw" = some m.cls := findClass_of_methodNamed Bd.named
  have hnm := (name_of_methodNamed Bd.named Bd.method).1
  have X0 : Stand p l e room_1 s m #[(.int p1), (.int p2), (.int p3), (.int p4), (.int p5)] below meth c s₁ [] 0 0 := Stand.of_body Bd
  have e0 : s₁.heap = h0 := by rw [← hh, Bd.state]; rfl
  have N0 := Fr.nil n0
  refine OwnR.of (s := s) (Q := Q0 Z  h0 n0) (fun t k => castTop (ef_rm0 m p1 p2 p3 p4 p5) k) ?_
  show OwnR _ _ _ _ _ _ _ (s₁.setTop (mkF m 0 #[.val (.int p1), .val (.int p2), .val (.int p3), .val (.int p4), .val (.int p5), .unset, .unset, .unset, .unset, .unset, .unset, .unset, .unset, .unset, .unset] []))
  refine OwnR.of (fun _ hr => XS.iconst X0.here hx rfl (hb hby at_0) hr) ?_
  show OwnR _ _ _ _ _ _ _ (s₁.setTop (mkF m 1 #[.val (.int p1), .val (.int p2), .val (.int p3), .val (.int p4), .val (.int p5), .unset, .unset, .unset, .unset, .unset, .unset, .unset, .unset, .unset, .unset] [(.int (1 : Int32))]))
  refine OwnR.of (fun _ hr => XS.iloadN X0.here hx rfl (hb hby at_1) rfl hr) ?_
  show OwnR _ _ _ _ _ _ _ (s₁.setTop (mkF m 2 #[.val (.int p1), .val (.int p2), .val (.int p3), .val (.int p4), .val (.int p5), .unset, .unset, .unset, .unset, .unset, .unset, .unset, .unset, .unset, .unset] [(.int p1), (.int (1 : Int32))]))
  refine OwnR.of (X0.ldcInt hx hown (mvT hZ (hw _ (List.mem_of_getElem? (i := 0) rfl))) (g := (mkF m 2 #[.val (.int p1), .val (.int p2), .val (.int p3), .val (.int p4), .val (.int p5), .unset, .unset, .unset, .unset, .unset, .unset, .unset, .unset, .unset, .unset] [(.int p1), (.int (1 : Int32))])) rfl (hb hby at_2)) ?_
  show OwnR _ _ _ _ _ _ _ (s₁.setTop (mkF m 4 #[.val (.int p1), .val (.int p2), .val (.int p3), .val (.int p4), .val (.int p5), .unset, .unset, .unset, .unset, .unset, .unset, .unset, .unset, .unset, .unset] [(.int (2147483647 : Int32)), (.int p1), (.int (1 : Int32))]))
  refine OwnR.of (fun _ hr => XS.iand X0.here hx rfl (hb hby at_4) rfl hr) ?_
  show OwnR _ _ _ _ _ _ _ (s₁.setTop (mkF m 5 #[.val (.int p1), .val (.int p2), .val (.int p3), .val (.int p4), .val (.int p5), .unset, .unset, .unset, .unset, .unset, .unset, .unset, .unset, .unset, .unset] [(.int (p1 &&& (2147483647 : Int32))), (.int (1 : Int32))]))
  obtain ⟨_, _, ⟨T6, L6, kc6, ns6⟩, -, X6, ⟨Lc6, hQ6, l6, y6, z6⟩, st6⟩ := Jvm.LawKit.callS X0 hx (y := (⟨"java/lang/Math", "max", "(II)I"⟩ : MethodName)) hown (mvT hZ (hw _ (List.mem_of_getElem? (i := 1) rfl))) (mvT hZ (hw _ (List.mem_of_getElem? (i := 2) rfl))) (mvT hZ (hw _ (List.mem_of_getElem? (i := 3) rfl))) (mvT hZ (hw _ (List.mem_of_getElem? (i := 4) rfl))) (by decide) (backOf (W := 0) (rm1 l Z a0 hw [] (1 : Int32) (p1 &&& (2147483647 : Int32)) h0 n0 (Nat.le_trans Z0 (Keep.refl h0 []).1) ) hZ (hw _ (List.mem_of_getElem? (i := 4) rfl)) (hw _ (List.mem_of_getElem? (i := 3) rfl)) (by decide) (by decide)) (g := (mkF m 5 #[.val (.int p1), .val (.int p2), .val (.int p3), .val (.int p4), .val (.int p5), .unset, .unset, .unset, .unset, .unset, .unset, .unset, .unset, .unset, .unset] [(.int (p1 &&& (2147483647 : Int32))), (.int (1 : Int32))])) rfl (by rw [hml]; rfl) (argsL := [(.int (1 : Int32)), (.int (p1 &&& (2147483647 : Int32)))]) (rest := []) (lenOf pd__II_I rfl) rfl (by show 2 * 0 + _ ≤ _; exact Nat.le_of_eq rfl) (hb hby at_5) (fun _ _ => ⟨rfl, e0, (by decide : 0 + 0 ≤ _), (by decide : 0 + 0 ≤ _)⟩)
  dsimp only [Pt.U, Pt.locs, Pt.cells, Pt.slots] at X6 l6 y6 z6 st6 hQ6
  rw [l6, y6, z6] at X6
  obtain ⟨rfl, N6q, e6⟩ := hQ6
  have N6 := Fr.app N0 N6q
  refine OwnR.of (st6) ?_
  show OwnR _ _ _ _ _ _ _ (T6.setTop (mkF m 8 #[.val (.int p1), .val (.int p2), .val (.int p3), .val (.int p4), .val (.int p5), .unset, .unset, .unset, .unset, .unset, .unset, .unset, .unset, .unset, .unset] [(.int (own_imax (1 : Int32) (p1 &&& (2147483647 : Int32))))]))
  refine OwnR.of (fun _ hr => XS.istore X6.here hx rfl (hb hby at_8) rfl (l' := #[.val (.int p1), .val (.int p2), .val (.int p3), .val (.int p4), .val (.int p5), .val (.int (own_imax (1 : Int32) (p1 &&& (2147483647 : Int32)))), .unset, .unset, .unset, .unset, .unset, .unset, .unset, .unset, .unset]) rfl hr) ?_
  show OwnR _ _ _ _ _ _ _ (T6.setTop (mkF m 10 #[.val (.int p1), .val (.int p2), .val (.int p3), .val (.int p4), .val (.int p5), .val (.int (own_imax (1 : Int32) (p1 &&& (2147483647 : Int32)))), .unset, .unset, .unset, .unset, .unset, .unset, .unset, .unset, .unset] []))
  obtain ⟨va, hva⟩ : ∃ z : Int32, z = (own_imax (1 : Int32) (p1 &&& (2147483647 : Int32))) := ⟨_, rfl⟩
  rw [← hva]
  show OwnR _ _ _ _ _ _ _ (T6.setTop (mkF m 10 #[.val (.int p1), .val (.int p2), .val (.int p3), .val (.int p4), .val (.int p5), .val (.int va), .unset, .unset, .unset, .unset, .unset, .unset, .unset, .unset, .unset] []))
  have hva1 : ¬ (va < (1 : Int32)) := by rw [hva]; exact own_max1 _
  refine OwnR.of (fun _ hr => XS.iconst X6.here hx rfl (hb hby at_10) hr) ?_
  show OwnR _ _ _ _ _ _ _ (T6.setTop (mkF m 11 #[.val (.int p1), .val (.int p2), .val (.int p3), .val (.int p4), .val (.int p5), .val (.int va), .unset, .unset, .unset, .unset, .unset, .unset, .unset, .unset, .unset] [(.int (1 : Int32))]))
  refine OwnR.of (fun _ hr => XS.iloadN X6.here hx rfl (hb hby at_11) rfl hr) ?_
  show OwnR _ _ _ _ _ _ _ (T6.setTop (mkF m 12 #[.val (.int p1), .val (.int p2), .val (.int p3), .val (.int p4), .val (.int p5), .val (.int va), .unset, .unset, .unset, .unset, .unset, .unset, .unset, .unset, .unset] [(.int p2), (.int (1 : Int32))]))
  refine OwnR.of (X6.ldcInt hx hown (mvT hZ (hw _ (List.mem_of_getElem? (i := 0) rfl))) (g := (mkF m 12 #[.val (.int p1), .val (.int p2), .val (.int p3), .val (.int p4), .val (.int p5), .val (.int va), .unset, .unset, .unset, .unset, .unset, .unset, .unset, .unset, .unset] [(.int p2), (.int (1 : Int32))])) rfl (hb hby at_12)) ?_
  show OwnR _ _ _ _ _ _ _ (T6.setTop (mkF m 14 #[.val (.int p1), .val (.int p2), .val (.int p3), .val (.int p4), .val (.int p5), .val (.int va), .unset, .unset, .unset, .unset, .unset, .unset, .unset, .unset, .unset] [(.int (2147483647 : Int32)), (.int p2), (.int (1 : Int32))]))
  refine OwnR.of (fun _ hr => XS.iand X6.here hx rfl (hb hby at_14) rfl hr) ?_
  show OwnR _ _ _ _ _ _ _ (T6.setTop (mkF m 15 #[.val (.int p1), .val (.int p2), .val (.int p3), .val (.int p4), .val (.int p5), .val (.int va), .unset, .unset, .unset, .unset, .unset, .unset, .unset, .unset, .unset] [(.int (p2 &&& (2147483647 : Int32))), (.int (1 : Int32))]))
  obtain ⟨_, _, ⟨T7, L7, kc7, ns7⟩, -, X7, ⟨Lc7, hQ7, l7, y7, z7⟩, st7⟩ := Jvm.LawKit.callS X6 hx (y := (⟨"java/lang/Math", "max", "(II)I"⟩ : MethodName)) hown (mvT hZ (hw _ (List.mem_of_getElem? (i := 1) rfl))) (mvT hZ (hw _ (List.mem_of_getElem? (i := 2) rfl))) (mvT hZ (hw _ (List.mem_of_getElem? (i := 3) rfl))) (mvT hZ (hw _ (List.mem_of_getElem? (i := 4) rfl))) (by decide) (backOf (W := 0) (rm1 l Z a0 hw [] (1 : Int32) (p2 &&& (2147483647 : Int32)) h0 n0 (Nat.le_trans Z0 (Keep.refl h0 []).1) ) hZ (hw _ (List.mem_of_getElem? (i := 4) rfl)) (hw _ (List.mem_of_getElem? (i := 3) rfl)) (by decide) (by decide)) (g := (mkF m 15 #[.val (.int p1), .val (.int p2), .val (.int p3), .val (.int p4), .val (.int p5), .val (.int va), .unset, .unset, .unset, .unset, .unset, .unset, .unset, .unset, .unset] [(.int (p2 &&& (2147483647 : Int32))), (.int (1 : Int32))])) rfl (by rw [hml]; rfl) (argsL := [(.int (1 : Int32)), (.int (p2 &&& (2147483647 : Int32)))]) (rest := []) (lenOf pd__II_I rfl) rfl (by show 2 * 0 + _ ≤ _; exact Nat.le_of_eq rfl) (hb hby at_15) (fun _ _ => ⟨rfl, e6, (by decide : 0 + 0 ≤ _), (by decide : 0 + 0 ≤ _)⟩)
  dsimp only [Pt.U, Pt.locs, Pt.cells, Pt.slots] at X7 l7 y7 z7 st7 hQ7
  rw [l7, y7, z7] at X7
  obtain ⟨rfl, N7q, e7⟩ := hQ7
  have N7 := Fr.app N6 N7q
  refine OwnR.of (st7) ?_
  show OwnR _ _ _ _ _ _ _ (T7.setTop (mkF m 18 #[.val (.int p1), .val (.int p2), .val (.int p3), .val (.int p4), .val (.int p5), .val (.int va), .unset, .unset, .unset, .unset, .unset, .unset, .unset, .unset, .unset] [(.int (own_imax (1 : Int32) (p2 &&& (2147483647 : Int32))))]))
  refine OwnR.of (fun _ hr => XS.istore X7.here hx rfl (hb hby at_18) rfl (l' := #[.val (.int p1), .val (.int p2), .val (.int p3), .val (.int p4), .val (.int p5), .val (.int va), .val (.int (own_imax (1 : Int32) (p2 &&& (2147483647 : Int32)))), .unset, .unset, .unset, .unset, .unset, .unset, .unset, .unset]) rfl hr) ?_
  show OwnR _ _ _ _ _ _ _ (T7.setTop (mkF m 20 #[.val (.int p1), .val (.int p2), .val (.int p3), .val (.int p4), .val (.int p5), .val (.int va), .val (.int (own_imax (1 : Int32) (p2 &&& (2147483647 : Int32)))), .unset, .unset, .unset, .unset, .unset, .unset, .unset, .unset] []))
  obtain ⟨vb, hvb⟩ : ∃ z : Int32, z = (own_imax (1 : Int32) (p2 &&& (2147483647 : Int32))) := ⟨_, rfl⟩
  rw [← hvb]
  show OwnR _ _ _ _ _ _ _ (T7.setTop (mkF m 20 #[.val (.int p1), .val (.int p2), .val (.int p3), .val (.int p4), .val (.int p5), .val (.int va), .val (.int vb), .unset, .unset, .unset, .unset, .unset, .unset, .unset, .unset] []))
  have hvb1 : ¬ (vb < (1 : Int32)) := by rw [hvb]; exact own_max1 _
  refine OwnR.of (fun _ hr => XS.iconst X7.here hx rfl (hb hby at_20) hr) ?_
  show OwnR _ _ _ _ _ _ _ (T7.setTop (mkF m 21 #[.val (.int p1), .val (.int p2), .val (.int p3), .val (.int p4), .val (.int p5), .val (.int va), .val (.int vb), .unset, .unset, .unset, .unset, .unset, .unset, .unset, .unset] [(.int (1 : Int32))]))
  refine OwnR.of (fun _ hr => XS.iloadN X7.here hx rfl (hb hby at_21) rfl hr) ?_
  show OwnR _ _ _ _ _ _ _ (T7.setTop (mkF m 22 #[.val (.int p1), .val (.int p2), .val (.int p3), .val (.int p4), .val (.int p5), .val (.int va), .val (.int vb), .unset, .unset, .unset, .unset, .unset, .unset, .unset, .unset] [(.int p3), (.int (1 : Int32))]))
  refine OwnR.of (X7.ldcInt hx hown (mvT hZ (hw _ (List.mem_of_getElem? (i := 0) rfl))) (g := (mkF m 22 #[.val (.int p1), .val (.int p2), .val (.int p3), .val (.int p4), .val (.int p5), .val (.int va), .val (.int vb), .unset, .unset, .unset, .unset, .unset, .unset, .unset, .unset] [(.int p3), (.int (1 : Int32))])) rfl (hb hby at_22)) ?_
  show OwnR _ _ _ _ _ _ _ (T7.setTop (mkF m 24 #[.val (.int p1), .val (.int p2), .val (.int p3), .val (.int p4), .val (.int p5), .val (.int va), .val (.int vb), .unset, .unset, .unset, .unset, .unset, .unset, .unset, .unset] [(.int (2147483647 : Int32)), (.int p3), (.int (1 : Int32))]))
  refine OwnR.of (fun _ hr => XS.iand X7.here hx rfl (hb hby at_24) rfl hr) ?_
  show OwnR _ _ _ _ _ _ _ (T7.setTop (mkF m 25 #[.val (.int p1), .val (.int p2), .val (.int p3), .val (.int p4), .val (.int p5), .val (.int va), .val (.int vb), .unset, .unset, .unset, .unset, .unset, .unset, .unset, .unset] [(.int (p3 &&& (2147483647 : Int32))), (.int (1 : Int32))]))
  obtain ⟨_, _, ⟨T8, L8, kc8, ns8⟩, -, X8, ⟨Lc8, hQ8, l8, y8, z8⟩, st8⟩ := Jvm.LawKit.callS X7 hx (y := (⟨"java/lang/Math", "max", "(II)I"⟩ : MethodName)) hown (mvT hZ (hw _ (List.mem_of_getElem? (i := 1) rfl))) (mvT hZ (hw _ (List.mem_of_getElem? (i := 2) rfl))) (mvT hZ (hw _ (List.mem_of_getElem? (i := 3) rfl))) (mvT hZ (hw _ (List.mem_of_getElem? (i := 4) rfl))) (by decide) (backOf (W := 0) (rm1 l Z a0 hw [] (1 : Int32) (p3 &&& (2147483647 : Int32)) h0 n0 (Nat.le_trans Z0 (Keep.refl h0 []).1) ) hZ (hw _ (List.mem_of_getElem? (i := 4) rfl)) (hw _ (List.mem_of_getElem? (i := 3) rfl)) (by decide) (by decide)) (g := (mkF m 25 #[.val (.int p1), .val (.int p2), .val (.int p3), .val (.int p4), .val (.int p5), .val (.int va), .val (.int vb), .unset, .unset, .unset, .unset, .unset, .unset, .unset, .unset] [(.int (p3 &&& (2147483647 : Int32))), (.int (1 : Int32))])) rfl (by rw [hml]; rfl) (argsL := [(.int (1 : Int32)), (.int (p3 &&& (2147483647 : Int32)))]) (rest := []) (lenOf pd__II_I rfl) rfl (by show 2 * 0 + _ ≤ _; exact Nat.le_of_eq rfl) (hb hby at_25) (fun _ _ => ⟨rfl, e7, (by decide : 0 + 0 ≤ _), (by decide : 0 + 0 ≤ _)⟩)
  dsimp only [Pt.U, Pt.locs, Pt.cells, Pt.slots] at X8 l8 y8 z8 st8 hQ8
  rw [l8, y8, z8] at X8
  obtain ⟨rfl, N8q, e8⟩ := hQ8
  have N8 := Fr.app N7 N8q
  refine OwnR.of (st8) ?_
  show OwnR _ _ _ _ _ _ _ (T8.setTop (mkF m 28 #[.val (.int p1), .val (.int p2), .val (.int p3), .val (.int p4), .val (.int p5), .val (.int va), .val (.int vb), .unset, .unset, .unset, .unset, .unset, .unset, .unset, .unset] [(.int (own_imax (1 : Int32) (p3 &&& (2147483647 : Int32))))]))
  refine OwnR.of (fun _ hr => XS.istore X8.here hx rfl (hb hby at_28) rfl (l' := #[.val (.int p1), .val (.int p2), .val (.int p3), .val (.int p4), .val (.int p5), .val (.int va), .val (.int vb), .val (.int (own_imax (1 : Int32) (p3 &&& (2147483647 : Int32)))), .unset, .unset, .unset, .unset, .unset, .unset, .unset]) rfl hr) ?_
  show OwnR _ _ _ _ _ _ _ (T8.setTop (mkF m 30 #[.val (.int p1), .val (.int p2), .val (.int p3), .val (.int p4), .val (.int p5), .val (.int va), .val (.int vb), .val (.int (own_imax (1 : Int32) (p3 &&& (2147483647 : Int32)))), .unset, .unset, .unset, .unset, .unset, .unset, .unset] []))
  obtain ⟨vc, hvc⟩ : ∃ z : Int32, z = (own_imax (1 : Int32) (p3 &&& (2147483647 : Int32))) := ⟨_, rfl⟩
  rw [← hvc]
  show OwnR _ _ _ _ _ _ _ (T8.setTop (mkF m 30 #[.val (.int p1), .val (.int p2), .val (.int p3), .val (.int p4), .val (.int p5), .val (.int va), .val (.int vb), .val (.int vc), .unset, .unset, .unset, .unset, .unset, .unset, .unset] []))
  have hvc1 : ¬ (vc < (1 : Int32)) := by rw [hvc]; exact own_max1 _
  refine OwnR.of (fun _ hr => XS.iloadN X8.here hx rfl (hb hby at_30) rfl hr) ?_
  show OwnR _ _ _ _ _ _ _ (T8.setTop (mkF m 31 #[.val (.int p1), .val (.int p2), .val (.int p3), .val (.int p4), .val (.int p5), .val (.int va), .val (.int vb), .val (.int vc), .unset, .unset, .unset, .unset, .unset, .unset, .unset] [(.int p4)]))
  refine OwnR.of (X8.ldcInt hx hown (mvT hZ (hw _ (List.mem_of_getElem? (i := 0) rfl))) (g := (mkF m 31 #[.val (.int p1), .val (.int p2), .val (.int p3), .val (.int p4), .val (.int p5), .val (.int va), .val (.int vb), .val (.int vc), .unset, .unset, .unset, .unset, .unset, .unset, .unset] [(.int p4)])) rfl (hb hby at_31)) ?_
  show OwnR _ _ _ _ _ _ _ (T8.setTop (mkF m 33 #[.val (.int p1), .val (.int p2), .val (.int p3), .val (.int p4), .val (.int p5), .val (.int va), .val (.int vb), .val (.int vc), .unset, .unset, .unset, .unset, .unset, .unset, .unset] [(.int (2147483647 : Int32)), (.int p4)]))
  refine OwnR.of (fun _ hr => XS.iand X8.here hx rfl (hb hby at_33) rfl hr) ?_
  show OwnR _ _ _ _ _ _ _ (T8.setTop (mkF m 34 #[.val (.int p1), .val (.int p2), .val (.int p3), .val (.int p4), .val (.int p5), .val (.int va), .val (.int vb), .val (.int vc), .unset, .unset, .unset, .unset, .unset, .unset, .unset] [(.int (p4 &&& (2147483647 : Int32)))]))
  refine OwnR.of (fun _ hr => XS.iconst X8.here hx rfl (hb hby at_34) hr) ?_
  show OwnR _ _ _ _ _ _ _ (T8.setTop (mkF m 35 #[.val (.int p1), .val (.int p2), .val (.int p3), .val (.int p4), .val (.int p5), .val (.int va), .val (.int vb), .val (.int vc), .unset, .unset, .unset, .unset, .unset, .unset, .unset] [(.int (3 : Int32)), (.int (p4 &&& (2147483647 : Int32)))]))
  refine OwnR.of (fun _ hr => iremM X8 hx rfl (hb hby at_35) rfl (by decide) hr) ?_
  show OwnR _ _ _ _ _ _ _ (T8.setTop (mkF m 36 #[.val (.int p1), .val (.int p2), .val (.int p3), .val (.int p4), .val (.int p5), .val (.int va), .val (.int vb), .val (.int vc), .unset, .unset, .unset, .unset, .unset, .unset, .unset] [(.int ((p4 &&& (2147483647 : Int32)) % (3 : Int32)))]))
  refine OwnR.of (fun _ hr => XS.iconst X8.here hx rfl (hb hby at_36) hr) ?_
  show OwnR _ _ _ _ _ _ _ (T8.setTop (mkF m 37 #[.val (.int p1), .val (.int p2), .val (.int p3), .val (.int p4), .val (.int p5), .val (.int va), .val (.int vb), .val (.int vc), .unset, .unset, .unset, .unset, .unset, .unset, .unset] [(.int (1 : Int32)), (.int ((p4 &&& (2147483647 : Int32)) % (3 : Int32)))]))
  refine OwnR.of (fun _ hr => XS.iadd X8.here hx rfl (hb hby at_37) rfl hr) ?_
  show OwnR _ _ _ _ _ _ _ (T8.setTop (mkF m 38 #[.val (.int p1), .val (.int p2), .val (.int p3), .val (.int p4), .val (.int p5), .val (.int va), .val (.int vb), .val (.int vc), .unset, .unset, .unset, .unset, .unset, .unset, .unset] [(.int (((p4 &&& (2147483647 : Int32)) % (3 : Int32)) + (1 : Int32)))]))
  refine OwnR.of (fun _ hr => XS.istore X8.here hx rfl (hb hby at_38) rfl (l' := #[.val (.int p1), .val (.int p2), .val (.int p3), .val (.int p4), .val (.int p5), .val (.int va), .val (.int vb), .val (.int vc), .val (.int (((p4 &&& (2147483647 : Int32)) % (3 : Int32)) + (1 : Int32))), .unset, .unset, .unset, .unset, .unset, .unset]) rfl hr) ?_
  show OwnR _ _ _ _ _ _ _ (T8.setTop (mkF m 40 #[.val (.int p1), .val (.int p2), .val (.int p3), .val (.int p4), .val (.int p5), .val (.int va), .val (.int vb), .val (.int vc), .val (.int (((p4 &&& (2147483647 : Int32)) % (3 : Int32)) + (1 : Int32))), .unset, .unset, .unset, .unset, .unset, .unset] []))
  obtain ⟨n, hn⟩ : ∃ z : Int32, z = (((p4 &&& (2147483647 : Int32)) % (3 : Int32)) + (1 : Int32)) := ⟨_, rfl⟩
  rw [← hn]
  show OwnR _ _ _ _ _ _ _ (T8.setTop (mkF m 40 #[.val (.int p1), .val (.int p2), .val (.int p3), .val (.int p4), .val (.int p5), .val (.int va), .val (.int vb), .val (.int vc), .val (.int n), .unset, .unset, .unset, .unset, .unset, .unset] []))
  have hn3 : n = (1 : Int32) ∨ n = (2 : Int32) ∨ n = (3 : Int32) := by rw [hn]; exact own_r3 p4
  rcases hn3 with rfl | rfl | rfl
  · skip
    show OwnR _ _ _ _ _ _ _ (T8.setTop (mkF m 40 #[.val (.int p1), .val (.int p2), .val (.int p3), .val (.int p4), .val (.int p5), .val (.int va), .val (.int vb), .val (.int vc), .val (.int (1 : Int32)), .unset, .unset, .unset, .unset, .unset, .unset] []))
    refine OwnR.of (fun _ hr => XS.iload X8.here hx rfl (hb hby at_40) rfl hr) ?_
    show OwnR _ _ _ _ _ _ _ (T8.setTop (mkF m 42 #[.val (.int p1), .val (.int p2), .val (.int p3), .val (.int p4), .val (.int p5), .val (.int va), .val (.int vb), .val (.int vc), .val (.int (1 : Int32)), .unset, .unset, .unset, .unset, .unset, .unset] [(.int p5)]))
    refine OwnR.of (X8.ldcInt hx hown (mvT hZ (hw _ (List.mem_of_getElem? (i := 0) rfl))) (g := (mkF m 42 #[.val (.int p1), .val (.int p2), .val (.int p3), .val (.int p4), .val (.int p5), .val (.int va), .val (.int vb), .val (.int vc), .val (.int (1 : Int32)), .unset, .unset, .unset, .unset, .unset, .unset] [(.int p5)])) rfl (hb hby at_42)) ?_
    show OwnR _ _ _ _ _ _ _ (T8.setTop (mkF m 44 #[.val (.int p1), .val (.int p2), .val (.int p3), .val (.int p4), .val (.int p5), .val (.int va), .val (.int vb), .val (.int vc), .val (.int (1 : Int32)), .unset, .unset, .unset, .unset, .unset, .unset] [(.int (2147483647 : Int32)), (.int p5)]))
    refine OwnR.of (fun _ hr => XS.iand X8.here hx rfl (hb hby at_44) rfl hr) ?_
    show OwnR _ _ _ _ _ _ _ (T8.setTop (mkF m 45 #[.val (.int p1), .val (.int p2), .val (.int p3), .val (.int p4), .val (.int p5), .val (.int va), .val (.int vb), .val (.int vc), .val (.int (1 : Int32)), .unset, .unset, .unset, .unset, .unset, .unset] [(.int (p5 &&& (2147483647 : Int32)))]))
    refine OwnR.of (fun _ hr => XS.iload X8.here hx rfl (hb hby at_45) rfl hr) ?_
    show OwnR _ _ _ _ _ _ _ (T8.setTop (mkF m 47 #[.val (.int p1), .val (.int p2), .val (.int p3), .val (.int p4), .val (.int p5), .val (.int va), .val (.int vb), .val (.int vc), .val (.int (1 : Int32)), .unset, .unset, .unset, .unset, .unset, .unset] [(.int (1 : Int32)), (.int (p5 &&& (2147483647 : Int32)))]))
    refine OwnR.of (fun _ hr => iremM X8 hx rfl (hb hby at_47) rfl (by decide) hr) ?_
    show OwnR _ _ _ _ _ _ _ (T8.setTop (mkF m 48 #[.val (.int p1), .val (.int p2), .val (.int p3), .val (.int p4), .val (.int p5), .val (.int va), .val (.int vb), .val (.int vc), .val (.int (1 : Int32)), .unset, .unset, .unset, .unset, .unset, .unset] [(.int ((p5 &&& (2147483647 : Int32)) % (1 : Int32)))]))
    refine OwnR.of (fun _ hr => XS.iconst X8.here hx rfl (hb hby at_48) hr) ?_
    show OwnR _ _ _ _ _ _ _ (T8.setTop (mkF m 49 #[.val (.int p1), .val (.int p2), .val (.int p3), .val (.int p4), .val (.int p5), .val (.int va), .val (.int vb), .val (.int vc), .val (.int (1 : Int32)), .unset, .unset, .unset, .unset, .unset, .unset] [(.int (1 : Int32)), (.int ((p5 &&& (2147483647 : Int32)) % (1 : Int32)))]))
    refine OwnR.of (fun _ hr => XS.iadd X8.here hx rfl (hb hby at_49) rfl hr) ?_
    show OwnR _ _ _ _ _ _ _ (T8.setTop (mkF m 50 #[.val (.int p1), .val (.int p2), .val (.int p3), .val (.int p4), .val (.int p5), .val (.int va), .val (.int vb), .val (.int vc), .val (.int (1 : Int32)), .unset, .unset, .unset, .unset, .unset, .unset] [(.int (((p5 &&& (2147483647 : Int32)) % (1 : Int32)) + (1 : Int32)))]))
    refine OwnR.of (fun _ hr => XS.istore X8.here hx rfl (hb hby at_50) rfl (l' := #[.val (.int p1), .val (.int p2), .val (.int p3), .val (.int p4), .val (.int p5), .val (.int va), .val (.int vb), .val (.int vc), .val (.int (1 : Int32)), .val (.int (((p5 &&& (2147483647 : Int32)) % (1 : Int32)) + (1 : Int32))), .unset, .unset, .unset, .unset, .unset]) rfl hr) ?_
    show OwnR _ _ _ _ _ _ _ (T8.setTop (mkF m 52 #[.val (.int p1), .val (.int p2), .val (.int p3), .val (.int p4), .val (.int p5), .val (.int va), .val (.int vb), .val (.int vc), .val (.int (1 : Int32)), .val (.int (((p5 &&& (2147483647 : Int32)) % (1 : Int32)) + (1 : Int32))), .unset, .unset, .unset, .unset, .unset] []))
    obtain ⟨o, ho⟩ : ∃ z : Int32, z = (((p5 &&& (2147483647 : Int32)) % (1 : Int32)) + (1 : Int32)) := ⟨_, rfl⟩
    rw [← ho]
    show OwnR _ _ _ _ _ _ _ (T8.setTop (mkF m 52 #[.val (.int p1), .val (.int p2), .val (.int p3), .val (.int p4), .val (.int p5), .val (.int va), .val (.int vb), .val (.int vc), .val (.int (1 : Int32)), .val (.int o), .unset, .unset, .unset, .unset, .unset] []))
    have hos : o = (1 : Int32) := by rw [ho]; exact own_r1 p5
    rcases hos with rfl
    · skip
      show OwnR _ _ _ _ _ _ _ (T8.setTop (mkF m 52 #[.val (.int p1), .val (.int p2), .val (.int p3), .val (.int p4), .val (.int p5), .val (.int va), .val (.int vb), .val (.int vc), .val (.int (1 : Int32)), .val (.int (1 : Int32)), .unset, .unset, .unset, .unset, .unset] []))
      refine OwnR.of (fun _ hr => XS.iload X8.here hx rfl (hb hby at_52) rfl hr) ?_
      show OwnR _ _ _ _ _ _ _ (T8.setTop (mkF m 54 #[.val (.int p1), .val (.int p2), .val (.int p3), .val (.int p4), .val (.int p5), .val (.int va), .val (.int vb), .val (.int vc), .val (.int (1 : Int32)), .val (.int (1 : Int32)), .unset, .unset, .unset, .unset, .unset] [(.int (1 : Int32))]))
      refine OwnR.of (fun _ hr => XS.iconst X8.here hx rfl (hb hby at_54) hr) ?_
      show OwnR _ _ _ _ _ _ _ (T8.setTop (mkF m 55 #[.val (.int p1), .val (.int p2), .val (.int p3), .val (.int p4), .val (.int p5), .val (.int va), .val (.int vb), .val (.int vc), .val (.int (1 : Int32)), .val (.int (1 : Int32)), .unset, .unset, .unset, .unset, .unset] [(.int (1 : Int32)), (.int (1 : Int32))]))
      refine OwnR.of (fun _ hr => XS.icmpNo X8.here hx rfl (hb hby at_55) rfl (teq (by decide : (1 : Int32) = (1 : Int32))).2 hr) ?_
      show OwnR _ _ _ _ _ _ _ (T8.setTop (mkF m 58 #[.val (.int p1), .val (.int p2), .val (.int p3), .val (.int p4), .val (.int p5), .val (.int va), .val (.int vb), .val (.int vc), .val (.int (1 : Int32)), .val (.int (1 : Int32)), .unset, .unset, .unset, .unset, .unset] []))
      obtain ⟨T9, h9, X9, e9, E9, A9, D9, -, st9⟩ := newO X8 hx hZ hown (hw _ (List.mem_of_getElem? (i := 5) rfl)) (hw _ (List.mem_of_getElem? (i := 6) rfl)) (hw _ (List.mem_of_getElem? (i := 7) rfl)) e8 (g := (mkF m 58 #[.val (.int p1), .val (.int p2), .val (.int p3), .val (.int p4), .val (.int p5), .val (.int va), .val (.int vb), .val (.int vc), .val (.int (1 : Int32)), .val (.int (1 : Int32)), .unset, .unset, .unset, .unset, .unset] [])) rfl (hb hby at_58) (by decide) (by decide)
      obtain ⟨b9, g9⟩ : ∃ z, z = h0.size := ⟨_, rfl⟩
      rw [← g9] at A9 D9 st9
      refine OwnR.of (st9) ?_
      have gn_b9 : n0 ≤ b9 := Nat.le_trans (Nat.le_trans Z0 (Keep.refl h0 []).1) (Nat.le_of_eq g9.symm)
      have sz_b9 : h0.size ≤ b9 := Nat.le_trans (Keep.refl h0 []).1 (Nat.le_of_eq g9.symm)
      have K9 : Keep h0 h9 [] := Keep.ext (Keep.refl h0 []) E9
      have F_branches_b9 : Fld Z h9 b9 "com/example/ramification/ramification/model/StrahlerOrders" "branches" "[I" .null := D9 (Or.inr (hw _ (List.mem_of_getElem? (i := 26) rfl))) (ty := (.array .int)) (by decide)
      have F_lengths_b9 : Fld Z h9 b9 "com/example/ramification/ramification/model/StrahlerOrders" "lengths" "[D" .null := D9 (Or.inr (hw _ (List.mem_of_getElem? (i := 34) rfl))) (ty := (.array .double)) (by decide)
      have F_unit_b9 : Fld Z h9 b9 "com/example/ramification/ramification/model/StrahlerOrders" "unit" "Ljava/util/Optional;" .null := D9 (Or.inr (hw _ (List.mem_of_getElem? (i := 36) rfl))) (ty := (.object "java/util/Optional")) (by decide)
      show OwnR _ _ _ _ _ _ _ (T9.setTop (mkF m 61 #[.val (.int p1), .val (.int p2), .val (.int p3), .val (.int p4), .val (.int p5), .val (.int va), .val (.int vb), .val (.int vc), .val (.int (1 : Int32)), .val (.int (1 : Int32)), .unset, .unset, .unset, .unset, .unset] [(.ref b9)]))
      refine OwnR.of (fun _ hr => XS.dup X9.here hx rfl (hb hby at_61) rfl rfl hr) ?_
      show OwnR _ _ _ _ _ _ _ (T9.setTop (mkF m 62 #[.val (.int p1), .val (.int p2), .val (.int p3), .val (.int p4), .val (.int p5), .val (.int va), .val (.int vb), .val (.int vc), .val (.int (1 : Int32)), .val (.int (1 : Int32)), .unset, .unset, .unset, .unset, .unset] [(.ref b9), (.ref b9)]))
      refine OwnR.of (fun _ hr => XS.iconst X9.here hx rfl (hb hby at_62) hr) ?_
      show OwnR _ _ _ _ _ _ _ (T9.setTop (mkF m 63 #[.val (.int p1), .val (.int p2), .val (.int p3), .val (.int p4), .val (.int p5), .val (.int va), .val (.int vb), .val (.int vc), .val (.int (1 : Int32)), .val (.int (1 : Int32)), .unset, .unset, .unset, .unset, .unset] [(.int (1 : Int32)), (.ref b9), (.ref b9)]))
      obtain ⟨T10, h10, k10, X10, e10, E10, A10, AE10, st10⟩ := newPE X9 hx hZ (hw _ (List.mem_of_getElem? (i := 8) rfl)) e9 (g := (mkF m 63 #[.val (.int p1), .val (.int p2), .val (.int p3), .val (.int p4), .val (.int p5), .val (.int va), .val (.int vb), .val (.int vc), .val (.int (1 : Int32)), .val (.int (1 : Int32)), .unset, .unset, .unset, .unset, .unset] [(.int (1 : Int32)), (.ref b9), (.ref b9)])) rfl (hb hby at_63) rfl (by decide) (cap := 1) (by decide) (by decide) (by decide) (by decide) (ad := "[I") rfl
      obtain ⟨b10, g10⟩ : ∃ z, z = h9.size := ⟨_, rfl⟩
      rw [← g10] at A10 AE10 st10
      refine OwnR.of (st10) ?_
      have gn_b10 : n0 ≤ b10 := Nat.le_trans (Nat.le_trans Z0 K9.1) (Nat.le_of_eq g10.symm)
      have sz_b10 : h0.size ≤ b10 := Nat.le_trans K9.1 (Nat.le_of_eq g10.symm)
      have K10 : Keep h0 h10 [] := Keep.ext K9 E10
      have V10 : Arv Z h10 b10 k10 .int (1 : Int32) [(.int (0 : Int32))] (.int (0 : Int32)) := (Arv.new A10 (by decide)).pad (pad_rep [] (.int (0 : Int32)) 1)
      show OwnR _ _ _ _ _ _ _ (T10.setTop (mkF m 65 #[.val (.int p1), .val (.int p2), .val (.int p3), .val (.int p4), .val (.int p5), .val (.int va), .val (.int vb), .val (.int vc), .val (.int (1 : Int32)), .val (.int (1 : Int32)), .unset, .unset, .unset, .unset, .unset] [(.ref b10), (.ref b9), (.ref b9)]))
      refine OwnR.of (fun _ hr => XS.dup X10.here hx rfl (hb hby at_65) rfl rfl hr) ?_
      show OwnR _ _ _ _ _ _ _ (T10.setTop (mkF m 66 #[.val (.int p1), .val (.int p2), .val (.int p3), .val (.int p4), .val (.int p5), .val (.int va), .val (.int vb), .val (.int vc), .val (.int (1 : Int32)), .val (.int (1 : Int32)), .unset, .unset, .unset, .unset, .unset] [(.ref b10), (.ref b10), (.ref b9), (.ref b9)]))
      refine OwnR.of (fun _ hr => XS.iconst X10.here hx rfl (hb hby at_66) hr) ?_
      show OwnR _ _ _ _ _ _ _ (T10.setTop (mkF m 67 #[.val (.int p1), .val (.int p2), .val (.int p3), .val (.int p4), .val (.int p5), .val (.int va), .val (.int vb), .val (.int vc), .val (.int (1 : Int32)), .val (.int (1 : Int32)), .unset, .unset, .unset, .unset, .unset] [(.int (0 : Int32)), (.ref b10), (.ref b10), (.ref b9), (.ref b9)]))
      refine OwnR.of (fun _ hr => XS.iload X10.here hx rfl (hb hby at_67) rfl hr) ?_
      show OwnR _ _ _ _ _ _ _ (T10.setTop (mkF m 69 #[.val (.int p1), .val (.int p2), .val (.int p3), .val (.int p4), .val (.int p5), .val (.int va), .val (.int vb), .val (.int vc), .val (.int (1 : Int32)), .val (.int (1 : Int32)), .unset, .unset, .unset, .unset, .unset] [(.int va), (.int (0 : Int32)), (.ref b10), (.ref b10), (.ref b9), (.ref b9)]))
      obtain ⟨cl11, Ar11, q11, S11, N11q, H11, G11⟩ := id V10
      have hin11 : ¬ ((0 : Int32) < 0 ∨ cl11.slots.size ≤ ((0 : Int32)).toNatClampNeg) := (inb_of S11 ⟨by decide, by decide⟩)
      obtain ⟨T11, h11, X11, e11, W11, st11⟩ := stI X10 hx hZ e10 Ar11 (j := (0 : Int32)) hin11 (g := (mkF m 69 #[.val (.int p1), .val (.int p2), .val (.int p3), .val (.int p4), .val (.int p5), .val (.int va), .val (.int vb), .val (.int vc), .val (.int (1 : Int32)), .val (.int (1 : Int32)), .unset, .unset, .unset, .unset, .unset] [(.int va), (.int (0 : Int32)), (.ref b10), (.ref b10), (.ref b9), (.ref b9)])) rfl rfl (hb hby at_69)
      refine OwnR.of (st11) ?_
      have V11 := Arv.set Ar11 q11 S11 N11q H11 G11 rfl W11 0 rfl (Nat.le_of_ble_eq_true rfl)
      have V11 : Arv Z h11 b10 k10 .int (1 : Int32) [(.int va)] (.int (0 : Int32)) := V11
      have K11 : Keep h0 h11 [] := Keep.wr K10 W11 (Or.inr sz_b10)
      have N11 := Fr.snoc X11 N8 gn_b10
      show OwnR _ _ _ _ _ _ _ (T11.setTop (mkF m 70 #[.val (.int p1), .val (.int p2), .val (.int p3), .val (.int p4), .val (.int p5), .val (.int va), .val (.int vb), .val (.int vc), .val (.int (1 : Int32)), .val (.int (1 : Int32)), .unset, .unset, .unset, .unset, .unset] [(.ref b10), (.ref b9), (.ref b9)]))
      refine OwnR.of (fun _ hr => XS.iconst X11.here hx rfl (hb hby at_70) hr) ?_
      show OwnR _ _ _ _ _ _ _ (T11.setTop (mkF m 71 #[.val (.int p1), .val (.int p2), .val (.int p3), .val (.int p4), .val (.int p5), .val (.int va), .val (.int vb), .val (.int vc), .val (.int (1 : Int32)), .val (.int (1 : Int32)), .unset, .unset, .unset, .unset, .unset] [(.int (1 : Int32)), (.ref b10), (.ref b9), (.ref b9)]))
      obtain ⟨T12, h12, k12, X12, e12, E12, A12, AE12, st12⟩ := newPE X11 hx hZ (hw _ (List.mem_of_getElem? (i := 9) rfl)) e11 (g := (mkF m 71 #[.val (.int p1), .val (.int p2), .val (.int p3), .val (.int p4), .val (.int p5), .val (.int va), .val (.int vb), .val (.int vc), .val (.int (1 : Int32)), .val (.int (1 : Int32)), .unset, .unset, .unset, .unset, .unset] [(.int (1 : Int32)), (.ref b10), (.ref b9), (.ref b9)])) rfl (hb hby at_71) rfl (by decide) (cap := 1) (by decide) (by decide) (by decide) (by decide) (ad := "[D") rfl
      obtain ⟨b12, g12⟩ : ∃ z, z = h11.size := ⟨_, rfl⟩
      rw [← g12] at A12 AE12 st12
      refine OwnR.of (st12) ?_
      have gn_b12 : n0 ≤ b12 := Nat.le_trans (Nat.le_trans Z0 K11.1) (Nat.le_of_eq g12.symm)
      have sz_b12 : h0.size ≤ b12 := Nat.le_trans K11.1 (Nat.le_of_eq g12.symm)
      have K12 : Keep h0 h12 [] := Keep.ext K11 E12
      have V12 : Arv Z h12 b12 k12 .double (1 : Int32) [(.double (0 : UInt64))] (.double (0 : UInt64)) := (Arv.new A12 (by decide)).pad (pad_rep [] (.double (0 : UInt64)) 1)
      show OwnR _ _ _ _ _ _ _ (T12.setTop (mkF m 73 #[.val (.int p1), .val (.int p2), .val (.int p3), .val (.int p4), .val (.int p5), .val (.int va), .val (.int vb), .val (.int vc), .val (.int (1 : Int32)), .val (.int (1 : Int32)), .unset, .unset, .unset, .unset, .unset] [(.ref b12), (.ref b10), (.ref b9), (.ref b9)]))
      refine OwnR.of (fun _ hr => XS.dup X12.here hx rfl (hb hby at_73) rfl rfl hr) ?_
      show OwnR _ _ _ _ _ _ _ (T12.setTop (mkF m 74 #[.val (.int p1), .val (.int p2), .val (.int p3), .val (.int p4), .val (.int p5), .val (.int va), .val (.int vb), .val (.int vc), .val (.int (1 : Int32)), .val (.int (1 : Int32)), .unset, .unset, .unset, .unset, .unset] [(.ref b12), (.ref b12), (.ref b10), (.ref b9), (.ref b9)]))
      refine OwnR.of (fun _ hr => XS.iconst X12.here hx rfl (hb hby at_74) hr) ?_
      show OwnR _ _ _ _ _ _ _ (T12.setTop (mkF m 75 #[.val (.int p1), .val (.int p2), .val (.int p3), .val (.int p4), .val (.int p5), .val (.int va), .val (.int vb), .val (.int vc), .val (.int (1 : Int32)), .val (.int (1 : Int32)), .unset, .unset, .unset, .unset, .unset] [(.int (0 : Int32)), (.ref b12), (.ref b12), (.ref b10), (.ref b9), (.ref b9)]))
      refine OwnR.of (fun _ hr => XS.dconst0 X12.here hx rfl (hb hby at_75) (v := (0 : UInt64)) (by decide +kernel) hr) ?_
      show OwnR _ _ _ _ _ _ _ (T12.setTop (mkF m 76 #[.val (.int p1), .val (.int p2), .val (.int p3), .val (.int p4), .val (.int p5), .val (.int va), .val (.int vb), .val (.int vc), .val (.int (1 : Int32)), .val (.int (1 : Int32)), .unset, .unset, .unset, .unset, .unset] [(.double (0 : UInt64)), (.int (0 : Int32)), (.ref b12), (.ref b12), (.ref b10), (.ref b9), (.ref b9)]))
      obtain ⟨cl13, Ar13, q13, S13, N13q, H13, G13⟩ := id V12
      have hin13 : ¬ ((0 : Int32) < 0 ∨ cl13.slots.size ≤ ((0 : Int32)).toNatClampNeg) := (inb_of S13 ⟨by decide, by decide⟩)
      obtain ⟨T13, h13, X13, e13, W13, st13⟩ := stD X12 hx hZ e12 Ar13 (j := (0 : Int32)) hin13 (g := (mkF m 76 #[.val (.int p1), .val (.int p2), .val (.int p3), .val (.int p4), .val (.int p5), .val (.int va), .val (.int vb), .val (.int vc), .val (.int (1 : Int32)), .val (.int (1 : Int32)), .unset, .unset, .unset, .unset, .unset] [(.double (0 : UInt64)), (.int (0 : Int32)), (.ref b12), (.ref b12), (.ref b10), (.ref b9), (.ref b9)])) rfl rfl (hb hby at_76)
      refine OwnR.of (st13) ?_
      have V13 := Arv.set Ar13 q13 S13 N13q H13 G13 rfl W13 0 rfl (Nat.le_of_ble_eq_true rfl)
      have V13 : Arv Z h13 b12 k12 .double (1 : Int32) [(.double (0 : UInt64))] (.double (0 : UInt64)) := V13
      have K13 : Keep h0 h13 [] := Keep.wr K12 W13 (Or.inr sz_b12)
      have N13 := Fr.snoc X13 N11 gn_b12
      show OwnR _ _ _ _ _ _ _ (T13.setTop (mkF m 77 #[.val (.int p1), .val (.int p2), .val (.int p3), .val (.int p4), .val (.int p5), .val (.int va), .val (.int vb), .val (.int vc), .val (.int (1 : Int32)), .val (.int (1 : Int32)), .unset, .unset, .unset, .unset, .unset] [(.ref b12), (.ref b10), (.ref b9), (.ref b9)]))
      refine OwnR.of (fun _ hr => XS.aconstNull X13.here hx rfl (hb hby at_77) hr) ?_
      show OwnR _ _ _ _ _ _ _ (T13.setTop (mkF m 78 #[.val (.int p1), .val (.int p2), .val (.int p3), .val (.int p4), .val (.int p5), .val (.int va), .val (.int vb), .val (.int vc), .val (.int (1 : Int32)), .val (.int (1 : Int32)), .unset, .unset, .unset, .unset, .unset] [.null, (.ref b12), (.ref b10), (.ref b9), (.ref b9)]))
      obtain ⟨_, _, ⟨T14, L14, kc14, ns14⟩, -, X14, ⟨Lc14, hQ14, l14, y14, z14⟩, st14⟩ := X13.specialBack hx (y := (⟨"com/example/ramification/ramification/model/StrahlerOrders", "<init>", "([I[DLjava/util/Optional;)V"⟩ : MethodName)) rfl hown (mvT hZ (hw _ (List.mem_of_getElem? (i := 10) rfl))) (mvT hZ (hw _ (List.mem_of_getElem? (i := 11) rfl))) (mvT hZ (hw _ (List.mem_of_getElem? (i := 12) rfl))) (by decide) (backOf (W := 1) (rm2_1 l Z a0 hw [] b9 b10 b12 k10 k12 va h13 n0 (Nat.le_trans Z0 K13.1) (Exa.wr W13 (Exa.ext E12 (Exa.wr W11 (Exa.ext E10 A9)))) (Fld.other W13 (Fld.ext E12 (Fld.other W11 (Fld.ext E10 F_branches_b9) (Or.inl (Nat.ne_of_lt (Nat.lt_of_lt_of_le A9.lt (Nat.le_of_eq g10.symm)))))) (Or.inl (Nat.ne_of_lt (Nat.lt_of_lt_of_le (Exa.wr W11 (Exa.ext E10 A9)).lt (Nat.le_of_eq g12.symm))))) (Fld.other W13 (Fld.ext E12 (Fld.other W11 (Fld.ext E10 F_lengths_b9) (Or.inl (Nat.ne_of_lt (Nat.lt_of_lt_of_le A9.lt (Nat.le_of_eq g10.symm)))))) (Or.inl (Nat.ne_of_lt (Nat.lt_of_lt_of_le (Exa.wr W11 (Exa.ext E10 A9)).lt (Nat.le_of_eq g12.symm))))) (Fld.other W13 (Fld.ext E12 (Fld.other W11 (Fld.ext E10 F_unit_b9) (Or.inl (Nat.ne_of_lt (Nat.lt_of_lt_of_le A9.lt (Nat.le_of_eq g10.symm)))))) (Or.inl (Nat.ne_of_lt (Nat.lt_of_lt_of_le (Exa.wr W11 (Exa.ext E10 A9)).lt (Nat.le_of_eq g12.symm))))) (Arv.other (Arv.ext V11 E12) W13 (Nat.ne_of_lt (Nat.lt_of_lt_of_le (Exa.wr W11 AE10).lt (Nat.le_of_eq g12.symm)))) V13 (Exa.wr W13 (Exa.ext E12 (Exa.wr W11 AE10))) (Exa.wr W13 AE12) gn_b9 (Nat.ne_of_lt (Nat.lt_of_lt_of_le A9.lt (Nat.le_of_eq g10.symm))) (Nat.ne_of_lt (Nat.lt_of_lt_of_le (Exa.wr W11 (Exa.ext E10 A9)).lt (Nat.le_of_eq g12.symm))) hva1) hZ (hw _ (List.mem_of_getElem? (i := 12) rfl)) (hw _ (List.mem_of_getElem? (i := 7) rfl)) (by decide) (by decide)) (g := (mkF m 78 #[.val (.int p1), .val (.int p2), .val (.int p3), .val (.int p4), .val (.int p5), .val (.int va), .val (.int vb), .val (.int vc), .val (.int (1 : Int32)), .val (.int (1 : Int32)), .unset, .unset, .unset, .unset, .unset] [.null, (.ref b12), (.ref b10), (.ref b9), (.ref b9)])) rfl (by rw [hml]; rfl) (Steps.refl _) (a := b9) (argsL := [(.ref b10), (.ref b12), .null]) (rest := [(.ref b9)]) (lenOf pd___I_DLjava_util_Optional__V rfl) rfl (by show 2 * 0 + _ ≤ _; exact Nat.le_of_eq rfl) (hb hby at_78) (fun _ _ => ⟨rfl, e13, (by decide : 3 + 2 ≤ _), (by decide : 5 + 2 ≤ _)⟩)
      dsimp only [Pt.U, Pt.locs, Pt.cells, Pt.slots] at X14 l14 y14 z14 st14 hQ14
      rw [l14, y14, z14] at X14
      obtain ⟨bI_14, rfl, N14q, P14_0, P14_1, P14_2, P14_3⟩ := hQ14
      have K14 : Keep h0 T14.heap [] := Keep.trans K13 P14_0 (allS (Or.inr sz_b9) all0)
      have N14 := Fr.app N13 N14q
      refine OwnR.of (fun _ hr => st14.trans hr) ?_
      show OwnR _ _ _ _ _ _ _ (T14.setTop (mkF m 81 #[.val (.int p1), .val (.int p2), .val (.int p3), .val (.int p4), .val (.int p5), .val (.int va), .val (.int vb), .val (.int vc), .val (.int (1 : Int32)), .val (.int (1 : Int32)), .unset, .unset, .unset, .unset, .unset] [(.ref b9)]))
      refine OwnR.of (fun _ hr => XS.astore X14.here hx rfl (hb hby at_81) rfl rfl (l' := #[.val (.int p1), .val (.int p2), .val (.int p3), .val (.int p4), .val (.int p5), .val (.int va), .val (.int vb), .val (.int vc), .val (.int (1 : Int32)), .val (.int (1 : Int32)), .val (.ref b9), .unset, .unset, .unset, .unset]) rfl hr) ?_
      show OwnR _ _ _ _ _ _ _ (T14.setTop (mkF m 83 #[.val (.int p1), .val (.int p2), .val (.int p3), .val (.int p4), .val (.int p5), .val (.int va), .val (.int vb), .val (.int vc), .val (.int (1 : Int32)), .val (.int (1 : Int32)), .val (.ref b9), .unset, .unset, .unset, .unset] []))
      refine OwnR.of (fun _ hr => XS.goto X14.here hx rfl (pc0 := 83) (pc' := 172) rfl (hb hby at_83) (by decide) (by decide) hr) ?_
      show OwnR _ _ _ _ _ _ _ (T14.setTop (mkF m 172 #[.val (.int p1), .val (.int p2), .val (.int p3), .val (.int p4), .val (.int p5), .val (.int va), .val (.int vb), .val (.int vc), .val (.int (1 : Int32)), .val (.int (1 : Int32)), .val (.ref b9), .unset, .unset, .unset, .unset] []))
      refine OwnR.of (fun _ hr => XS.aload X14.here hx rfl (hb hby at_172) rfl rfl hr) ?_
      show OwnR _ _ _ _ _ _ _ (T14.setTop (mkF m 174 #[.val (.int p1), .val (.int p2), .val (.int p3), .val (.int p4), .val (.int p5), .val (.int va), .val (.int vb), .val (.int vc), .val (.int (1 : Int32)), .val (.int (1 : Int32)), .val (.ref b9), .unset, .unset, .unset, .unset] [(.ref b9)]))
      refine OwnR.of (fun _ hr => XS.iload X14.here hx rfl (hb hby at_174) rfl hr) ?_
      show OwnR _ _ _ _ _ _ _ (T14.setTop (mkF m 176 #[.val (.int p1), .val (.int p2), .val (.int p3), .val (.int p4), .val (.int p5), .val (.int va), .val (.int vb), .val (.int vc), .val (.int (1 : Int32)), .val (.int (1 : Int32)), .val (.ref b9), .unset, .unset, .unset, .unset] [(.int (1 : Int32)), (.ref b9)]))
      obtain ⟨cq15, kq15, q15a, q15b, q15c⟩ := isOf hZ rfl P14_1
      obtain ⟨_, _, ⟨T15, L15, kc15, ns15⟩, -, X15, ⟨Lc15, hQ15, l15, y15, z15⟩, st15⟩ := X14.virtualBack hx (y := (⟨"com/example/ramification/ramification/model/StrahlerOrders", "getBifurcationRatio", "(I)D"⟩ : MethodName)) (z := (⟨"com/example/ramification/ramification/model/StrahlerOrders", "getBifurcationRatio", "(I)D"⟩ : MethodName)) hown (mvT hZ (hw _ (List.mem_of_getElem? (i := 37) rfl))) (mvT hZ (hw _ (List.mem_of_getElem? (i := 38) rfl))) (notFace_of_selects (args := #[]) (mvT hZ (hw _ (List.mem_of_getElem? (i := 40) rfl)))) (mvT hZ (hw _ (List.mem_of_getElem? (i := 40) rfl))) (mvT hZ (hw _ (List.mem_of_getElem? (i := 39) rfl))) (by decide) (backOf (W := 0) (rm4_1_1 l Z a0 hw [] b9 bI_14 k10 va (T14.heap) n0 (Nat.le_trans Z0 K14.1) P14_1 P14_2 P14_3) hZ (hw _ (List.mem_of_getElem? (i := 41) rfl)) (hw _ (List.mem_of_getElem? (i := 7) rfl)) (by decide) (by decide)) q15a q15c (g := (mkF m 176 #[.val (.int p1), .val (.int p2), .val (.int p3), .val (.int p4), .val (.int p5), .val (.int va), .val (.int vb), .val (.int vc), .val (.int (1 : Int32)), .val (.int (1 : Int32)), .val (.ref b9), .unset, .unset, .unset, .unset] [(.int (1 : Int32)), (.ref b9)])) rfl (by rw [hml]; rfl) (Steps.refl _) (argsL := [(.int (1 : Int32))]) (rest := []) (lenOf pd__I_D rfl) rfl (by show 2 * 0 + _ ≤ _; exact Nat.le_of_eq rfl) (hb hby at_176) (fun _ _ => ⟨rfl, rfl, (by decide : 5 + 0 ≤ _), (by decide : 7 + 0 ≤ _)⟩)
      dsimp only [Pt.U, Pt.locs, Pt.cells, Pt.slots] at X15 l15 y15 z15 st15 hQ15
      rw [l15, y15, z15] at X15
      obtain ⟨rfl, N15q, e15⟩ := hQ15
      have N15 := Fr.app N14 N15q
      refine OwnR.of (fun _ hr => st15.trans hr) ?_
      show OwnR _ _ _ _ _ _ _ (T15.setTop (mkF m 179 #[.val (.int p1), .val (.int p2), .val (.int p3), .val (.int p4), .val (.int p5), .val (.int va), .val (.int vb), .val (.int vc), .val (.int (1 : Int32)), .val (.int (1 : Int32)), .val (.ref b9), .unset, .unset, .unset, .unset] [(.double (9221120237041090560 : UInt64))]))
      refine OwnR.of (fun _ hr => XS.dstore X15.here hx rfl (hb hby at_179) rfl (l' := #[.val (.int p1), .val (.int p2), .val (.int p3), .val (.int p4), .val (.int p5), .val (.int va), .val (.int vb), .val (.int vc), .val (.int (1 : Int32)), .val (.int (1 : Int32)), .val (.ref b9), .val (.double (9221120237041090560 : UInt64)), .second, .unset, .unset]) rfl hr) ?_
      show OwnR _ _ _ _ _ _ _ (T15.setTop (mkF m 181 #[.val (.int p1), .val (.int p2), .val (.int p3), .val (.int p4), .val (.int p5), .val (.int va), .val (.int vb), .val (.int vc), .val (.int (1 : Int32)), .val (.int (1 : Int32)), .val (.ref b9), .val (.double (9221120237041090560 : UInt64)), .second, .unset, .unset] []))
      refine OwnR.of (fun _ hr => XS.iload X15.here hx rfl (hb hby at_181) rfl hr) ?_
      show OwnR _ _ _ _ _ _ _ (T15.setTop (mkF m 183 #[.val (.int p1), .val (.int p2), .val (.int p3), .val (.int p4), .val (.int p5), .val (.int va), .val (.int vb), .val (.int vc), .val (.int (1 : Int32)), .val (.int (1 : Int32)), .val (.ref b9), .val (.double (9221120237041090560 : UInt64)), .second, .unset, .unset] [(.int (1 : Int32))]))
      refine OwnR.of (fun _ hr => XS.iload X15.here hx rfl (hb hby at_183) rfl hr) ?_
      show OwnR _ _ _ _ _ _ _ (T15.setTop (mkF m 185 #[.val (.int p1), .val (.int p2), .val (.int p3), .val (.int p4), .val (.int p5), .val (.int va), .val (.int vb), .val (.int vc), .val (.int (1 : Int32)), .val (.int (1 : Int32)), .val (.ref b9), .val (.double (9221120237041090560 : UInt64)), .second, .unset, .unset] [(.int (1 : Int32)), (.int (1 : Int32))]))
      refine OwnR.of (fun _ hr => XS.icmpNo X15.here hx rfl (hb hby at_185) rfl (teq (by decide : (1 : Int32) = (1 : Int32))).2 hr) ?_
      show OwnR _ _ _ _ _ _ _ (T15.setTop (mkF m 188 #[.val (.int p1), .val (.int p2), .val (.int p3), .val (.int p4), .val (.int p5), .val (.int va), .val (.int vb), .val (.int vc), .val (.int (1 : Int32)), .val (.int (1 : Int32)), .val (.ref b9), .val (.double (9221120237041090560 : UInt64)), .second, .unset, .unset] []))
      refine OwnR.of (fun _ hr => XS.dload X15.here hx rfl (hb hby at_188) rfl hr) ?_
      show OwnR _ _ _ _ _ _ _ (T15.setTop (mkF m 190 #[.val (.int p1), .val (.int p2), .val (.int p3), .val (.int p4), .val (.int p5), .val (.int va), .val (.int vb), .val (.int vc), .val (.int (1 : Int32)), .val (.int (1 : Int32)), .val (.ref b9), .val (.double (9221120237041090560 : UInt64)), .second, .unset, .unset] [(.double (9221120237041090560 : UInt64))]))
      refine OwnR.of (fun _ hr => XS.dload X15.here hx rfl (hb hby at_190) rfl hr) ?_
      show OwnR _ _ _ _ _ _ _ (T15.setTop (mkF m 192 #[.val (.int p1), .val (.int p2), .val (.int p3), .val (.int p4), .val (.int p5), .val (.int va), .val (.int vb), .val (.int vc), .val (.int (1 : Int32)), .val (.int (1 : Int32)), .val (.ref b9), .val (.double (9221120237041090560 : UInt64)), .second, .unset, .unset] [(.double (9221120237041090560 : UInt64)), (.double (9221120237041090560 : UInt64))]))
      refine OwnR.of (fun _ hr => XS.dcmpS (v := (-1 : Int32)) X15.here hx rfl (hb hby at_192) rfl (by decide +kernel) hr) ?_
      show OwnR _ _ _ _ _ _ _ (T15.setTop (mkF m 193 #[.val (.int p1), .val (.int p2), .val (.int p3), .val (.int p4), .val (.int p5), .val (.int va), .val (.int vb), .val (.int vc), .val (.int (1 : Int32)), .val (.int (1 : Int32)), .val (.ref b9), .val (.double (9221120237041090560 : UInt64)), .second, .unset, .unset] [(.int (-1 : Int32))]))
      refine OwnR.of (fun _ hr => XS.ifNo X15.here hx rfl (hb hby at_193) rfl ((if0 _ _).trans (feq (by decide : ¬ ((-1 : Int32) = (0 : Int32)))).1) hr) ?_
      show OwnR _ _ _ _ _ _ _ (T15.setTop (mkF m 196 #[.val (.int p1), .val (.int p2), .val (.int p3), .val (.int p4), .val (.int p5), .val (.int va), .val (.int vb), .val (.int vc), .val (.int (1 : Int32)), .val (.int (1 : Int32)), .val (.ref b9), .val (.double (9221120237041090560 : UInt64)), .second, .unset, .unset] []))
      refine OwnR.of (fun _ hr => XS.iconst X15.here hx rfl (hb hby at_196) hr) ?_
      show OwnR _ _ _ _ _ _ _ (T15.setTop (mkF m 197 #[.val (.int p1), .val (.int p2), .val (.int p3), .val (.int p4), .val (.int p5), .val (.int va), .val (.int vb), .val (.int vc), .val (.int (1 : Int32)), .val (.int (1 : Int32)), .val (.ref b9), .val (.double (9221120237041090560 : UInt64)), .second, .unset, .unset] [(.int (1 : Int32))]))
      refine OwnR.of (fun _ hr => XS.goto X15.here hx rfl (pc0 := 197) (pc' := 201) rfl (hb hby at_197) (by decide) (by decide) hr) ?_
      show OwnR _ _ _ _ _ _ _ (T15.setTop (mkF m 201 #[.val (.int p1), .val (.int p2), .val (.int p3), .val (.int p4), .val (.int p5), .val (.int va), .val (.int vb), .val (.int vc), .val (.int (1 : Int32)), .val (.int (1 : Int32)), .val (.ref b9), .val (.double (9221120237041090560 : UInt64)), .second, .unset, .unset] [(.int (1 : Int32))]))
      refine own_leafN X15 hx hlk (t := .boolean) Bd.returns (by simp) (hb hby at_201) (z' := (1 : Int32)) rfl (by decide) (by decide) ?_
      show Q0 Z  h0 n0 _ T15.heap _
      rw [show T15.heap = T14.heap from e15]
      refine ⟨?_, N15⟩
      show (some (.int (1 : Int32)) : Option Value) = some (.int (1 : Int32))
      rfl
  · skip
    show OwnR _ _ _ _ _ _ _ (T8.setTop (mkF m 40 #[.val (.int p1), .val (.int p2), .val (.int p3), .val (.int p4), .val (.int p5), .val (.int va), .val (.int vb), .val (.int vc), .val (.int (2 : Int32)), .unset, .unset, .unset, .unset, .unset, .unset] []))
    refine OwnR.of (fun _ hr => XS.iload X8.here hx rfl (hb hby at_40) rfl hr) ?_
    show OwnR _ _ _ _ _ _ _ (T8.setTop (mkF m 42 #[.val (.int p1), .val (.int p2), .val (.int p3), .val (.int p4), .val (.int p5), .val (.int va), .val (.int vb), .val (.int vc), .val (.int (2 : Int32)), .unset, .unset, .unset, .unset, .unset, .unset] [(.int p5)]))
    refine OwnR.of (X8.ldcInt hx hown (mvT hZ (hw _ (List.mem_of_getElem? (i := 0) rfl))) (g := (mkF m 42 #[.val (.int p1), .val (.int p2), .val (.int p3), .val (.int p4), .val (.int p5), .val (.int va), .val (.int vb), .val (.int vc), .val (.int (2 : Int32)), .unset, .unset, .unset, .unset, .unset, .unset] [(.int p5)])) rfl (hb hby at_42)) ?_
    show OwnR _ _ _ _ _ _ _ (T8.setTop (mkF m 44 #[.val (.int p1), .val (.int p2), .val (.int p3), .val (.int p4), .val (.int p5), .val (.int va), .val (.int vb), .val (.int vc), .val (.int (2 : Int32)), .unset, .unset, .unset, .unset, .unset, .unset] [(.int (2147483647 : Int32)), (.int p5)]))
    refine OwnR.of (fun _ hr => XS.iand X8.here hx rfl (hb hby at_44) rfl hr) ?_
    show OwnR _ _ _ _ _ _ _ (T8.setTop (mkF m 45 #[.val (.int p1), .val (.int p2), .val (.int p3), .val (.int p4), .val (.int p5), .val (.int va), .val (.int vb), .val (.int vc), .val (.int (2 : Int32)), .unset, .unset, .unset, .unset, .unset, .unset] [(.int (p5 &&& (2147483647 : Int32)))]))
    refine OwnR.of (fun _ hr => XS.iload X8.here hx rfl (hb hby at_45) rfl hr) ?_
    show OwnR _ _ _ _ _ _ _ (T8.setTop (mkF m 47 #[.val (.int p1), .val (.int p2), .val (.int p3), .val (.int p4), .val (.int p5), .val (.int va), .val (.int vb), .val (.int vc), .val (.int (2 : Int32)), .unset, .unset, .unset, .unset, .unset, .unset] [(.int (2 : Int32)), (.int (p5 &&& (2147483647 : Int32)))]))
    refine OwnR.of (fun _ hr => iremM X8 hx rfl (hb hby at_47) rfl (by decide) hr) ?_
    show OwnR _ _ _ _ _ _ _ (T8.setTop (mkF m 48 #[.val (.int p1), .val (.int p2), .val (.int p3), .val (.int p4), .val (.int p5), .val (.int va), .val (.int vb), .val (.int vc), .val (.int (2 : Int32)), .unset, .unset, .unset, .unset, .unset, .unset] [(.int ((p5 &&& (2147483647 : Int32)) % (2 : Int32)))]))
    refine OwnR.of (fun _ hr => XS.iconst X8.here hx rfl (hb hby at_48) hr) ?_
    show OwnR _ _ _ _ _ _ _ (T8.setTop (mkF m 49 #[.val (.int p1), .val (.int p2), .val (.int p3), .val (.int p4), .val (.int p5), .val (.int va), .val (.int vb), .val (.int vc), .val (.int (2 : Int32)), .unset, .unset, .unset, .unset, .unset, .unset] [(.int (1 : Int32)), (.int ((p5 &&& (2147483647 : Int32)) % (2 : Int32)))]))
    refine OwnR.of (fun _ hr => XS.iadd X8.here hx rfl (hb hby at_49) rfl hr) ?_
    show OwnR _ _ _ _ _ _ _ (T8.setTop (mkF m 50 #[.val (.int p1), .val (.int p2), .val (.int p3), .val (.int p4), .val (.int p5), .val (.int va), .val (.int vb), .val (.int vc), .val (.int (2 : Int32)), .unset, .unset, .unset, .unset, .unset, .unset] [(.int (((p5 &&& (2147483647 : Int32)) % (2 : Int32)) + (1 : Int32)))]))
    refine OwnR.of (fun _ hr => XS.istore X8.here hx rfl (hb hby at_50) rfl (l' := #[.val (.int p1), .val (.int p2), .val (.int p3), .val (.int p4), .val (.int p5), .val (.int va), .val (.int vb), .val (.int vc), .val (.int (2 : Int32)), .val (.int (((p5 &&& (2147483647 : Int32)) % (2 : Int32)) + (1 : Int32))), .unset, .unset, .unset, .unset, .unset]) rfl hr) ?_
    show OwnR _ _ _ _ _ _ _ (T8.setTop (mkF m 52 #[.val (.int p1), .val (.int p2), .val (.int p3), .val (.int p4), .val (.int p5), .val (.int va), .val (.int vb), .val (.int vc), .val (.int (2 : Int32)), .val (.int (((p5 &&& (2147483647 : Int32)) % (2 : Int32)) + (1 : Int32))), .unset, .unset, .unset, .unset, .unset] []))
    obtain ⟨o, ho⟩ : ∃ z : Int32, z = (((p5 &&& (2147483647 : Int32)) % (2 : Int32)) + (1 : Int32)) := ⟨_, rfl⟩
    rw [← ho]
    show OwnR _ _ _ _ _ _ _ (T8.setTop (mkF m 52 #[.val (.int p1), .val (.int p2), .val (.int p3), .val (.int p4), .val (.int p5), .val (.int va), .val (.int vb), .val (.int vc), .val (.int (2 : Int32)), .val (.int o), .unset, .unset, .unset, .unset, .unset] []))
    have hos : o = (1 : Int32) ∨ o = (2 : Int32) := by rw [ho]; exact own_r2 p5
    rcases hos with rfl | rfl
    · skip
      show OwnR _ _ _ _ _ _ _ (T8.setTop (mkF m 52 #[.val (.int p1), .val (.int p2), .val (.int p3), .val (.int p4), .val (.int p5), .val (.int va), .val (.int vb), .val (.int vc), .val (.int (2 : Int32)), .val (.int (1 : Int32)), .unset, .unset, .unset, .unset, .unset] []))
      refine OwnR.of (fun _ hr => XS.iload X8.here hx rfl (hb hby at_52) rfl hr) ?_
      show OwnR _ _ _ _ _ _ _ (T8.setTop (mkF m 54 #[.val (.int p1), .val (.int p2), .val (.int p3), .val (.int p4), .val (.int p5), .val (.int va), .val (.int vb), .val (.int vc), .val (.int (2 : Int32)), .val (.int (1 : Int32)), .unset, .unset, .unset, .unset, .unset] [(.int (2 : Int32))]))
      refine OwnR.of (fun _ hr => XS.iconst X8.here hx rfl (hb hby at_54) hr) ?_
      show OwnR _ _ _ _ _ _ _ (T8.setTop (mkF m 55 #[.val (.int p1), .val (.int p2), .val (.int p3), .val (.int p4), .val (.int p5), .val (.int va), .val (.int vb), .val (.int vc), .val (.int (2 : Int32)), .val (.int (1 : Int32)), .unset, .unset, .unset, .unset, .unset] [(.int (1 : Int32)), (.int (2 : Int32))]))
      refine OwnR.of (fun _ hr => XS.icmpYes X8.here hx rfl (pc0 := 55) (pc' := 86) rfl (hb hby at_55) rfl (feq (by decide : ¬ ((2 : Int32) = (1 : Int32)))).2 (by decide) (by decide) hr) ?_
      show OwnR _ _ _ _ _ _ _ (T8.setTop (mkF m 86 #[.val (.int p1), .val (.int p2), .val (.int p3), .val (.int p4), .val (.int p5), .val (.int va), .val (.int vb), .val (.int vc), .val (.int (2 : Int32)), .val (.int (1 : Int32)), .unset, .unset, .unset, .unset, .unset] []))
      refine OwnR.of (fun _ hr => XS.iload X8.here hx rfl (hb hby at_86) rfl hr) ?_
      show OwnR _ _ _ _ _ _ _ (T8.setTop (mkF m 88 #[.val (.int p1), .val (.int p2), .val (.int p3), .val (.int p4), .val (.int p5), .val (.int va), .val (.int vb), .val (.int vc), .val (.int (2 : Int32)), .val (.int (1 : Int32)), .unset, .unset, .unset, .unset, .unset] [(.int (2 : Int32))]))
      refine OwnR.of (fun _ hr => XS.iconst X8.here hx rfl (hb hby at_88) hr) ?_
      show OwnR _ _ _ _ _ _ _ (T8.setTop (mkF m 89 #[.val (.int p1), .val (.int p2), .val (.int p3), .val (.int p4), .val (.int p5), .val (.int va), .val (.int vb), .val (.int vc), .val (.int (2 : Int32)), .val (.int (1 : Int32)), .unset, .unset, .unset, .unset, .unset] [(.int (2 : Int32)), (.int (2 : Int32))]))
      refine OwnR.of (fun _ hr => XS.icmpNo X8.here hx rfl (hb hby at_89) rfl (teq (by decide : (2 : Int32) = (2 : Int32))).2 hr) ?_
      show OwnR _ _ _ _ _ _ _ (T8.setTop (mkF m 92 #[.val (.int p1), .val (.int p2), .val (.int p3), .val (.int p4), .val (.int p5), .val (.int va), .val (.int vb), .val (.int vc), .val (.int (2 : Int32)), .val (.int (1 : Int32)), .unset, .unset, .unset, .unset, .unset] []))
      obtain ⟨T16, h16, X16, e16, E16, A16, D16, -, st16⟩ := newO X8 hx hZ hown (hw _ (List.mem_of_getElem? (i := 5) rfl)) (hw _ (List.mem_of_getElem? (i := 6) rfl)) (hw _ (List.mem_of_getElem? (i := 7) rfl)) e8 (g := (mkF m 92 #[.val (.int p1), .val (.int p2), .val (.int p3), .val (.int p4), .val (.int p5), .val (.int va), .val (.int vb), .val (.int vc), .val (.int (2 : Int32)), .val (.int (1 : Int32)), .unset, .unset, .unset, .unset, .unset] [])) rfl (hb hby at_92) (by decide) (by decide)
      obtain ⟨b16, g16⟩ : ∃ z, z = h0.size := ⟨_, rfl⟩
      rw [← g16] at A16 D16 st16
      refine OwnR.of (st16) ?_
      have gn_b16 : n0 ≤ b16 := Nat.le_trans (Nat.le_trans Z0 (Keep.refl h0 []).1) (Nat.le_of_eq g16.symm)
      have sz_b16 : h0.size ≤ b16 := Nat.le_trans (Keep.refl h0 []).1 (Nat.le_of_eq g16.symm)
      have K16 : Keep h0 h16 [] := Keep.ext (Keep.refl h0 []) E16
      have F_branches_b16 : Fld Z h16 b16 "com/example/ramification/ramification/model/StrahlerOrders" "branches" "[I" .null := D16 (Or.inr (hw _ (List.mem_of_getElem? (i := 26) rfl))) (ty := (.array .int)) (by decide)
      have F_lengths_b16 : Fld Z h16 b16 "com/example/ramification/ramification/model/StrahlerOrders" "lengths" "[D" .null := D16 (Or.inr (hw _ (List.mem_of_getElem? (i := 34) rfl))) (ty := (.array .double)) (by decide)
      have F_unit_b16 : Fld Z h16 b16 "com/example/ramification/ramification/model/StrahlerOrders" "unit" "Ljava/util/Optional;" .null := D16 (Or.inr (hw _ (List.mem_of_getElem? (i := 36) rfl))) (ty := (.object "java/util/Optional")) (by decide)
      show OwnR _ _ _ _ _ _ _ (T16.setTop (mkF m 95 #[.val (.int p1), .val (.int p2), .val (.int p3), .val (.int p4), .val (.int p5), .val (.int va), .val (.int vb), .val (.int vc), .val (.int (2 : Int32)), .val (.int (1 : Int32)), .unset, .unset, .unset, .unset, .unset] [(.ref b16)]))
      refine OwnR.of (fun _ hr => XS.dup X16.here hx rfl (hb hby at_95) rfl rfl hr) ?_
      show OwnR _ _ _ _ _ _ _ (T16.setTop (mkF m 96 #[.val (.int p1), .val (.int p2), .val (.int p3), .val (.int p4), .val (.int p5), .val (.int va), .val (.int vb), .val (.int vc), .val (.int (2 : Int32)), .val (.int (1 : Int32)), .unset, .unset, .unset, .unset, .unset] [(.ref b16), (.ref b16)]))
      refine OwnR.of (fun _ hr => XS.iconst X16.here hx rfl (hb hby at_96) hr) ?_
      show OwnR _ _ _ _ _ _ _ (T16.setTop (mkF m 97 #[.val (.int p1), .val (.int p2), .val (.int p3), .val (.int p4), .val (.int p5), .val (.int va), .val (.int vb), .val (.int vc), .val (.int (2 : Int32)), .val (.int (1 : Int32)), .unset, .unset, .unset, .unset, .unset] [(.int (2 : Int32)), (.ref b16), (.ref b16)]))
      obtain ⟨T17, h17, k17, X17, e17, E17, A17, AE17, st17⟩ := newPE X16 hx hZ (hw _ (List.mem_of_getElem? (i := 8) rfl)) e16 (g := (mkF m 97 #[.val (.int p1), .val (.int p2), .val (.int p3), .val (.int p4), .val (.int p5), .val (.int va), .val (.int vb), .val (.int vc), .val (.int (2 : Int32)), .val (.int (1 : Int32)), .unset, .unset, .unset, .unset, .unset] [(.int (2 : Int32)), (.ref b16), (.ref b16)])) rfl (hb hby at_97) rfl (by decide) (cap := 2) (by decide) (by decide) (by decide) (by decide) (ad := "[I") rfl
      obtain ⟨b17, g17⟩ : ∃ z, z = h16.size := ⟨_, rfl⟩
      rw [← g17] at A17 AE17 st17
      refine OwnR.of (st17) ?_
      have gn_b17 : n0 ≤ b17 := Nat.le_trans (Nat.le_trans Z0 K16.1) (Nat.le_of_eq g17.symm)
      have sz_b17 : h0.size ≤ b17 := Nat.le_trans K16.1 (Nat.le_of_eq g17.symm)
      have K17 : Keep h0 h17 [] := Keep.ext K16 E17
      have V17 : Arv Z h17 b17 k17 .int (2 : Int32) [(.int (0 : Int32)), (.int (0 : Int32))] (.int (0 : Int32)) := (Arv.new A17 (by decide)).pad (pad_rep [] (.int (0 : Int32)) 2)
      show OwnR _ _ _ _ _ _ _ (T17.setTop (mkF m 99 #[.val (.int p1), .val (.int p2), .val (.int p3), .val (.int p4), .val (.int p5), .val (.int va), .val (.int vb), .val (.int vc), .val (.int (2 : Int32)), .val (.int (1 : Int32)), .unset, .unset, .unset, .unset, .unset] [(.ref b17), (.ref b16), (.ref b16)]))
      refine OwnR.of (fun _ hr => XS.dup X17.here hx rfl (hb hby at_99) rfl rfl hr) ?_
      show OwnR _ _ _ _ _ _ _ (T17.setTop (mkF m 100 #[.val (.int p1), .val (.int p2), .val (.int p3), .val (.int p4), .val (.int p5), .val (.int va), .val (.int vb), .val (.int vc), .val (.int (2 : Int32)), .val (.int (1 : Int32)), .unset, .unset, .unset, .unset, .unset] [(.ref b17), (.ref b17), (.ref b16), (.ref b16)]))
      refine OwnR.of (fun _ hr => XS.iconst X17.here hx rfl (hb hby at_100) hr) ?_
      show OwnR _ _ _ _ _ _ _ (T17.setTop (mkF m 101 #[.val (.int p1), .val (.int p2), .val (.int p3), .val (.int p4), .val (.int p5), .val (.int va), .val (.int vb), .val (.int vc), .val (.int (2 : Int32)), .val (.int (1 : Int32)), .unset, .unset, .unset, .unset, .unset] [(.int (0 : Int32)), (.ref b17), (.ref b17), (.ref b16), (.ref b16)]))
      refine OwnR.of (fun _ hr => XS.iload X17.here hx rfl (hb hby at_101) rfl hr) ?_
      show OwnR _ _ _ _ _ _ _ (T17.setTop (mkF m 103 #[.val (.int p1), .val (.int p2), .val (.int p3), .val (.int p4), .val (.int p5), .val (.int va), .val (.int vb), .val (.int vc), .val (.int (2 : Int32)), .val (.int (1 : Int32)), .unset, .unset, .unset, .unset, .unset] [(.int va), (.int (0 : Int32)), (.ref b17), (.ref b17), (.ref b16), (.ref b16)]))
      obtain ⟨cl18, Ar18, q18, S18, N18q, H18, G18⟩ := id V17
      have hin18 : ¬ ((0 : Int32) < 0 ∨ cl18.slots.size ≤ ((0 : Int32)).toNatClampNeg) := (inb_of S18 ⟨by decide, by decide⟩)
      obtain ⟨T18, h18, X18, e18, W18, st18⟩ := stI X17 hx hZ e17 Ar18 (j := (0 : Int32)) hin18 (g := (mkF m 103 #[.val (.int p1), .val (.int p2), .val (.int p3), .val (.int p4), .val (.int p5), .val (.int va), .val (.int vb), .val (.int vc), .val (.int (2 : Int32)), .val (.int (1 : Int32)), .unset, .unset, .unset, .unset, .unset] [(.int va), (.int (0 : Int32)), (.ref b17), (.ref b17), (.ref b16), (.ref b16)])) rfl rfl (hb hby at_103)
      refine OwnR.of (st18) ?_
      have V18 := Arv.set Ar18 q18 S18 N18q H18 G18 rfl W18 0 rfl (Nat.le_of_ble_eq_true rfl)
      have V18 : Arv Z h18 b17 k17 .int (2 : Int32) [(.int va), (.int (0 : Int32))] (.int (0 : Int32)) := V18
      have K18 : Keep h0 h18 [] := Keep.wr K17 W18 (Or.inr sz_b17)
      have N18 := Fr.snoc X18 N8 gn_b17
      show OwnR _ _ _ _ _ _ _ (T18.setTop (mkF m 104 #[.val (.int p1), .val (.int p2), .val (.int p3), .val (.int p4), .val (.int p5), .val (.int va), .val (.int vb), .val (.int vc), .val (.int (2 : Int32)), .val (.int (1 : Int32)), .unset, .unset, .unset, .unset, .unset] [(.ref b17), (.ref b16), (.ref b16)]))
      refine OwnR.of (fun _ hr => XS.dup X18.here hx rfl (hb hby at_104) rfl rfl hr) ?_
      show OwnR _ _ _ _ _ _ _ (T18.setTop (mkF m 105 #[.val (.int p1), .val (.int p2), .val (.int p3), .val (.int p4), .val (.int p5), .val (.int va), .val (.int vb), .val (.int vc), .val (.int (2 : Int32)), .val (.int (1 : Int32)), .unset, .unset, .unset, .unset, .unset] [(.ref b17), (.ref b17), (.ref b16), (.ref b16)]))
      refine OwnR.of (fun _ hr => XS.iconst X18.here hx rfl (hb hby at_105) hr) ?_
      show OwnR _ _ _ _ _ _ _ (T18.setTop (mkF m 106 #[.val (.int p1), .val (.int p2), .val (.int p3), .val (.int p4), .val (.int p5), .val (.int va), .val (.int vb), .val (.int vc), .val (.int (2 : Int32)), .val (.int (1 : Int32)), .unset, .unset, .unset, .unset, .unset] [(.int (1 : Int32)), (.ref b17), (.ref b17), (.ref b16), (.ref b16)]))
      refine OwnR.of (fun _ hr => XS.iload X18.here hx rfl (hb hby at_106) rfl hr) ?_
      show OwnR _ _ _ _ _ _ _ (T18.setTop (mkF m 108 #[.val (.int p1), .val (.int p2), .val (.int p3), .val (.int p4), .val (.int p5), .val (.int va), .val (.int vb), .val (.int vc), .val (.int (2 : Int32)), .val (.int (1 : Int32)), .unset, .unset, .unset, .unset, .unset] [(.int vb), (.int (1 : Int32)), (.ref b17), (.ref b17), (.ref b16), (.ref b16)]))
      obtain ⟨cl19, Ar19, q19, S19, N19q, H19, G19⟩ := id V18
      have hin19 : ¬ ((1 : Int32) < 0 ∨ cl19.slots.size ≤ ((1 : Int32)).toNatClampNeg) := (inb_of S19 ⟨by decide, by decide⟩)
      obtain ⟨T19, h19, X19, e19, W19, st19⟩ := stI X18 hx hZ e18 Ar19 (j := (1 : Int32)) hin19 (g := (mkF m 108 #[.val (.int p1), .val (.int p2), .val (.int p3), .val (.int p4), .val (.int p5), .val (.int va), .val (.int vb), .val (.int vc), .val (.int (2 : Int32)), .val (.int (1 : Int32)), .unset, .unset, .unset, .unset, .unset] [(.int vb), (.int (1 : Int32)), (.ref b17), (.ref b17), (.ref b16), (.ref b16)])) rfl rfl (hb hby at_108)
      refine OwnR.of (st19) ?_
      have V19 := Arv.set Ar19 q19 S19 N19q H19 G19 rfl W19 1 rfl (Nat.le_of_ble_eq_true rfl)
      have V19 : Arv Z h19 b17 k17 .int (2 : Int32) [(.int va), (.int vb)] (.int (0 : Int32)) := V19
      have K19 : Keep h0 h19 [] := Keep.wr K18 W19 (Or.inr sz_b17)
      have N19 := Fr.snoc X19 N18 gn_b17
      show OwnR _ _ _ _ _ _ _ (T19.setTop (mkF m 109 #[.val (.int p1), .val (.int p2), .val (.int p3), .val (.int p4), .val (.int p5), .val (.int va), .val (.int vb), .val (.int vc), .val (.int (2 : Int32)), .val (.int (1 : Int32)), .unset, .unset, .unset, .unset, .unset] [(.ref b17), (.ref b16), (.ref b16)]))
      refine OwnR.of (fun _ hr => XS.iconst X19.here hx rfl (hb hby at_109) hr) ?_
      show OwnR _ _ _ _ _ _ _ (T19.setTop (mkF m 110 #[.val (.int p1), .val (.int p2), .val (.int p3), .val (.int p4), .val (.int p5), .val (.int va), .val (.int vb), .val (.int vc), .val (.int (2 : Int32)), .val (.int (1 : Int32)), .unset, .unset, .unset, .unset, .unset] [(.int (2 : Int32)), (.ref b17), (.ref b16), (.ref b16)]))
      obtain ⟨T20, h20, k20, X20, e20, E20, A20, AE20, st20⟩ := newPE X19 hx hZ (hw _ (List.mem_of_getElem? (i := 9) rfl)) e19 (g := (mkF m 110 #[.val (.int p1), .val (.int p2), .val (.int p3), .val (.int p4), .val (.int p5), .val (.int va), .val (.int vb), .val (.int vc), .val (.int (2 : Int32)), .val (.int (1 : Int32)), .unset, .unset, .unset, .unset, .unset] [(.int (2 : Int32)), (.ref b17), (.ref b16), (.ref b16)])) rfl (hb hby at_110) rfl (by decide) (cap := 2) (by decide) (by decide) (by decide) (by decide) (ad := "[D") rfl
      obtain ⟨b20, g20⟩ : ∃ z, z = h19.size := ⟨_, rfl⟩
      rw [← g20] at A20 AE20 st20
      refine OwnR.of (st20) ?_
      have gn_b20 : n0 ≤ b20 := Nat.le_trans (Nat.le_trans Z0 K19.1) (Nat.le_of_eq g20.symm)
      have sz_b20 : h0.size ≤ b20 := Nat.le_trans K19.1 (Nat.le_of_eq g20.symm)
      have K20 : Keep h0 h20 [] := Keep.ext K19 E20
      have V20 : Arv Z h20 b20 k20 .double (2 : Int32) [(.double (0 : UInt64)), (.double (0 : UInt64))] (.double (0 : UInt64)) := (Arv.new A20 (by decide)).pad (pad_rep [] (.double (0 : UInt64)) 2)
      show OwnR _ _ _ _ _ _ _ (T20.setTop (mkF m 112 #[.val (.int p1), .val (.int p2), .val (.int p3), .val (.int p4), .val (.int p5), .val (.int va), .val (.int vb), .val (.int vc), .val (.int (2 : Int32)), .val (.int (1 : Int32)), .unset, .unset, .unset, .unset, .unset] [(.ref b20), (.ref b17), (.ref b16), (.ref b16)]))
      refine OwnR.of (fun _ hr => XS.dup X20.here hx rfl (hb hby at_112) rfl rfl hr) ?_
      show OwnR _ _ _ _ _ _ _ (T20.setTop (mkF m 113 #[.val (.int p1), .val (.int p2), .val (.int p3), .val (.int p4), .val (.int p5), .val (.int va), .val (.int vb), .val (.int vc), .val (.int (2 : Int32)), .val (.int (1 : Int32)), .unset, .unset, .unset, .unset, .unset] [(.ref b20), (.ref b20), (.ref b17), (.ref b16), (.ref b16)]))
      refine OwnR.of (fun _ hr => XS.iconst X20.here hx rfl (hb hby at_113) hr) ?_
      show OwnR _ _ _ _ _ _ _ (T20.setTop (mkF m 114 #[.val (.int p1), .val (.int p2), .val (.int p3), .val (.int p4), .val (.int p5), .val (.int va), .val (.int vb), .val (.int vc), .val (.int (2 : Int32)), .val (.int (1 : Int32)), .unset, .unset, .unset, .unset, .unset] [(.int (0 : Int32)), (.ref b20), (.ref b20), (.ref b17), (.ref b16), (.ref b16)]))
      refine OwnR.of (fun _ hr => XS.dconst0 X20.here hx rfl (hb hby at_114) (v := (0 : UInt64)) (by decide +kernel) hr) ?_
      show OwnR _ _ _ _ _ _ _ (T20.setTop (mkF m 115 #[.val (.int p1), .val (.int p2), .val (.int p3), .val (.int p4), .val (.int p5), .val (.int va), .val (.int vb), .val (.int vc), .val (.int (2 : Int32)), .val (.int (1 : Int32)), .unset, .unset, .unset, .unset, .unset] [(.double (0 : UInt64)), (.int (0 : Int32)), (.ref b20), (.ref b20), (.ref b17), (.ref b16), (.ref b16)]))
      obtain ⟨cl21, Ar21, q21, S21, N21q, H21, G21⟩ := id V20
      have hin21 : ¬ ((0 : Int32) < 0 ∨ cl21.slots.size ≤ ((0 : Int32)).toNatClampNeg) := (inb_of S21 ⟨by decide, by decide⟩)
      obtain ⟨T21, h21, X21, e21, W21, st21⟩ := stD X20 hx hZ e20 Ar21 (j := (0 : Int32)) hin21 (g := (mkF m 115 #[.val (.int p1), .val (.int p2), .val (.int p3), .val (.int p4), .val (.int p5), .val (.int va), .val (.int vb), .val (.int vc), .val (.int (2 : Int32)), .val (.int (1 : Int32)), .unset, .unset, .unset, .unset, .unset] [(.double (0 : UInt64)), (.int (0 : Int32)), (.ref b20), (.ref b20), (.ref b17), (.ref b16), (.ref b16)])) rfl rfl (hb hby at_115)
      refine OwnR.of (st21) ?_
      have V21 := Arv.set Ar21 q21 S21 N21q H21 G21 rfl W21 0 rfl (Nat.le_of_ble_eq_true rfl)
      have V21 : Arv Z h21 b20 k20 .double (2 : Int32) [(.double (0 : UInt64)), (.double (0 : UInt64))] (.double (0 : UInt64)) := V21
      have K21 : Keep h0 h21 [] := Keep.wr K20 W21 (Or.inr sz_b20)
      have N21 := Fr.snoc X21 N19 gn_b20
      show OwnR _ _ _ _ _ _ _ (T21.setTop (mkF m 116 #[.val (.int p1), .val (.int p2), .val (.int p3), .val (.int p4), .val (.int p5), .val (.int va), .val (.int vb), .val (.int vc), .val (.int (2 : Int32)), .val (.int (1 : Int32)), .unset, .unset, .unset, .unset, .unset] [(.ref b20), (.ref b17), (.ref b16), (.ref b16)]))
      refine OwnR.of (fun _ hr => XS.dup X21.here hx rfl (hb hby at_116) rfl rfl hr) ?_
      show OwnR _ _ _ _ _ _ _ (T21.setTop (mkF m 117 #[.val (.int p1), .val (.int p2), .val (.int p3), .val (.int p4), .val (.int p5), .val (.int va), .val (.int vb), .val (.int vc), .val (.int (2 : Int32)), .val (.int (1 : Int32)), .unset, .unset, .unset, .unset, .unset] [(.ref b20), (.ref b20), (.ref b17), (.ref b16), (.ref b16)]))
      refine OwnR.of (fun _ hr => XS.iconst X21.here hx rfl (hb hby at_117) hr) ?_
      show OwnR _ _ _ _ _ _ _ (T21.setTop (mkF m 118 #[.val (.int p1), .val (.int p2), .val (.int p3), .val (.int p4), .val (.int p5), .val (.int va), .val (.int vb), .val (.int vc), .val (.int (2 : Int32)), .val (.int (1 : Int32)), .unset, .unset, .unset, .unset, .unset] [(.int (1 : Int32)), (.ref b20), (.ref b20), (.ref b17), (.ref b16), (.ref b16)]))
      refine OwnR.of (fun _ hr => XS.dconst0 X21.here hx rfl (hb hby at_118) (v := (0 : UInt64)) (by decide +kernel) hr) ?_
      show OwnR _ _ _ _ _ _ _ (T21.setTop (mkF m 119 #[.val (.int p1), .val (.int p2), .val (.int p3), .val (.int p4), .val (.int p5), .val (.int va), .val (.int vb), .val (.int vc), .val (.int (2 : Int32)), .val (.int (1 : Int32)), .unset, .unset, .unset, .unset, .unset] [(.double (0 : UInt64)), (.int (1 : Int32)), (.ref b20), (.ref b20), (.ref b17), (.ref b16), (.ref b16)]))
      obtain ⟨cl22, Ar22, q22, S22, N22q, H22, G22⟩ := id V21
      have hin22 : ¬ ((1 : Int32) < 0 ∨ cl22.slots.size ≤ ((1 : Int32)).toNatClampNeg) := (inb_of S22 ⟨by decide, by decide⟩)
      obtain ⟨T22, h22, X22, e22, W22, st22⟩ := stD X21 hx hZ e21 Ar22 (j := (1 : Int32)) hin22 (g := (mkF m 119 #[.val (.int p1), .val (.int p2), .val (.int p3), .val (.int p4), .val (.int p5), .val (.int va), .val (.int vb), .val (.int vc), .val (.int (2 : Int32)), .val (.int (1 : Int32)), .unset, .unset, .unset, .unset, .unset] [(.double (0 : UInt64)), (.int (1 : Int32)), (.ref b20), (.ref b20), (.ref b17), (.ref b16), (.ref b16)])) rfl rfl (hb hby at_119)
      refine OwnR.of (st22) ?_
      have V22 := Arv.set Ar22 q22 S22 N22q H22 G22 rfl W22 1 rfl (Nat.le_of_ble_eq_true rfl)
      have V22 : Arv Z h22 b20 k20 .double (2 : Int32) [(.double (0 : UInt64)), (.double (0 : UInt64))] (.double (0 : UInt64)) := V22
      have K22 : Keep h0 h22 [] := Keep.wr K21 W22 (Or.inr sz_b20)
      have N22 := Fr.snoc X22 N21 gn_b20
      show OwnR _ _ _ _ _ _ _ (T22.setTop (mkF m 120 #[.val (.int p1), .val (.int p2), .val (.int p3), .val (.int p4), .val (.int p5), .val (.int va), .val (.int vb), .val (.int vc), .val (.int (2 : Int32)), .val (.int (1 : Int32)), .unset, .unset, .unset, .unset, .unset] [(.ref b20), (.ref b17), (.ref b16), (.ref b16)]))
      refine OwnR.of (fun _ hr => XS.aconstNull X22.here hx rfl (hb hby at_120) hr) ?_
      show OwnR _ _ _ _ _ _ _ (T22.setTop (mkF m 121 #[.val (.int p1), .val (.int p2), .val (.int p3), .val (.int p4), .val (.int p5), .val (.int va), .val (.int vb), .val (.int vc), .val (.int (2 : Int32)), .val (.int (1 : Int32)), .unset, .unset, .unset, .unset, .unset] [.null, (.ref b20), (.ref b17), (.ref b16), (.ref b16)]))
      obtain ⟨_, _, ⟨T23, L23, kc23, ns23⟩, -, X23, ⟨Lc23, hQ23, l23, y23, z23⟩, st23⟩ := X22.specialBack hx (y := (⟨"com/example/ramification/ramification/model/StrahlerOrders", "<init>", "([I[DLjava/util/Optional;)V"⟩ : MethodName)) rfl hown (mvT hZ (hw _ (List.mem_of_getElem? (i := 10) rfl))) (mvT hZ (hw _ (List.mem_of_getElem? (i := 11) rfl))) (mvT hZ (hw _ (List.mem_of_getElem? (i := 12) rfl))) (by decide) (backOf (W := 1) (rm2_2 l Z a0 hw [] b16 b17 b20 k17 k20 va vb h22 n0 (Nat.le_trans Z0 K22.1) (Exa.wr W22 (Exa.wr W21 (Exa.ext E20 (Exa.wr W19 (Exa.wr W18 (Exa.ext E17 A16)))))) (Fld.other W22 (Fld.other W21 (Fld.ext E20 (Fld.other W19 (Fld.other W18 (Fld.ext E17 F_branches_b16) (Or.inl (Nat.ne_of_lt (Nat.lt_of_lt_of_le A16.lt (Nat.le_of_eq g17.symm))))) (Or.inl (Nat.ne_of_lt (Nat.lt_of_lt_of_le A16.lt (Nat.le_of_eq g17.symm)))))) (Or.inl (Nat.ne_of_lt (Nat.lt_of_lt_of_le (Exa.wr W19 (Exa.wr W18 (Exa.ext E17 A16))).lt (Nat.le_of_eq g20.symm))))) (Or.inl (Nat.ne_of_lt (Nat.lt_of_lt_of_le (Exa.wr W19 (Exa.wr W18 (Exa.ext E17 A16))).lt (Nat.le_of_eq g20.symm))))) (Fld.other W22 (Fld.other W21 (Fld.ext E20 (Fld.other W19 (Fld.other W18 (Fld.ext E17 F_lengths_b16) (Or.inl (Nat.ne_of_lt (Nat.lt_of_lt_of_le A16.lt (Nat.le_of_eq g17.symm))))) (Or.inl (Nat.ne_of_lt (Nat.lt_of_lt_of_le A16.lt (Nat.le_of_eq g17.symm)))))) (Or.inl (Nat.ne_of_lt (Nat.lt_of_lt_of_le (Exa.wr W19 (Exa.wr W18 (Exa.ext E17 A16))).lt (Nat.le_of_eq g20.symm))))) (Or.inl (Nat.ne_of_lt (Nat.lt_of_lt_of_le (Exa.wr W19 (Exa.wr W18 (Exa.ext E17 A16))).lt (Nat.le_of_eq g20.symm))))) (Fld.other W22 (Fld.other W21 (Fld.ext E20 (Fld.other W19 (Fld.other W18 (Fld.ext E17 F_unit_b16) (Or.inl (Nat.ne_of_lt (Nat.lt_of_lt_of_le A16.lt (Nat.le_of_eq g17.symm))))) (Or.inl (Nat.ne_of_lt (Nat.lt_of_lt_of_le A16.lt (Nat.le_of_eq g17.symm)))))) (Or.inl (Nat.ne_of_lt (Nat.lt_of_lt_of_le (Exa.wr W19 (Exa.wr W18 (Exa.ext E17 A16))).lt (Nat.le_of_eq g20.symm))))) (Or.inl (Nat.ne_of_lt (Nat.lt_of_lt_of_le (Exa.wr W19 (Exa.wr W18 (Exa.ext E17 A16))).lt (Nat.le_of_eq g20.symm))))) (Arv.other (Arv.other (Arv.ext V19 E20) W21 (Nat.ne_of_lt (Nat.lt_of_lt_of_le (Exa.wr W19 (Exa.wr W18 AE17)).lt (Nat.le_of_eq g20.symm)))) W22 (Nat.ne_of_lt (Nat.lt_of_lt_of_le (Exa.wr W19 (Exa.wr W18 AE17)).lt (Nat.le_of_eq g20.symm)))) V22 (Exa.wr W22 (Exa.wr W21 (Exa.ext E20 (Exa.wr W19 (Exa.wr W18 AE17))))) (Exa.wr W22 (Exa.wr W21 AE20)) gn_b16 (Nat.ne_of_lt (Nat.lt_of_lt_of_le A16.lt (Nat.le_of_eq g17.symm))) (Nat.ne_of_lt (Nat.lt_of_lt_of_le (Exa.wr W19 (Exa.wr W18 (Exa.ext E17 A16))).lt (Nat.le_of_eq g20.symm))) hva1 hvb1) hZ (hw _ (List.mem_of_getElem? (i := 12) rfl)) (hw _ (List.mem_of_getElem? (i := 7) rfl)) (by decide) (by decide)) (g := (mkF m 121 #[.val (.int p1), .val (.int p2), .val (.int p3), .val (.int p4), .val (.int p5), .val (.int va), .val (.int vb), .val (.int vc), .val (.int (2 : Int32)), .val (.int (1 : Int32)), .unset, .unset, .unset, .unset, .unset] [.null, (.ref b20), (.ref b17), (.ref b16), (.ref b16)])) rfl (by rw [hml]; rfl) (Steps.refl _) (a := b16) (argsL := [(.ref b17), (.ref b20), .null]) (rest := [(.ref b16)]) (lenOf pd___I_DLjava_util_Optional__V rfl) rfl (by show 2 * 0 + _ ≤ _; exact Nat.le_of_eq rfl) (hb hby at_121) (fun _ _ => ⟨rfl, e22, (by decide : 3 + 2 ≤ _), (by decide : 7 + 4 ≤ _)⟩)
      dsimp only [Pt.U, Pt.locs, Pt.cells, Pt.slots] at X23 l23 y23 z23 st23 hQ23
      rw [l23, y23, z23] at X23
      obtain ⟨bI_23, rfl, N23q, P23_0, P23_1, P23_2, P23_3⟩ := hQ23
      have K23 : Keep h0 T23.heap [] := Keep.trans K22 P23_0 (allS (Or.inr sz_b16) all0)
      have N23 := Fr.app N22 N23q
      refine OwnR.of (fun _ hr => st23.trans hr) ?_
      show OwnR _ _ _ _ _ _ _ (T23.setTop (mkF m 124 #[.val (.int p1), .val (.int p2), .val (.int p3), .val (.int p4), .val (.int p5), .val (.int va), .val (.int vb), .val (.int vc), .val (.int (2 : Int32)), .val (.int (1 : Int32)), .unset, .unset, .unset, .unset, .unset] [(.ref b16)]))
      refine OwnR.of (fun _ hr => XS.astore X23.here hx rfl (hb hby at_124) rfl rfl (l' := #[.val (.int p1), .val (.int p2), .val (.int p3), .val (.int p4), .val (.int p5), .val (.int va), .val (.int vb), .val (.int vc), .val (.int (2 : Int32)), .val (.int (1 : Int32)), .val (.ref b16), .unset, .unset, .unset, .unset]) rfl hr) ?_
      show OwnR _ _ _ _ _ _ _ (T23.setTop (mkF m 126 #[.val (.int p1), .val (.int p2), .val (.int p3), .val (.int p4), .val (.int p5), .val (.int va), .val (.int vb), .val (.int vc), .val (.int (2 : Int32)), .val (.int (1 : Int32)), .val (.ref b16), .unset, .unset, .unset, .unset] []))
      refine OwnR.of (fun _ hr => XS.goto X23.here hx rfl (pc0 := 126) (pc' := 172) rfl (hb hby at_126) (by decide) (by decide) hr) ?_
      show OwnR _ _ _ _ _ _ _ (T23.setTop (mkF m 172 #[.val (.int p1), .val (.int p2), .val (.int p3), .val (.int p4), .val (.int p5), .val (.int va), .val (.int vb), .val (.int vc), .val (.int (2 : Int32)), .val (.int (1 : Int32)), .val (.ref b16), .unset, .unset, .unset, .unset] []))
      refine OwnR.of (fun _ hr => XS.aload X23.here hx rfl (hb hby at_172) rfl rfl hr) ?_
      show OwnR _ _ _ _ _ _ _ (T23.setTop (mkF m 174 #[.val (.int p1), .val (.int p2), .val (.int p3), .val (.int p4), .val (.int p5), .val (.int va), .val (.int vb), .val (.int vc), .val (.int (2 : Int32)), .val (.int (1 : Int32)), .val (.ref b16), .unset, .unset, .unset, .unset] [(.ref b16)]))
      refine OwnR.of (fun _ hr => XS.iload X23.here hx rfl (hb hby at_174) rfl hr) ?_
      show OwnR _ _ _ _ _ _ _ (T23.setTop (mkF m 176 #[.val (.int p1), .val (.int p2), .val (.int p3), .val (.int p4), .val (.int p5), .val (.int va), .val (.int vb), .val (.int vc), .val (.int (2 : Int32)), .val (.int (1 : Int32)), .val (.ref b16), .unset, .unset, .unset, .unset] [(.int (1 : Int32)), (.ref b16)]))
      obtain ⟨cq24, kq24, q24a, q24b, q24c⟩ := isOf hZ rfl P23_1
      obtain ⟨_, _, ⟨T24, L24, kc24, ns24⟩, -, X24, ⟨Lc24, hQ24, l24, y24, z24⟩, st24⟩ := X23.virtualBack hx (y := (⟨"com/example/ramification/ramification/model/StrahlerOrders", "getBifurcationRatio", "(I)D"⟩ : MethodName)) (z := (⟨"com/example/ramification/ramification/model/StrahlerOrders", "getBifurcationRatio", "(I)D"⟩ : MethodName)) hown (mvT hZ (hw _ (List.mem_of_getElem? (i := 37) rfl))) (mvT hZ (hw _ (List.mem_of_getElem? (i := 38) rfl))) (notFace_of_selects (args := #[]) (mvT hZ (hw _ (List.mem_of_getElem? (i := 40) rfl)))) (mvT hZ (hw _ (List.mem_of_getElem? (i := 40) rfl))) (mvT hZ (hw _ (List.mem_of_getElem? (i := 39) rfl))) (by decide) (backOf (W := 0) (rm4_2_1 l Z a0 hw [] b16 bI_23 k17 va vb (T23.heap) n0 (Nat.le_trans Z0 K23.1) P23_1 P23_2 P23_3 hvb1) hZ (hw _ (List.mem_of_getElem? (i := 41) rfl)) (hw _ (List.mem_of_getElem? (i := 7) rfl)) (by decide) (by decide)) q24a q24c (g := (mkF m 176 #[.val (.int p1), .val (.int p2), .val (.int p3), .val (.int p4), .val (.int p5), .val (.int va), .val (.int vb), .val (.int vc), .val (.int (2 : Int32)), .val (.int (1 : Int32)), .val (.ref b16), .unset, .unset, .unset, .unset] [(.int (1 : Int32)), (.ref b16)])) rfl (by rw [hml]; rfl) (Steps.refl _) (argsL := [(.int (1 : Int32))]) (rest := []) (lenOf pd__I_D rfl) rfl (by show 2 * 0 + _ ≤ _; exact Nat.le_of_eq rfl) (hb hby at_176) (fun _ _ => ⟨rfl, rfl, (by decide : 5 + 0 ≤ _), (by decide : 11 + 0 ≤ _)⟩)
      dsimp only [Pt.U, Pt.locs, Pt.cells, Pt.slots] at X24 l24 y24 z24 st24 hQ24
      rw [l24, y24, z24] at X24
      obtain ⟨rfl, N24q, e24⟩ := hQ24
      have N24 := Fr.app N23 N24q
      refine OwnR.of (fun _ hr => st24.trans hr) ?_
      show OwnR _ _ _ _ _ _ _ (T24.setTop (mkF m 179 #[.val (.int p1), .val (.int p2), .val (.int p3), .val (.int p4), .val (.int p5), .val (.int va), .val (.int vb), .val (.int vc), .val (.int (2 : Int32)), .val (.int (1 : Int32)), .val (.ref b16), .unset, .unset, .unset, .unset] [(.double (FP.ddiv (FP.i2d va) (FP.i2d vb)))]))
      refine OwnR.of (fun _ hr => XS.dstore X24.here hx rfl (hb hby at_179) rfl (l' := #[.val (.int p1), .val (.int p2), .val (.int p3), .val (.int p4), .val (.int p5), .val (.int va), .val (.int vb), .val (.int vc), .val (.int (2 : Int32)), .val (.int (1 : Int32)), .val (.ref b16), .val (.double (FP.ddiv (FP.i2d va) (FP.i2d vb))), .second, .unset, .unset]) rfl hr) ?_
      show OwnR _ _ _ _ _ _ _ (T24.setTop (mkF m 181 #[.val (.int p1), .val (.int p2), .val (.int p3), .val (.int p4), .val (.int p5), .val (.int va), .val (.int vb), .val (.int vc), .val (.int (2 : Int32)), .val (.int (1 : Int32)), .val (.ref b16), .val (.double (FP.ddiv (FP.i2d va) (FP.i2d vb))), .second, .unset, .unset] []))
      refine OwnR.of (fun _ hr => XS.iload X24.here hx rfl (hb hby at_181) rfl hr) ?_
      show OwnR _ _ _ _ _ _ _ (T24.setTop (mkF m 183 #[.val (.int p1), .val (.int p2), .val (.int p3), .val (.int p4), .val (.int p5), .val (.int va), .val (.int vb), .val (.int vc), .val (.int (2 : Int32)), .val (.int (1 : Int32)), .val (.ref b16), .val (.double (FP.ddiv (FP.i2d va) (FP.i2d vb))), .second, .unset, .unset] [(.int (1 : Int32))]))
      refine OwnR.of (fun _ hr => XS.iload X24.here hx rfl (hb hby at_183) rfl hr) ?_
      show OwnR _ _ _ _ _ _ _ (T24.setTop (mkF m 185 #[.val (.int p1), .val (.int p2), .val (.int p3), .val (.int p4), .val (.int p5), .val (.int va), .val (.int vb), .val (.int vc), .val (.int (2 : Int32)), .val (.int (1 : Int32)), .val (.ref b16), .val (.double (FP.ddiv (FP.i2d va) (FP.i2d vb))), .second, .unset, .unset] [(.int (2 : Int32)), (.int (1 : Int32))]))
      refine OwnR.of (fun _ hr => XS.icmpYes X24.here hx rfl (pc0 := 185) (pc' := 202) rfl (hb hby at_185) rfl (feq (by decide : ¬ ((1 : Int32) = (2 : Int32)))).2 (by decide) (by decide) hr) ?_
      show OwnR _ _ _ _ _ _ _ (T24.setTop (mkF m 202 #[.val (.int p1), .val (.int p2), .val (.int p3), .val (.int p4), .val (.int p5), .val (.int va), .val (.int vb), .val (.int vc), .val (.int (2 : Int32)), .val (.int (1 : Int32)), .val (.ref b16), .val (.double (FP.ddiv (FP.i2d va) (FP.i2d vb))), .second, .unset, .unset] []))
      refine OwnR.of (fun _ hr => XS.iload X24.here hx rfl (hb hby at_202) rfl hr) ?_
      show OwnR _ _ _ _ _ _ _ (T24.setTop (mkF m 204 #[.val (.int p1), .val (.int p2), .val (.int p3), .val (.int p4), .val (.int p5), .val (.int va), .val (.int vb), .val (.int vc), .val (.int (2 : Int32)), .val (.int (1 : Int32)), .val (.ref b16), .val (.double (FP.ddiv (FP.i2d va) (FP.i2d vb))), .second, .unset, .unset] [(.int (1 : Int32))]))
      refine OwnR.of (fun _ hr => XS.iconst X24.here hx rfl (hb hby at_204) hr) ?_
      show OwnR _ _ _ _ _ _ _ (T24.setTop (mkF m 205 #[.val (.int p1), .val (.int p2), .val (.int p3), .val (.int p4), .val (.int p5), .val (.int va), .val (.int vb), .val (.int vc), .val (.int (2 : Int32)), .val (.int (1 : Int32)), .val (.ref b16), .val (.double (FP.ddiv (FP.i2d va) (FP.i2d vb))), .second, .unset, .unset] [(.int (1 : Int32)), (.int (1 : Int32))]))
      refine OwnR.of (fun _ hr => XS.icmpNo X24.here hx rfl (hb hby at_205) rfl (teq (by decide : (1 : Int32) = (1 : Int32))).2 hr) ?_
      show OwnR _ _ _ _ _ _ _ (T24.setTop (mkF m 208 #[.val (.int p1), .val (.int p2), .val (.int p3), .val (.int p4), .val (.int p5), .val (.int va), .val (.int vb), .val (.int vc), .val (.int (2 : Int32)), .val (.int (1 : Int32)), .val (.ref b16), .val (.double (FP.ddiv (FP.i2d va) (FP.i2d vb))), .second, .unset, .unset] []))
      refine OwnR.of (fun _ hr => XS.iload X24.here hx rfl (hb hby at_208) rfl hr) ?_
      show OwnR _ _ _ _ _ _ _ (T24.setTop (mkF m 210 #[.val (.int p1), .val (.int p2), .val (.int p3), .val (.int p4), .val (.int p5), .val (.int va), .val (.int vb), .val (.int vc), .val (.int (2 : Int32)), .val (.int (1 : Int32)), .val (.ref b16), .val (.double (FP.ddiv (FP.i2d va) (FP.i2d vb))), .second, .unset, .unset] [(.int va)]))
      refine OwnR.of (fun _ hr => XS.i2dS X24.here hx rfl (hb hby at_210) rfl rfl hr) ?_
      show OwnR _ _ _ _ _ _ _ (T24.setTop (mkF m 211 #[.val (.int p1), .val (.int p2), .val (.int p3), .val (.int p4), .val (.int p5), .val (.int va), .val (.int vb), .val (.int vc), .val (.int (2 : Int32)), .val (.int (1 : Int32)), .val (.ref b16), .val (.double (FP.ddiv (FP.i2d va) (FP.i2d vb))), .second, .unset, .unset] [(.double (FP.i2d va))]))
      refine OwnR.of (fun _ hr => XS.iload X24.here hx rfl (hb hby at_211) rfl hr) ?_
      show OwnR _ _ _ _ _ _ _ (T24.setTop (mkF m 213 #[.val (.int p1), .val (.int p2), .val (.int p3), .val (.int p4), .val (.int p5), .val (.int va), .val (.int vb), .val (.int vc), .val (.int (2 : Int32)), .val (.int (1 : Int32)), .val (.ref b16), .val (.double (FP.ddiv (FP.i2d va) (FP.i2d vb))), .second, .unset, .unset] [(.int vb), (.double (FP.i2d va))]))
      refine OwnR.of (fun _ hr => XS.i2dS X24.here hx rfl (hb hby at_213) rfl rfl hr) ?_
      show OwnR _ _ _ _ _ _ _ (T24.setTop (mkF m 214 #[.val (.int p1), .val (.int p2), .val (.int p3), .val (.int p4), .val (.int p5), .val (.int va), .val (.int vb), .val (.int vc), .val (.int (2 : Int32)), .val (.int (1 : Int32)), .val (.ref b16), .val (.double (FP.ddiv (FP.i2d va) (FP.i2d vb))), .second, .unset, .unset] [(.double (FP.i2d vb)), (.double (FP.i2d va))]))
      refine OwnR.of (fun _ hr => XS.ddivS X24.here hx rfl (hb hby at_214) rfl (own_nn va hvb1) rfl hr) ?_
      show OwnR _ _ _ _ _ _ _ (T24.setTop (mkF m 215 #[.val (.int p1), .val (.int p2), .val (.int p3), .val (.int p4), .val (.int p5), .val (.int va), .val (.int vb), .val (.int vc), .val (.int (2 : Int32)), .val (.int (1 : Int32)), .val (.ref b16), .val (.double (FP.ddiv (FP.i2d va) (FP.i2d vb))), .second, .unset, .unset] [(.double (FP.ddiv (FP.i2d va) (FP.i2d vb)))]))
      refine OwnR.of (fun _ hr => XS.dstore X24.here hx rfl (hb hby at_215) rfl (l' := #[.val (.int p1), .val (.int p2), .val (.int p3), .val (.int p4), .val (.int p5), .val (.int va), .val (.int vb), .val (.int vc), .val (.int (2 : Int32)), .val (.int (1 : Int32)), .val (.ref b16), .val (.double (FP.ddiv (FP.i2d va) (FP.i2d vb))), .second, .val (.double (FP.ddiv (FP.i2d va) (FP.i2d vb))), .second]) rfl hr) ?_
      show OwnR _ _ _ _ _ _ _ (T24.setTop (mkF m 217 #[.val (.int p1), .val (.int p2), .val (.int p3), .val (.int p4), .val (.int p5), .val (.int va), .val (.int vb), .val (.int vc), .val (.int (2 : Int32)), .val (.int (1 : Int32)), .val (.ref b16), .val (.double (FP.ddiv (FP.i2d va) (FP.i2d vb))), .second, .val (.double (FP.ddiv (FP.i2d va) (FP.i2d vb))), .second] []))
      refine OwnR.of (fun _ hr => XS.goto X24.here hx rfl (pc0 := 217) (pc' := 229) rfl (hb hby at_217) (by decide) (by decide) hr) ?_
      show OwnR _ _ _ _ _ _ _ (T24.setTop (mkF m 229 #[.val (.int p1), .val (.int p2), .val (.int p3), .val (.int p4), .val (.int p5), .val (.int va), .val (.int vb), .val (.int vc), .val (.int (2 : Int32)), .val (.int (1 : Int32)), .val (.ref b16), .val (.double (FP.ddiv (FP.i2d va) (FP.i2d vb))), .second, .val (.double (FP.ddiv (FP.i2d va) (FP.i2d vb))), .second] []))
      refine OwnR.of (fun _ hr => XS.dload X24.here hx rfl (hb hby at_229) rfl hr) ?_
      show OwnR _ _ _ _ _ _ _ (T24.setTop (mkF m 231 #[.val (.int p1), .val (.int p2), .val (.int p3), .val (.int p4), .val (.int p5), .val (.int va), .val (.int vb), .val (.int vc), .val (.int (2 : Int32)), .val (.int (1 : Int32)), .val (.ref b16), .val (.double (FP.ddiv (FP.i2d va) (FP.i2d vb))), .second, .val (.double (FP.ddiv (FP.i2d va) (FP.i2d vb))), .second] [(.double (FP.ddiv (FP.i2d va) (FP.i2d vb)))]))
      refine OwnR.of (fun _ hr => XS.dload X24.here hx rfl (hb hby at_231) rfl hr) ?_
      show OwnR _ _ _ _ _ _ _ (T24.setTop (mkF m 233 #[.val (.int p1), .val (.int p2), .val (.int p3), .val (.int p4), .val (.int p5), .val (.int va), .val (.int vb), .val (.int vc), .val (.int (2 : Int32)), .val (.int (1 : Int32)), .val (.ref b16), .val (.double (FP.ddiv (FP.i2d va) (FP.i2d vb))), .second, .val (.double (FP.ddiv (FP.i2d va) (FP.i2d vb))), .second] [(.double (FP.ddiv (FP.i2d va) (FP.i2d vb))), (.double (FP.ddiv (FP.i2d va) (FP.i2d vb)))]))
      refine OwnR.of (fun _ hr => XS.dcmpS (v := (0 : Int32)) X24.here hx rfl (hb hby at_233) rfl (dcmpV_self (own_nn va hvb1) .l) hr) ?_
      show OwnR _ _ _ _ _ _ _ (T24.setTop (mkF m 234 #[.val (.int p1), .val (.int p2), .val (.int p3), .val (.int p4), .val (.int p5), .val (.int va), .val (.int vb), .val (.int vc), .val (.int (2 : Int32)), .val (.int (1 : Int32)), .val (.ref b16), .val (.double (FP.ddiv (FP.i2d va) (FP.i2d vb))), .second, .val (.double (FP.ddiv (FP.i2d va) (FP.i2d vb))), .second] [(.int (0 : Int32))]))
      refine OwnR.of (fun _ hr => XS.ifNo X24.here hx rfl (hb hby at_234) rfl ((if0 _ _).trans (teq (by decide : (0 : Int32) = (0 : Int32))).2) hr) ?_
      show OwnR _ _ _ _ _ _ _ (T24.setTop (mkF m 237 #[.val (.int p1), .val (.int p2), .val (.int p3), .val (.int p4), .val (.int p5), .val (.int va), .val (.int vb), .val (.int vc), .val (.int (2 : Int32)), .val (.int (1 : Int32)), .val (.ref b16), .val (.double (FP.ddiv (FP.i2d va) (FP.i2d vb))), .second, .val (.double (FP.ddiv (FP.i2d va) (FP.i2d vb))), .second] []))
      refine OwnR.of (fun _ hr => XS.iconst X24.here hx rfl (hb hby at_237) hr) ?_
      show OwnR _ _ _ _ _ _ _ (T24.setTop (mkF m 238 #[.val (.int p1), .val (.int p2), .val (.int p3), .val (.int p4), .val (.int p5), .val (.int va), .val (.int vb), .val (.int vc), .val (.int (2 : Int32)), .val (.int (1 : Int32)), .val (.ref b16), .val (.double (FP.ddiv (FP.i2d va) (FP.i2d vb))), .second, .val (.double (FP.ddiv (FP.i2d va) (FP.i2d vb))), .second] [(.int (1 : Int32))]))
      refine OwnR.of (fun _ hr => XS.goto X24.here hx rfl (pc0 := 238) (pc' := 242) rfl (hb hby at_238) (by decide) (by decide) hr) ?_
      show OwnR _ _ _ _ _ _ _ (T24.setTop (mkF m 242 #[.val (.int p1), .val (.int p2), .val (.int p3), .val (.int p4), .val (.int p5), .val (.int va), .val (.int vb), .val (.int vc), .val (.int (2 : Int32)), .val (.int (1 : Int32)), .val (.ref b16), .val (.double (FP.ddiv (FP.i2d va) (FP.i2d vb))), .second, .val (.double (FP.ddiv (FP.i2d va) (FP.i2d vb))), .second] [(.int (1 : Int32))]))
      refine own_leafN X24 hx hlk (t := .boolean) Bd.returns (by simp) (hb hby at_242) (z' := (1 : Int32)) rfl (by decide) (by decide) ?_
      show Q0 Z  h0 n0 _ T24.heap _
      rw [show T24.heap = T23.heap from e24]
      refine ⟨?_, N24⟩
      show (some (.int (1 : Int32)) : Option Value) = some (.int (1 : Int32))
      rfl
    · skip
      show OwnR _ _ _ _ _ _ _ (T8.setTop (mkF m 52 #[.val (.int p1), .val (.int p2), .val (.int p3), .val (.int p4), .val (.int p5), .val (.int va), .val (.int vb), .val (.int vc), .val (.int (2 : Int32)), .val (.int (2 : Int32)), .unset, .unset, .unset, .unset, .unset] []))
      refine OwnR.of (fun _ hr => XS.iload X8.here hx rfl (hb hby at_52) rfl hr) ?_
      show OwnR _ _ _ _ _ _ _ (T8.setTop (mkF m 54 #[.val (.int p1), .val (.int p2), .val (.int p3), .val (.int p4), .val (.int p5), .val (.int va), .val (.int vb), .val (.int vc), .val (.int (2 : Int32)), .val (.int (2 : Int32)), .unset, .unset, .unset, .unset, .unset] [(.int (2 : Int32))]))
      refine OwnR.of (fun _ hr => XS.iconst X8.here hx rfl (hb hby at_54) hr) ?_
      show OwnR _ _ _ _ _ _ _ (T8.setTop (mkF m 55 #[.val (.int p1), .val (.int p2), .val (.int p3), .val (.int p4), .val (.int p5), .val (.int va), .val (.int vb), .val (.int vc), .val (.int (2 : Int32)), .val (.int (2 : Int32)), .unset, .unset, .unset, .unset, .unset] [(.int (1 : Int32)), (.int (2 : Int32))]))
      refine OwnR.of (fun _ hr => XS.icmpYes X8.here hx rfl (pc0 := 55) (pc' := 86) rfl (hb hby at_55) rfl (feq (by decide : ¬ ((2 : Int32) = (1 : Int32)))).2 (by decide) (by decide) hr) ?_
      show OwnR _ _ _ _ _ _ _ (T8.setTop (mkF m 86 #[.val (.int p1), .val (.int p2), .val (.int p3), .val (.int p4), .val (.int p5), .val (.int va), .val (.int vb), .val (.int vc), .val (.int (2 : Int32)), .val (.int (2 : Int32)), .unset, .unset, .unset, .unset, .unset] []))
      refine OwnR.of (fun _ hr => XS.iload X8.here hx rfl (hb hby at_86) rfl hr) ?_
      show OwnR _ _ _ _ _ _ _ (T8.setTop (mkF m 88 #[.val (.int p1), .val (.int p2), .val (.int p3), .val (.int p4), .val (.int p5), .val (.int va), .val (.int vb), .val (.int vc), .val (.int (2 : Int32)), .val (.int (2 : Int32)), .unset, .unset, .unset, .unset, .unset] [(.int (2 : Int32))]))
      refine OwnR.of (fun _ hr => XS.iconst X8.here hx rfl (hb hby at_88) hr) ?_
      show OwnR _ _ _ _ _ _ _ (T8.setTop (mkF m 89 #[.val (.int p1), .val (.int p2), .val (.int p3), .val (.int p4), .val (.int p5), .val (.int va), .val (.int vb), .val (.int vc), .val (.int (2 : Int32)), .val (.int (2 : Int32)), .unset, .unset, .unset, .unset, .unset] [(.int (2 : Int32)), (.int (2 : Int32))]))
      refine OwnR.of (fun _ hr => XS.icmpNo X8.here hx rfl (hb hby at_89) rfl (teq (by decide : (2 : Int32) = (2 : Int32))).2 hr) ?_
      show OwnR _ _ _ _ _ _ _ (T8.setTop (mkF m 92 #[.val (.int p1), .val (.int p2), .val (.int p3), .val (.int p4), .val (.int p5), .val (.int va), .val (.int vb), .val (.int vc), .val (.int (2 : Int32)), .val (.int (2 : Int32)), .unset, .unset, .unset, .unset, .unset] []))
      obtain ⟨T25, h25, X25, e25, E25, A25, D25, -, st25⟩ := newO X8 hx hZ hown (hw _ (List.mem_of_getElem? (i := 5) rfl)) (hw _ (List.mem_of_getElem? (i := 6) rfl)) (hw _ (List.mem_of_getElem? (i := 7) rfl)) e8 (g := (mkF m 92 #[.val (.int p1), .val (.int p2), .val (.int p3), .val (.int p4), .val (.int p5), .val (.int va), .val (.int vb), .val (.int vc), .val (.int (2 : Int32)), .val (.int (2 : Int32)), .unset, .unset, .unset, .unset, .unset] [])) rfl (hb hby at_92) (by decide) (by decide)
      obtain ⟨b25, g25⟩ : ∃ z, z = h0.size := ⟨_, rfl⟩
      rw [← g25] at A25 D25 st25
      refine OwnR.of (st25) ?_
      have gn_b25 : n0 ≤ b25 := Nat.le_trans (Nat.le_trans Z0 (Keep.refl h0 []).1) (Nat.le_of_eq g25.symm)
      have sz_b25 : h0.size ≤ b25 := Nat.le_trans (Keep.refl h0 []).1 (Nat.le_of_eq g25.symm)
      have K25 : Keep h0 h25 [] := Keep.ext (Keep.refl h0 []) E25
      have F_branches_b25 : Fld Z h25 b25 "com/example/ramification/ramification/model/StrahlerOrders" "branches" "[I" .null := D25 (Or.inr (hw _ (List.mem_of_getElem? (i := 26) rfl))) (ty := (.array .int)) (by decide)
      have F_lengths_b25 : Fld Z h25 b25 "com/example/ramification/ramification/model/StrahlerOrders" "lengths" "[D" .null := D25 (Or.inr (hw _ (List.mem_of_getElem? (i := 34) rfl))) (ty := (.array .double)) (by decide)
      have F_unit_b25 : Fld Z h25 b25 "com/example/ramification/ramification/model/StrahlerOrders" "unit" "Ljava/util/Optional;" .null := D25 (Or.inr (hw _ (List.mem_of_getElem? (i := 36) rfl))) (ty := (.object "java/util/Optional")) (by decide)
      show OwnR _ _ _ _ _ _ _ (T25.setTop (mkF m 95 #[.val (.int p1), .val (.int p2), .val (.int p3), .val (.int p4), .val (.int p5), .val (.int va), .val (.int vb), .val (.int vc), .val (.int (2 : Int32)), .val (.int (2 : Int32)), .unset, .unset, .unset, .unset, .unset] [(.ref b25)]))
      refine OwnR.of (fun _ hr => XS.dup X25.here hx rfl (hb hby at_95) rfl rfl hr) ?_
      show OwnR _ _ _ _ _ _ _ (T25.setTop (mkF m 96 #[.val (.int p1), .val (.int p2), .val (.int p3), .val (.int p4), .val (.int p5), .val (.int va), .val (.int vb), .val (.int vc), .val (.int (2 : Int32)), .val (.int (2 : Int32)), .unset, .unset, .unset, .unset, .unset] [(.ref b25), (.ref b25)]))
      refine OwnR.of (fun _ hr => XS.iconst X25.here hx rfl (hb hby at_96) hr) ?_
      show OwnR _ _ _ _ _ _ _ (T25.setTop (mkF m 97 #[.val (.int p1), .val (.int p2), .val (.int p3), .val (.int p4), .val (.int p5), .val (.int va), .val (.int vb), .val (.int vc), .val (.int (2 : Int32)), .val (.int (2 : Int32)), .unset, .unset, .unset, .unset, .unset] [(.int (2 : Int32)), (.ref b25), (.ref b25)]))
      obtain ⟨T26, h26, k26, X26, e26, E26, A26, AE26, st26⟩ := newPE X25 hx hZ (hw _ (List.mem_of_getElem? (i := 8) rfl)) e25 (g := (mkF m 97 #[.val (.int p1), .val (.int p2), .val (.int p3), .val (.int p4), .val (.int p5), .val (.int va), .val (.int vb), .val (.int vc), .val (.int (2 : Int32)), .val (.int (2 : Int32)), .unset, .unset, .unset, .unset, .unset] [(.int (2 : Int32)), (.ref b25), (.ref b25)])) rfl (hb hby at_97) rfl (by decide) (cap := 2) (by decide) (by decide) (by decide) (by decide) (ad := "[I") rfl
      obtain ⟨b26, g26⟩ : ∃ z, z = h25.size := ⟨_, rfl⟩
      rw [← g26] at A26 AE26 st26
      refine OwnR.of (st26) ?_
      have gn_b26 : n0 ≤ b26 := Nat.le_trans (Nat.le_trans Z0 K25.1) (Nat.le_of_eq g26.symm)
      have sz_b26 : h0.size ≤ b26 := Nat.le_trans K25.1 (Nat.le_of_eq g26.symm)
      have K26 : Keep h0 h26 [] := Keep.ext K25 E26
      have V26 : Arv Z h26 b26 k26 .int (2 : Int32) [(.int (0 : Int32)), (.int (0 : Int32))] (.int (0 : Int32)) := (Arv.new A26 (by decide)).pad (pad_rep [] (.int (0 : Int32)) 2)
      show OwnR _ _ _ _ _ _ _ (T26.setTop (mkF m 99 #[.val (.int p1), .val (.int p2), .val (.int p3), .val (.int p4), .val (.int p5), .val (.int va), .val (.int vb), .val (.int vc), .val (.int (2 : Int32)), .val (.int (2 : Int32)), .unset, .unset, .unset, .unset, .unset] [(.ref b26), (.ref b25), (.ref b25)]))
      refine OwnR.of (fun _ hr => XS.dup X26.here hx rfl (hb hby at_99) rfl rfl hr) ?_
      show OwnR _ _ _ _ _ _ _ (T26.setTop (mkF m 100 #[.val (.int p1), .val (.int p2), .val (.int p3), .val (.int p4), .val (.int p5), .val (.int va), .val (.int vb), .val (.int vc), .val (.int (2 : Int32)), .val (.int (2 : Int32)), .unset, .unset, .unset, .unset, .unset] [(.ref b26), (.ref b26), (.ref b25), (.ref b25)]))
      refine OwnR.of (fun _ hr => XS.iconst X26.here hx rfl (hb hby at_100) hr) ?_
      show OwnR _ _ _ _ _ _ _ (T26.setTop (mkF m 101 #[.val (.int p1), .val (.int p2), .val (.int p3), .val (.int p4), .val (.int p5), .val (.int va), .val (.int vb), .val (.int vc), .val (.int (2 : Int32)), .val (.int (2 : Int32)), .unset, .unset, .unset, .unset, .unset] [(.int (0 : Int32)), (.ref b26), (.ref b26), (.ref b25), (.ref b25)]))
      refine OwnR.of (fun _ hr => XS.iload X26.here hx rfl (hb hby at_101) rfl hr) ?_
      show OwnR _ _ _ _ _ _ _ (T26.setTop (mkF m 103 #[.val (.int p1), .val (.int p2), .val (.int p3), .val (.int p4), .val (.int p5), .val (.int va), .val (.int vb), .val (.int vc), .val (.int (2 : Int32)), .val (.int (2 : Int32)), .unset, .unset, .unset, .unset, .unset] [(.int va), (.int (0 : Int32)), (.ref b26), (.ref b26), (.ref b25), (.ref b25)]))
      obtain ⟨cl27, Ar27, q27, S27, N27q, H27, G27⟩ := id V26
      have hin27 : ¬ ((0 : Int32) < 0 ∨ cl27.slots.size ≤ ((0 : Int32)).toNatClampNeg) := (inb_of S27 ⟨by decide, by decide⟩)
      obtain ⟨T27, h27, X27, e27, W27, st27⟩ := stI X26 hx hZ e26 Ar27 (j := (0 : Int32)) hin27 (g := (mkF m 103 #[.val (.int p1), .val (.int p2), .val (.int p3), .val (.int p4), .val (.int p5), .val (.int va), .val (.int vb), .val (.int vc), .val (.int (2 : Int32)), .val (.int (2 : Int32)), .unset, .unset, .unset, .unset, .unset] [(.int va), (.int (0 : Int32)), (.ref b26), (.ref b26), (.ref b25), (.ref b25)])) rfl rfl (hb hby at_103)
      refine OwnR.of (st27) ?_
      have V27 := Arv.set Ar27 q27 S27 N27q H27 G27 rfl W27 0 rfl (Nat.le_of_ble_eq_true rfl)
      have V27 : Arv Z h27 b26 k26 .int (2 : Int32) [(.int va), (.int (0 : Int32))] (.int (0 : Int32)) := V27
      have K27 : Keep h0 h27 [] := Keep.wr K26 W27 (Or.inr sz_b26)
      have N27 := Fr.snoc X27 N8 gn_b26
      show OwnR _ _ _ _ _ _ _ (T27.setTop (mkF m 104 #[.val (.int p1), .val (.int p2), .val (.int p3), .val (.int p4), .val (.int p5), .val (.int va), .val (.int vb), .val (.int vc), .val (.int (2 : Int32)), .val (.int (2 : Int32)), .unset, .unset, .unset, .unset, .unset] [(.ref b26), (.ref b25), (.ref b25)]))
      refine OwnR.of (fun _ hr => XS.dup X27.here hx rfl (hb hby at_104) rfl rfl hr) ?_
      show OwnR _ _ _ _ _ _ _ (T27.setTop (mkF m 105 #[.val (.int p1), .val (.int p2), .val (.int p3), .val (.int p4), .val (.int p5), .val (.int va), .val (.int vb), .val (.int vc), .val (.int (2 : Int32)), .val (.int (2 : Int32)), .unset, .unset, .unset, .unset, .unset] [(.ref b26), (.ref b26), (.ref b25), (.ref b25)]))
      refine OwnR.of (fun _ hr => XS.iconst X27.here hx rfl (hb hby at_105) hr) ?_
      show OwnR _ _ _ _ _ _ _ (T27.setTop (mkF m 106 #[.val (.int p1), .val (.int p2), .val (.int p3), .val (.int p4), .val (.int p5), .val (.int va), .val (.int vb), .val (.int vc), .val (.int (2 : Int32)), .val (.int (2 : Int32)), .unset, .unset, .unset, .unset, .unset] [(.int (1 : Int32)), (.ref b26), (.ref b26), (.ref b25), (.ref b25)]))
      refine OwnR.of (fun _ hr => XS.iload X27.here hx rfl (hb hby at_106) rfl hr) ?_
      show OwnR _ _ _ _ _ _ _ (T27.setTop (mkF m 108 #[.val (.int p1), .val (.int p2), .val (.int p3), .val (.int p4), .val (.int p5), .val (.int va), .val (.int vb), .val (.int vc), .val (.int (2 : Int32)), .val (.int (2 : Int32)), .unset, .unset, .unset, .unset, .unset] [(.int vb), (.int (1 : Int32)), (.ref b26), (.ref b26), (.ref b25), (.ref b25)]))
      obtain ⟨cl28, Ar28, q28, S28, N28q, H28, G28⟩ := id V27
      have hin28 : ¬ ((1 : Int32) < 0 ∨ cl28.slots.size ≤ ((1 : Int32)).toNatClampNeg) := (inb_of S28 ⟨by decide, by decide⟩)
      obtain ⟨T28, h28, X28, e28, W28, st28⟩ := stI X27 hx hZ e27 Ar28 (j := (1 : Int32)) hin28 (g := (mkF m 108 #[.val (.int p1), .val (.int p2), .val (.int p3), .val (.int p4), .val (.int p5), .val (.int va), .val (.int vb), .val (.int vc), .val (.int (2 : Int32)), .val (.int (2 : Int32)), .unset, .unset, .unset, .unset, .unset] [(.int vb), (.int (1 : Int32)), (.ref b26), (.ref b26), (.ref b25), (.ref b25)])) rfl rfl (hb hby at_108)
      refine OwnR.of (st28) ?_
      have V28 := Arv.set Ar28 q28 S28 N28q H28 G28 rfl W28 1 rfl (Nat.le_of_ble_eq_true rfl)
      have V28 : Arv Z h28 b26 k26 .int (2 : Int32) [(.int va), (.int vb)] (.int (0 : Int32)) := V28
      have K28 : Keep h0 h28 [] := Keep.wr K27 W28 (Or.inr sz_b26)
      have N28 := Fr.snoc X28 N27 gn_b26
      show OwnR _ _ _ _ _ _ _ (T28.setTop (mkF m 109 #[.val (.int p1), .val (.int p2), .val (.int p3), .val (.int p4), .val (.int p5), .val (.int va), .val (.int vb), .val (.int vc), .val (.int (2 : Int32)), .val (.int (2 : Int32)), .unset, .unset, .unset, .unset, .unset] [(.ref b26), (.ref b25), (.ref b25)]))
      refine OwnR.of (fun _ hr => XS.iconst X28.here hx rfl (hb hby at_109) hr) ?_
      show OwnR _ _ _ _ _ _ _ (T28.setTop (mkF m 110 #[.val (.int p1), .val (.int p2), .val (.int p3), .val (.int p4), .val (.int p5), .val (.int va), .val (.int vb), .val (.int vc), .val (.int (2 : Int32)), .val (.int (2 : Int32)), .unset, .unset, .unset, .unset, .unset] [(.int (2 : Int32)), (.ref b26), (.ref b25), (.ref b25)]))
      obtain ⟨T29, h29, k29, X29, e29, E29, A29, AE29, st29⟩ := newPE X28 hx hZ (hw _ (List.mem_of_getElem? (i := 9) rfl)) e28 (g := (mkF m 110 #[.val (.int p1), .val (.int p2), .val (.int p3), .val (.int p4), .val (.int p5), .val (.int va), .val (.int vb), .val (.int vc), .val (.int (2 : Int32)), .val (.int (2 : Int32)), .unset, .unset, .unset, .unset, .unset] [(.int (2 : Int32)), (.ref b26), (.ref b25), (.ref b25)])) rfl (hb hby at_110) rfl (by decide) (cap := 2) (by decide) (by decide) (by decide) (by decide) (ad := "[D") rfl
      obtain ⟨b29, g29⟩ : ∃ z, z = h28.size := ⟨_, rfl⟩
      rw [← g29] at A29 AE29 st29
      refine OwnR.of (st29) ?_
      have gn_b29 : n0 ≤ b29 := Nat.le_trans (Nat.le_trans Z0 K28.1) (Nat.le_of_eq g29.symm)
      have sz_b29 : h0.size ≤ b29 := Nat.le_trans K28.1 (Nat.le_of_eq g29.symm)
      have K29 : Keep h0 h29 [] := Keep.ext K28 E29
      have V29 : Arv Z h29 b29 k29 .double (2 : Int32) [(.double (0 : UInt64)), (.double (0 : UInt64))] (.double (0 : UInt64)) := (Arv.new A29 (by decide)).pad (pad_rep [] (.double (0 : UInt64)) 2)
      show OwnR _ _ _ _ _ _ _ (T29.setTop (mkF m 112 #[.val (.int p1), .val (.int p2), .val (.int p3), .val (.int p4), .val (.int p5), .val (.int va), .val (.int vb), .val (.int vc), .val (.int (2 : Int32)), .val (.int (2 : Int32)), .unset, .unset, .unset, .unset, .unset] [(.ref b29), (.ref b26), (.ref b25), (.ref b25)]))
      refine OwnR.of (fun _ hr => XS.dup X29.here hx rfl (hb hby at_112) rfl rfl hr) ?_
      show OwnR _ _ _ _ _ _ _ (T29.setTop (mkF m 113 #[.val (.int p1), .val (.int p2), .val (.int p3), .val (.int p4), .val (.int p5), .val (.int va), .val (.int vb), .val (.int vc), .val (.int (2 : Int32)), .val (.int (2 : Int32)), .unset, .unset, .unset, .unset, .unset] [(.ref b29), (.ref b29), (.ref b26), (.ref b25), (.ref b25)]))
      refine OwnR.of (fun _ hr => XS.iconst X29.here hx rfl (hb hby at_113) hr) ?_
      show OwnR _ _ _ _ _ _ _ (T29.setTop (mkF m 114 #[.val (.int p1), .val (.int p2), .val (.int p3), .val (.int p4), .val (.int p5), .val (.int va), .val (.int vb), .val (.int vc), .val (.int (2 : Int32)), .val (.int (2 : Int32)), .unset, .unset, .unset, .unset, .unset] [(.int (0 : Int32)), (.ref b29), (.ref b29), (.ref b26), (.ref b25), (.ref b25)]))
      refine OwnR.of (fun _ hr => XS.dconst0 X29.here hx rfl (hb hby at_114) (v := (0 : UInt64)) (by decide +kernel) hr) ?_
      show OwnR _ _ _ _ _ _ _ (T29.setTop (mkF m 115 #[.val (.int p1), .val (.int p2), .val (.int p3), .val (.int p4), .val (.int p5), .val (.int va), .val (.int vb), .val (.int vc), .val (.int (2 : Int32)), .val (.int (2 : Int32)), .unset, .unset, .unset, .unset, .unset] [(.double (0 : UInt64)), (.int (0 : Int32)), (.ref b29), (.ref b29), (.ref b26), (.ref b25), (.ref b25)]))
      obtain ⟨cl30, Ar30, q30, S30, N30q, H30, G30⟩ := id V29
      have hin30 : ¬ ((0 : Int32) < 0 ∨ cl30.slots.size ≤ ((0 : Int32)).toNatClampNeg) := (inb_of S30 ⟨by decide, by decide⟩)
      obtain ⟨T30, h30, X30, e30, W30, st30⟩ := stD X29 hx hZ e29 Ar30 (j := (0 : Int32)) hin30 (g := (mkF m 115 #[.val (.int p1), .val (.int p2), .val (.int p3), .val (.int p4), .val (.int p5), .val (.int va), .val (.int vb), .val (.int vc), .val (.int (2 : Int32)), .val (.int (2 : Int32)), .unset, .unset, .unset, .unset, .unset] [(.double (0 : UInt64)), (.int (0 : Int32)), (.ref b29), (.ref b29), (.ref b26), (.ref b25), (.ref b25)])) rfl rfl (hb hby at_115)
      refine OwnR.of (st30) ?_
      have V30 := Arv.set Ar30 q30 S30 N30q H30 G30 rfl W30 0 rfl (Nat.le_of_ble_eq_true rfl)
      have V30 : Arv Z h30 b29 k29 .double (2 : Int32) [(.double (0 : UInt64)), (.double (0 : UInt64))] (.double (0 : UInt64)) := V30
      have K30 : Keep h0 h30 [] := Keep.wr K29 W30 (Or.inr sz_b29)
      have N30 := Fr.snoc X30 N28 gn_b29
      show OwnR _ _ _ _ _ _ _ (T30.setTop (mkF m 116 #[.val (.int p1), .val (.int p2), .val (.int p3), .val (.int p4), .val (.int p5), .val (.int va), .val (.int vb), .val (.int vc), .val (.int (2 : Int32)), .val (.int (2 : Int32)), .unset, .unset, .unset, .unset, .unset] [(.ref b29), (.ref b26), (.ref b25), (.ref b25)]))
      refine OwnR.of (fun _ hr => XS.dup X30.here hx rfl (hb hby at_116) rfl rfl hr) ?_
      show OwnR _ _ _ _ _ _ _ (T30.setTop (mkF m 117 #[.val (.int p1), .val (.int p2), .val (.int p3), .val (.int p4), .val (.int p5), .val (.int va), .val (.int vb), .val (.int vc), .val (.int (2 : Int32)), .val (.int (2 : Int32)), .unset, .unset, .unset, .unset, .unset] [(.ref b29), (.ref b29), (.ref b26), (.ref b25), (.ref b25)]))
      refine OwnR.of (fun _ hr => XS.iconst X30.here hx rfl (hb hby at_117) hr) ?_
      show OwnR _ _ _ _ _ _ _ (T30.setTop (mkF m 118 #[.val (.int p1), .val (.int p2), .val (.int p3), .val (.int p4), .val (.int p5), .val (.int va), .val (.int vb), .val (.int vc), .val (.int (2 : Int32)), .val (.int (2 : Int32)), .unset, .unset, .unset, .unset, .unset] [(.int (1 : Int32)), (.ref b29), (.ref b29), (.ref b26), (.ref b25), (.ref b25)]))
      refine OwnR.of (fun _ hr => XS.dconst0 X30.here hx rfl (hb hby at_118) (v := (0 : UInt64)) (by decide +kernel) hr) ?_
      show OwnR _ _ _ _ _ _ _ (T30.setTop (mkF m 119 #[.val (.int p1), .val (.int p2), .val (.int p3), .val (.int p4), .val (.int p5), .val (.int va), .val (.int vb), .val (.int vc), .val (.int (2 : Int32)), .val (.int (2 : Int32)), .unset, .unset, .unset, .unset, .unset] [(.double (0 : UInt64)), (.int (1 : Int32)), (.ref b29), (.ref b29), (.ref b26), (.ref b25), (.ref b25)]))
      obtain ⟨cl31, Ar31, q31, S31, N31q, H31, G31⟩ := id V30
      have hin31 : ¬ ((1 : Int32) < 0 ∨ cl31.slots.size ≤ ((1 : Int32)).toNatClampNeg) := (inb_of S31 ⟨by decide, by decide⟩)
      obtain ⟨T31, h31, X31, e31, W31, st31⟩ := stD X30 hx hZ e30 Ar31 (j := (1 : Int32)) hin31 (g := (mkF m 119 #[.val (.int p1), .val (.int p2), .val (.int p3), .val (.int p4), .val (.int p5), .val (.int va), .val (.int vb), .val (.int vc), .val (.int (2 : Int32)), .val (.int (2 : Int32)), .unset, .unset, .unset, .unset, .unset] [(.double (0 : UInt64)), (.int (1 : Int32)), (.ref b29), (.ref b29), (.ref b26), (.ref b25), (.ref b25)])) rfl rfl (hb hby at_119)
      refine OwnR.of (st31) ?_
      have V31 := Arv.set Ar31 q31 S31 N31q H31 G31 rfl W31 1 rfl (Nat.le_of_ble_eq_true rfl)
      have V31 : Arv Z h31 b29 k29 .double (2 : Int32) [(.double (0 : UInt64)), (.double (0 : UInt64))] (.double (0 : UInt64)) := V31
      have K31 : Keep h0 h31 [] := Keep.wr K30 W31 (Or.inr sz_b29)
      have N31 := Fr.snoc X31 N30 gn_b29
      show OwnR _ _ _ _ _ _ _ (T31.setTop (mkF m 120 #[.val (.int p1), .val (.int p2), .val (.int p3), .val (.int p4), .val (.int p5), .val (.int va), .val (.int vb), .val (.int vc), .val (.int (2 : Int32)), .val (.int (2 : Int32)), .unset, .unset, .unset, .unset, .unset] [(.ref b29), (.ref b26), (.ref b25), (.ref b25)]))
      refine OwnR.of (fun _ hr => XS.aconstNull X31.here hx rfl (hb hby at_120) hr) ?_
      show OwnR _ _ _ _ _ _ _ (T31.setTop (mkF m 121 #[.val (.int p1), .val (.int p2), .val (.int p3), .val (.int p4), .val (.int p5), .val (.int va), .val (.int vb), .val (.int vc), .val (.int (2 : Int32)), .val (.int (2 : Int32)), .unset, .unset, .unset, .unset, .unset] [.null, (.ref b29), (.ref b26), (.ref b25), (.ref b25)]))
      obtain ⟨_, _, ⟨T32, L32, kc32, ns32⟩, -, X32, ⟨Lc32, hQ32, l32, y32, z32⟩, st32⟩ := X31.specialBack hx (y := (⟨"com/example/ramification/ramification/model/StrahlerOrders", "<init>", "([I[DLjava/util/Optional;)V"⟩ : MethodName)) rfl hown (mvT hZ (hw _ (List.mem_of_getElem? (i := 10) rfl))) (mvT hZ (hw _ (List.mem_of_getElem? (i := 11) rfl))) (mvT hZ (hw _ (List.mem_of_getElem? (i := 12) rfl))) (by decide) (backOf (W := 1) (rm2_2 l Z a0 hw [] b25 b26 b29 k26 k29 va vb h31 n0 (Nat.le_trans Z0 K31.1) (Exa.wr W31 (Exa.wr W30 (Exa.ext E29 (Exa.wr W28 (Exa.wr W27 (Exa.ext E26 A25)))))) (Fld.other W31 (Fld.other W30 (Fld.ext E29 (Fld.other W28 (Fld.other W27 (Fld.ext E26 F_branches_b25) (Or.inl (Nat.ne_of_lt (Nat.lt_of_lt_of_le A25.lt (Nat.le_of_eq g26.symm))))) (Or.inl (Nat.ne_of_lt (Nat.lt_of_lt_of_le A25.lt (Nat.le_of_eq g26.symm)))))) (Or.inl (Nat.ne_of_lt (Nat.lt_of_lt_of_le (Exa.wr W28 (Exa.wr W27 (Exa.ext E26 A25))).lt (Nat.le_of_eq g29.symm))))) (Or.inl (Nat.ne_of_lt (Nat.lt_of_lt_of_le (Exa.wr W28 (Exa.wr W27 (Exa.ext E26 A25))).lt (Nat.le_of_eq g29.symm))))) (Fld.other W31 (Fld.other W30 (Fld.ext E29 (Fld.other W28 (Fld.other W27 (Fld.ext E26 F_lengths_b25) (Or.inl (Nat.ne_of_lt (Nat.lt_of_lt_of_le A25.lt (Nat.le_of_eq g26.symm))))) (Or.inl (Nat.ne_of_lt (Nat.lt_of_lt_of_le A25.lt (Nat.le_of_eq g26.symm)))))) (Or.inl (Nat.ne_of_lt (Nat.lt_of_lt_of_le (Exa.wr W28 (Exa.wr W27 (Exa.ext E26 A25))).lt (Nat.le_of_eq g29.symm))))) (Or.inl (Nat.ne_of_lt (Nat.lt_of_lt_of_le (Exa.wr W28 (Exa.wr W27 (Exa.ext E26 A25))).lt (Nat.le_of_eq g29.symm))))) (Fld.other W31 (Fld.other W30 (Fld.ext E29 (Fld.other W28 (Fld.other W27 (Fld.ext E26 F_unit_b25) (Or.inl (Nat.ne_of_lt (Nat.lt_of_lt_of_le A25.lt (Nat.le_of_eq g26.symm))))) (Or.inl (Nat.ne_of_lt (Nat.lt_of_lt_of_le A25.lt (Nat.le_of_eq g26.symm)))))) (Or.inl (Nat.ne_of_lt (Nat.lt_of_lt_of_le (Exa.wr W28 (Exa.wr W27 (Exa.ext E26 A25))).lt (Nat.le_of_eq g29.symm))))) (Or.inl (Nat.ne_of_lt (Nat.lt_of_lt_of_le (Exa.wr W28 (Exa.wr W27 (Exa.ext E26 A25))).lt (Nat.le_of_eq g29.symm))))) (Arv.other (Arv.other (Arv.ext V28 E29) W30 (Nat.ne_of_lt (Nat.lt_of_lt_of_le (Exa.wr W28 (Exa.wr W27 AE26)).lt (Nat.le_of_eq g29.symm)))) W31 (Nat.ne_of_lt (Nat.lt_of_lt_of_le (Exa.wr W28 (Exa.wr W27 AE26)).lt (Nat.le_of_eq g29.symm)))) V31 (Exa.wr W31 (Exa.wr W30 (Exa.ext E29 (Exa.wr W28 (Exa.wr W27 AE26))))) (Exa.wr W31 (Exa.wr W30 AE29)) gn_b25 (Nat.ne_of_lt (Nat.lt_of_lt_of_le A25.lt (Nat.le_of_eq g26.symm))) (Nat.ne_of_lt (Nat.lt_of_lt_of_le (Exa.wr W28 (Exa.wr W27 (Exa.ext E26 A25))).lt (Nat.le_of_eq g29.symm))) hva1 hvb1) hZ (hw _ (List.mem_of_getElem? (i := 12) rfl)) (hw _ (List.mem_of_getElem? (i := 7) rfl)) (by decide) (by decide)) (g := (mkF m 121 #[.val (.int p1), .val (.int p2), .val (.int p3), .val (.int p4), .val (.int p5), .val (.int va), .val (.int vb), .val (.int vc), .val (.int (2 : Int32)), .val (.int (2 : Int32)), .unset, .unset, .unset, .unset, .unset] [.null, (.ref b29), (.ref b26), (.ref b25), (.ref b25)])) rfl (by rw [hml]; rfl) (Steps.refl _) (a := b25) (argsL := [(.ref b26), (.ref b29), .null]) (rest := [(.ref b25)]) (lenOf pd___I_DLjava_util_Optional__V rfl) rfl (by show 2 * 0 + _ ≤ _; exact Nat.le_of_eq rfl) (hb hby at_121) (fun _ _ => ⟨rfl, e31, (by decide : 3 + 2 ≤ _), (by decide : 7 + 4 ≤ _)⟩)
      dsimp only [Pt.U, Pt.locs, Pt.cells, Pt.slots] at X32 l32 y32 z32 st32 hQ32
      rw [l32, y32, z32] at X32
      obtain ⟨bI_32, rfl, N32q, P32_0, P32_1, P32_2, P32_3⟩ := hQ32
      have K32 : Keep h0 T32.heap [] := Keep.trans K31 P32_0 (allS (Or.inr sz_b25) all0)
      have N32 := Fr.app N31 N32q
      refine OwnR.of (fun _ hr => st32.trans hr) ?_
      show OwnR _ _ _ _ _ _ _ (T32.setTop (mkF m 124 #[.val (.int p1), .val (.int p2), .val (.int p3), .val (.int p4), .val (.int p5), .val (.int va), .val (.int vb), .val (.int vc), .val (.int (2 : Int32)), .val (.int (2 : Int32)), .unset, .unset, .unset, .unset, .unset] [(.ref b25)]))
      refine OwnR.of (fun _ hr => XS.astore X32.here hx rfl (hb hby at_124) rfl rfl (l' := #[.val (.int p1), .val (.int p2), .val (.int p3), .val (.int p4), .val (.int p5), .val (.int va), .val (.int vb), .val (.int vc), .val (.int (2 : Int32)), .val (.int (2 : Int32)), .val (.ref b25), .unset, .unset, .unset, .unset]) rfl hr) ?_
      show OwnR _ _ _ _ _ _ _ (T32.setTop (mkF m 126 #[.val (.int p1), .val (.int p2), .val (.int p3), .val (.int p4), .val (.int p5), .val (.int va), .val (.int vb), .val (.int vc), .val (.int (2 : Int32)), .val (.int (2 : Int32)), .val (.ref b25), .unset, .unset, .unset, .unset] []))
      refine OwnR.of (fun _ hr => XS.goto X32.here hx rfl (pc0 := 126) (pc' := 172) rfl (hb hby at_126) (by decide) (by decide) hr) ?_
      show OwnR _ _ _ _ _ _ _ (T32.setTop (mkF m 172 #[.val (.int p1), .val (.int p2), .val (.int p3), .val (.int p4), .val (.int p5), .val (.int va), .val (.int vb), .val (.int vc), .val (.int (2 : Int32)), .val (.int (2 : Int32)), .val (.ref b25), .unset, .unset, .unset, .unset] []))
      refine OwnR.of (fun _ hr => XS.aload X32.here hx rfl (hb hby at_172) rfl rfl hr) ?_
      show OwnR _ _ _ _ _ _ _ (T32.setTop (mkF m 174 #[.val (.int p1), .val (.int p2), .val (.int p3), .val (.int p4), .val (.int p5), .val (.int va), .val (.int vb), .val (.int vc), .val (.int (2 : Int32)), .val (.int (2 : Int32)), .val (.ref b25), .unset, .unset, .unset, .unset] [(.ref b25)]))
      refine OwnR.of (fun _ hr => XS.iload X32.here hx rfl (hb hby at_174) rfl hr) ?_
      show OwnR _ _ _ _ _ _ _ (T32.setTop (mkF m 176 #[.val (.int p1), .val (.int p2), .val (.int p3), .val (.int p4), .val (.int p5), .val (.int va), .val (.int vb), .val (.int vc), .val (.int (2 : Int32)), .val (.int (2 : Int32)), .val (.ref b25), .unset, .unset, .unset, .unset] [(.int (2 : Int32)), (.ref b25)]))
      obtain ⟨cq33, kq33, q33a, q33b, q33c⟩ := isOf hZ rfl P32_1
      obtain ⟨_, _, ⟨T33, L33, kc33, ns33⟩, -, X33, ⟨Lc33, hQ33, l33, y33, z33⟩, st33⟩ := X32.virtualBack hx (y := (⟨"com/example/ramification/ramification/model/StrahlerOrders", "getBifurcationRatio", "(I)D"⟩ : MethodName)) (z := (⟨"com/example/ramification/ramification/model/StrahlerOrders", "getBifurcationRatio", "(I)D"⟩ : MethodName)) hown (mvT hZ (hw _ (List.mem_of_getElem? (i := 37) rfl))) (mvT hZ (hw _ (List.mem_of_getElem? (i := 38) rfl))) (notFace_of_selects (args := #[]) (mvT hZ (hw _ (List.mem_of_getElem? (i := 40) rfl)))) (mvT hZ (hw _ (List.mem_of_getElem? (i := 40) rfl))) (mvT hZ (hw _ (List.mem_of_getElem? (i := 39) rfl))) (by decide) (backOf (W := 0) (rm4_2_2 l Z a0 hw [] b25 bI_32 k26 va vb (T32.heap) n0 (Nat.le_trans Z0 K32.1) P32_1 P32_2 P32_3) hZ (hw _ (List.mem_of_getElem? (i := 41) rfl)) (hw _ (List.mem_of_getElem? (i := 7) rfl)) (by decide) (by decide)) q33a q33c (g := (mkF m 176 #[.val (.int p1), .val (.int p2), .val (.int p3), .val (.int p4), .val (.int p5), .val (.int va), .val (.int vb), .val (.int vc), .val (.int (2 : Int32)), .val (.int (2 : Int32)), .val (.ref b25), .unset, .unset, .unset, .unset] [(.int (2 : Int32)), (.ref b25)])) rfl (by rw [hml]; rfl) (Steps.refl _) (argsL := [(.int (2 : Int32))]) (rest := []) (lenOf pd__I_D rfl) rfl (by show 2 * 0 + _ ≤ _; exact Nat.le_of_eq rfl) (hb hby at_176) (fun _ _ => ⟨rfl, rfl, (by decide : 5 + 0 ≤ _), (by decide : 11 + 0 ≤ _)⟩)
      dsimp only [Pt.U, Pt.locs, Pt.cells, Pt.slots] at X33 l33 y33 z33 st33 hQ33
      rw [l33, y33, z33] at X33
      obtain ⟨rfl, N33q, e33⟩ := hQ33
      have N33 := Fr.app N32 N33q
      refine OwnR.of (fun _ hr => st33.trans hr) ?_
      show OwnR _ _ _ _ _ _ _ (T33.setTop (mkF m 179 #[.val (.int p1), .val (.int p2), .val (.int p3), .val (.int p4), .val (.int p5), .val (.int va), .val (.int vb), .val (.int vc), .val (.int (2 : Int32)), .val (.int (2 : Int32)), .val (.ref b25), .unset, .unset, .unset, .unset] [(.double (9221120237041090560 : UInt64))]))
      refine OwnR.of (fun _ hr => XS.dstore X33.here hx rfl (hb hby at_179) rfl (l' := #[.val (.int p1), .val (.int p2), .val (.int p3), .val (.int p4), .val (.int p5), .val (.int va), .val (.int vb), .val (.int vc), .val (.int (2 : Int32)), .val (.int (2 : Int32)), .val (.ref b25), .val (.double (9221120237041090560 : UInt64)), .second, .unset, .unset]) rfl hr) ?_
      show OwnR _ _ _ _ _ _ _ (T33.setTop (mkF m 181 #[.val (.int p1), .val (.int p2), .val (.int p3), .val (.int p4), .val (.int p5), .val (.int va), .val (.int vb), .val (.int vc), .val (.int (2 : Int32)), .val (.int (2 : Int32)), .val (.ref b25), .val (.double (9221120237041090560 : UInt64)), .second, .unset, .unset] []))
      refine OwnR.of (fun _ hr => XS.iload X33.here hx rfl (hb hby at_181) rfl hr) ?_
      show OwnR _ _ _ _ _ _ _ (T33.setTop (mkF m 183 #[.val (.int p1), .val (.int p2), .val (.int p3), .val (.int p4), .val (.int p5), .val (.int va), .val (.int vb), .val (.int vc), .val (.int (2 : Int32)), .val (.int (2 : Int32)), .val (.ref b25), .val (.double (9221120237041090560 : UInt64)), .second, .unset, .unset] [(.int (2 : Int32))]))
      refine OwnR.of (fun _ hr => XS.iload X33.here hx rfl (hb hby at_183) rfl hr) ?_
      show OwnR _ _ _ _ _ _ _ (T33.setTop (mkF m 185 #[.val (.int p1), .val (.int p2), .val (.int p3), .val (.int p4), .val (.int p5), .val (.int va), .val (.int vb), .val (.int vc), .val (.int (2 : Int32)), .val (.int (2 : Int32)), .val (.ref b25), .val (.double (9221120237041090560 : UInt64)), .second, .unset, .unset] [(.int (2 : Int32)), (.int (2 : Int32))]))
      refine OwnR.of (fun _ hr => XS.icmpNo X33.here hx rfl (hb hby at_185) rfl (teq (by decide : (2 : Int32) = (2 : Int32))).2 hr) ?_
      show OwnR _ _ _ _ _ _ _ (T33.setTop (mkF m 188 #[.val (.int p1), .val (.int p2), .val (.int p3), .val (.int p4), .val (.int p5), .val (.int va), .val (.int vb), .val (.int vc), .val (.int (2 : Int32)), .val (.int (2 : Int32)), .val (.ref b25), .val (.double (9221120237041090560 : UInt64)), .second, .unset, .unset] []))
      refine OwnR.of (fun _ hr => XS.dload X33.here hx rfl (hb hby at_188) rfl hr) ?_
      show OwnR _ _ _ _ _ _ _ (T33.setTop (mkF m 190 #[.val (.int p1), .val (.int p2), .val (.int p3), .val (.int p4), .val (.int p5), .val (.int va), .val (.int vb), .val (.int vc), .val (.int (2 : Int32)), .val (.int (2 : Int32)), .val (.ref b25), .val (.double (9221120237041090560 : UInt64)), .second, .unset, .unset] [(.double (9221120237041090560 : UInt64))]))
      refine OwnR.of (fun _ hr => XS.dload X33.here hx rfl (hb hby at_190) rfl hr) ?_
      show OwnR _ _ _ _ _ _ _ (T33.setTop (mkF m 192 #[.val (.int p1), .val (.int p2), .val (.int p3), .val (.int p4), .val (.int p5), .val (.int va), .val (.int vb), .val (.int vc), .val (.int (2 : Int32)), .val (.int (2 : Int32)), .val (.ref b25), .val (.double (9221120237041090560 : UInt64)), .second, .unset, .unset] [(.double (9221120237041090560 : UInt64)), (.double (9221120237041090560 : UInt64))]))
      refine OwnR.of (fun _ hr => XS.dcmpS (v := (-1 : Int32)) X33.here hx rfl (hb hby at_192) rfl (by decide +kernel) hr) ?_
      show OwnR _ _ _ _ _ _ _ (T33.setTop (mkF m 193 #[.val (.int p1), .val (.int p2), .val (.int p3), .val (.int p4), .val (.int p5), .val (.int va), .val (.int vb), .val (.int vc), .val (.int (2 : Int32)), .val (.int (2 : Int32)), .val (.ref b25), .val (.double (9221120237041090560 : UInt64)), .second, .unset, .unset] [(.int (-1 : Int32))]))
      refine OwnR.of (fun _ hr => XS.ifNo X33.here hx rfl (hb hby at_193) rfl ((if0 _ _).trans (feq (by decide : ¬ ((-1 : Int32) = (0 : Int32)))).1) hr) ?_
      show OwnR _ _ _ _ _ _ _ (T33.setTop (mkF m 196 #[.val (.int p1), .val (.int p2), .val (.int p3), .val (.int p4), .val (.int p5), .val (.int va), .val (.int vb), .val (.int vc), .val (.int (2 : Int32)), .val (.int (2 : Int32)), .val (.ref b25), .val (.double (9221120237041090560 : UInt64)), .second, .unset, .unset] []))
      refine OwnR.of (fun _ hr => XS.iconst X33.here hx rfl (hb hby at_196) hr) ?_
      show OwnR _ _ _ _ _ _ _ (T33.setTop (mkF m 197 #[.val (.int p1), .val (.int p2), .val (.int p3), .val (.int p4), .val (.int p5), .val (.int va), .val (.int vb), .val (.int vc), .val (.int (2 : Int32)), .val (.int (2 : Int32)), .val (.ref b25), .val (.double (9221120237041090560 : UInt64)), .second, .unset, .unset] [(.int (1 : Int32))]))
      refine OwnR.of (fun _ hr => XS.goto X33.here hx rfl (pc0 := 197) (pc' := 201) rfl (hb hby at_197) (by decide) (by decide) hr) ?_
      show OwnR _ _ _ _ _ _ _ (T33.setTop (mkF m 201 #[.val (.int p1), .val (.int p2), .val (.int p3), .val (.int p4), .val (.int p5), .val (.int va), .val (.int vb), .val (.int vc), .val (.int (2 : Int32)), .val (.int (2 : Int32)), .val (.ref b25), .val (.double (9221120237041090560 : UInt64)), .second, .unset, .unset] [(.int (1 : Int32))]))
      refine own_leafN X33 hx hlk (t := .boolean) Bd.returns (by simp) (hb hby at_201) (z' := (1 : Int32)) rfl (by decide) (by decide) ?_
      show Q0 Z  h0 n0 _ T33.heap _
      rw [show T33.heap = T32.heap from e33]
      refine ⟨?_, N33⟩
      show (some (.int (1 : Int32)) : Option Value) = some (.int (1 : Int32))
      rfl
  · skip
    show OwnR _ _ _ _ _ _ _ (T8.setTop (mkF m 40 #[.val (.int p1), .val (.int p2), .val (.int p3), .val (.int p4), .val (.int p5), .val (.int va), .val (.int vb), .val (.int vc), .val (.int (3 : Int32)), .unset, .unset, .unset, .unset, .unset, .unset] []))
    refine OwnR.of (fun _ hr => XS.iload X8.here hx rfl (hb hby at_40) rfl hr) ?_
    show OwnR _ _ _ _ _ _ _ (T8.setTop (mkF m 42 #[.val (.int p1), .val (.int p2), .val (.int p3), .val (.int p4), .val (.int p5), .val (.int va), .val (.int vb), .val (.int vc), .val (.int (3 : Int32)), .unset, .unset, .unset, .unset, .unset, .unset] [(.int p5)]))
    refine OwnR.of (X8.ldcInt hx hown (mvT hZ (hw _ (List.mem_of_getElem? (i := 0) rfl))) (g := (mkF m 42 #[.val (.int p1), .val (.int p2), .val (.int p3), .val (.int p4), .val (.int p5), .val (.int va), .val (.int vb), .val (.int vc), .val (.int (3 : Int32)), .unset, .unset, .unset, .unset, .unset, .unset] [(.int p5)])) rfl (hb hby at_42)) ?_
    show OwnR _ _ _ _ _ _ _ (T8.setTop (mkF m 44 #[.val (.int p1), .val (.int p2), .val (.int p3), .val (.int p4), .val (.int p5), .val (.int va), .val (.int vb), .val (.int vc), .val (.int (3 : Int32)), .unset, .unset, .unset, .unset, .unset, .unset] [(.int (2147483647 : Int32)), (.int p5)]))
    refine OwnR.of (fun _ hr => XS.iand X8.here hx rfl (hb hby at_44) rfl hr) ?_
    show OwnR _ _ _ _ _ _ _ (T8.setTop (mkF m 45 #[.val (.int p1), .val (.int p2), .val (.int p3), .val (.int p4), .val (.int p5), .val (.int va), .val (.int vb), .val (.int vc), .val (.int (3 : Int32)), .unset, .unset, .unset, .unset, .unset, .unset] [(.int (p5 &&& (2147483647 : Int32)))]))
    refine OwnR.of (fun _ hr => XS.iload X8.here hx rfl (hb hby at_45) rfl hr) ?_
    show OwnR _ _ _ _ _ _ _ (T8.setTop (mkF m 47 #[.val (.int p1), .val (.int p2), .val (.int p3), .val (.int p4), .val (.int p5), .val (.int va), .val (.int vb), .val (.int vc), .val (.int (3 : Int32)), .unset, .unset, .unset, .unset, .unset, .unset] [(.int (3 : Int32)), (.int (p5 &&& (2147483647 : Int32)))]))
    refine OwnR.of (fun _ hr => iremM X8 hx rfl (hb hby at_47) rfl (by decide) hr) ?_
    show OwnR _ _ _ _ _ _ _ (T8.setTop (mkF m 48 #[.val (.int p1), .val (.int p2), .val (.int p3), .val (.int p4), .val (.int p5), .val (.int va), .val (.int vb), .val (.int vc), .val (.int (3 : Int32)), .unset, .unset, .unset, .unset, .unset, .unset] [(.int ((p5 &&& (2147483647 : Int32)) % (3 : Int32)))]))
    refine OwnR.of (fun _ hr => XS.iconst X8.here hx rfl (hb hby at_48) hr) ?_
    show OwnR _ _ _ _ _ _ _ (T8.setTop (mkF m 49 #[.val (.int p1), .val (.int p2), .val (.int p3), .val (.int p4), .val (.int p5), .val (.int va), .val (.int vb), .val (.int vc), .val (.int (3 : Int32)), .unset, .unset, .unset, .unset, .unset, .unset] [(.int (1 : Int32)), (.int ((p5 &&& (2147483647 : Int32)) % (3 : Int32)))]))
    refine OwnR.of (fun _ hr => XS.iadd X8.here hx rfl (hb hby at_49) rfl hr) ?_
    show OwnR _ _ _ _ _ _ _ (T8.setTop (mkF m 50 #[.val (.int p1), .val (.int p2), .val (.int p3), .val (.int p4), .val (.int p5), .val (.int va), .val (.int vb), .val (.int vc), .val (.int (3 : Int32)), .unset, .unset, .unset, .unset, .unset, .unset] [(.int (((p5 &&& (2147483647 : Int32)) % (3 : Int32)) + (1 : Int32)))]))
    refine OwnR.of (fun _ hr => XS.istore X8.here hx rfl (hb hby at_50) rfl (l' := #[.val (.int p1), .val (.int p2), .val (.int p3), .val (.int p4), .val (.int p5), .val (.int va), .val (.int vb), .val (.int vc), .val (.int (3 : Int32)), .val (.int (((p5 &&& (2147483647 : Int32)) % (3 : Int32)) + (1 : Int32))), .unset, .unset, .unset, .unset, .unset]) rfl hr) ?_
    show OwnR _ _ _ _ _ _ _ (T8.setTop (mkF m 52 #[.val (.int p1), .val (.int p2), .val (.int p3), .val (.int p4), .val (.int p5), .val (.int va), .val (.int vb), .val (.int vc), .val (.int (3 : Int32)), .val (.int (((p5 &&& (2147483647 : Int32)) % (3 : Int32)) + (1 : Int32))), .unset, .unset, .unset, .unset, .unset] []))
    obtain ⟨o, ho⟩ : ∃ z : Int32, z = (((p5 &&& (2147483647 : Int32)) % (3 : Int32)) + (1 : Int32)) := ⟨_, rfl⟩
    rw [← ho]
    show OwnR _ _ _ _ _ _ _ (T8.setTop (mkF m 52 #[.val (.int p1), .val (.int p2), .val (.int p3), .val (.int p4), .val (.int p5), .val (.int va), .val (.int vb), .val (.int vc), .val (.int (3 : Int32)), .val (.int o), .unset, .unset, .unset, .unset, .unset] []))
    have hos : o = (1 : Int32) ∨ o = (2 : Int32) ∨ o = (3 : Int32) := by rw [ho]; exact own_r3 p5
    rcases hos with rfl | rfl | rfl
    · skip
      show OwnR _ _ _ _ _ _ _ (T8.setTop (mkF m 52 #[.val (.int p1), .val (.int p2), .val (.int p3), .val (.int p4), .val (.int p5), .val (.int va), .val (.int vb), .val (.int vc), .val (.int (3 : Int32)), .val (.int (1 : Int32)), .unset, .unset, .unset, .unset, .unset] []))
      refine OwnR.of (fun _ hr => XS.iload X8.here hx rfl (hb hby at_52) rfl hr) ?_
      show OwnR _ _ _ _ _ _ _ (T8.setTop (mkF m 54 #[.val (.int p1), .val (.int p2), .val (.int p3), .val (.int p4), .val (.int p5), .val (.int va), .val (.int vb), .val (.int vc), .val (.int (3 : Int32)), .val (.int (1 : Int32)), .unset, .unset, .unset, .unset, .unset] [(.int (3 : Int32))]))
      refine OwnR.of (fun _ hr => XS.iconst X8.here hx rfl (hb hby at_54) hr) ?_
      show OwnR _ _ _ _ _ _ _ (T8.setTop (mkF m 55 #[.val (.int p1), .val (.int p2), .val (.int p3), .val (.int p4), .val (.int p5), .val (.int va), .val (.int vb), .val (.int vc), .val (.int (3 : Int32)), .val (.int (1 : Int32)), .unset, .unset, .unset, .unset, .unset] [(.int (1 : Int32)), (.int (3 : Int32))]))
      refine OwnR.of (fun _ hr => XS.icmpYes X8.here hx rfl (pc0 := 55) (pc' := 86) rfl (hb hby at_55) rfl (feq (by decide : ¬ ((3 : Int32) = (1 : Int32)))).2 (by decide) (by decide) hr) ?_
      show OwnR _ _ _ _ _ _ _ (T8.setTop (mkF m 86 #[.val (.int p1), .val (.int p2), .val (.int p3), .val (.int p4), .val (.int p5), .val (.int va), .val (.int vb), .val (.int vc), .val (.int (3 : Int32)), .val (.int (1 : Int32)), .unset, .unset, .unset, .unset, .unset] []))
      refine OwnR.of (fun _ hr => XS.iload X8.here hx rfl (hb hby at_86) rfl hr) ?_
      show OwnR _ _ _ _ _ _ _ (T8.setTop (mkF m 88 #[.val (.int p1), .val (.int p2), .val (.int p3), .val (.int p4), .val (.int p5), .val (.int va), .val (.int vb), .val (.int vc), .val (.int (3 : Int32)), .val (.int (1 : Int32)), .unset, .unset, .unset, .unset, .unset] [(.int (3 : Int32))]))
      refine OwnR.of (fun _ hr => XS.iconst X8.here hx rfl (hb hby at_88) hr) ?_
      show OwnR _ _ _ _ _ _ _ (T8.setTop (mkF m 89 #[.val (.int p1), .val (.int p2), .val (.int p3), .val (.int p4), .val (.int p5), .val (.int va), .val (.int vb), .val (.int vc), .val (.int (3 : Int32)), .val (.int (1 : Int32)), .unset, .unset, .unset, .unset, .unset] [(.int (2 : Int32)), (.int (3 : Int32))]))
      refine OwnR.of (fun _ hr => XS.icmpYes X8.here hx rfl (pc0 := 89) (pc' := 129) rfl (hb hby at_89) rfl (feq (by decide : ¬ ((3 : Int32) = (2 : Int32)))).2 (by decide) (by decide) hr) ?_
      show OwnR _ _ _ _ _ _ _ (T8.setTop (mkF m 129 #[.val (.int p1), .val (.int p2), .val (.int p3), .val (.int p4), .val (.int p5), .val (.int va), .val (.int vb), .val (.int vc), .val (.int (3 : Int32)), .val (.int (1 : Int32)), .unset, .unset, .unset, .unset, .unset] []))
      obtain ⟨T34, h34, X34, e34, E34, A34, D34, -, st34⟩ := newO X8 hx hZ hown (hw _ (List.mem_of_getElem? (i := 5) rfl)) (hw _ (List.mem_of_getElem? (i := 6) rfl)) (hw _ (List.mem_of_getElem? (i := 7) rfl)) e8 (g := (mkF m 129 #[.val (.int p1), .val (.int p2), .val (.int p3), .val (.int p4), .val (.int p5), .val (.int va), .val (.int vb), .val (.int vc), .val (.int (3 : Int32)), .val (.int (1 : Int32)), .unset, .unset, .unset, .unset, .unset] [])) rfl (hb hby at_129) (by decide) (by decide)
      obtain ⟨b34, g34⟩ : ∃ z, z = h0.size := ⟨_, rfl⟩
      rw [← g34] at A34 D34 st34
      refine OwnR.of (st34) ?_
      have gn_b34 : n0 ≤ b34 := Nat.le_trans (Nat.le_trans Z0 (Keep.refl h0 []).1) (Nat.le_of_eq g34.symm)
      have sz_b34 : h0.size ≤ b34 := Nat.le_trans (Keep.refl h0 []).1 (Nat.le_of_eq g34.symm)
      have K34 : Keep h0 h34 [] := Keep.ext (Keep.refl h0 []) E34
      have F_branches_b34 : Fld Z h34 b34 "com/example/ramification/ramification/model/StrahlerOrders" "branches" "[I" .null := D34 (Or.inr (hw _ (List.mem_of_getElem? (i := 26) rfl))) (ty := (.array .int)) (by decide)
      have F_lengths_b34 : Fld Z h34 b34 "com/example/ramification/ramification/model/StrahlerOrders" "lengths" "[D" .null := D34 (Or.inr (hw _ (List.mem_of_getElem? (i := 34) rfl))) (ty := (.array .double)) (by decide)
      have F_unit_b34 : Fld Z h34 b34 "com/example/ramification/ramification/model/StrahlerOrders" "unit" "Ljava/util/Optional;" .null := D34 (Or.inr (hw _ (List.mem_of_getElem? (i := 36) rfl))) (ty := (.object "java/util/Optional")) (by decide)
      show OwnR _ _ _ _ _ _ _ (T34.setTop (mkF m 132 #[.val (.int p1), .val (.int p2), .val (.int p3), .val (.int p4), .val (.int p5), .val (.int va), .val (.int vb), .val (.int vc), .val (.int (3 : Int32)), .val (.int (1 : Int32)), .unset, .unset, .unset, .unset, .unset] [(.ref b34)]))
      refine OwnR.of (fun _ hr => XS.dup X34.here hx rfl (hb hby at_132) rfl rfl hr) ?_
      show OwnR _ _ _ _ _ _ _ (T34.setTop (mkF m 133 #[.val (.int p1), .val (.int p2), .val (.int p3), .val (.int p4), .val (.int p5), .val (.int va), .val (.int vb), .val (.int vc), .val (.int (3 : Int32)), .val (.int (1 : Int32)), .unset, .unset, .unset, .unset, .unset] [(.ref b34), (.ref b34)]))
      refine OwnR.of (fun _ hr => XS.iconst X34.here hx rfl (hb hby at_133) hr) ?_
      show OwnR _ _ _ _ _ _ _ (T34.setTop (mkF m 134 #[.val (.int p1), .val (.int p2), .val (.int p3), .val (.int p4), .val (.int p5), .val (.int va), .val (.int vb), .val (.int vc), .val (.int (3 : Int32)), .val (.int (1 : Int32)), .unset, .unset, .unset, .unset, .unset] [(.int (3 : Int32)), (.ref b34), (.ref b34)]))
      obtain ⟨T35, h35, k35, X35, e35, E35, A35, AE35, st35⟩ := newPE X34 hx hZ (hw _ (List.mem_of_getElem? (i := 8) rfl)) e34 (g := (mkF m 134 #[.val (.int p1), .val (.int p2), .val (.int p3), .val (.int p4), .val (.int p5), .val (.int va), .val (.int vb), .val (.int vc), .val (.int (3 : Int32)), .val (.int (1 : Int32)), .unset, .unset, .unset, .unset, .unset] [(.int (3 : Int32)), (.ref b34), (.ref b34)])) rfl (hb hby at_134) rfl (by decide) (cap := 3) (by decide) (by decide) (by decide) (by decide) (ad := "[I") rfl
      obtain ⟨b35, g35⟩ : ∃ z, z = h34.size := ⟨_, rfl⟩
      rw [← g35] at A35 AE35 st35
      refine OwnR.of (st35) ?_
      have gn_b35 : n0 ≤ b35 := Nat.le_trans (Nat.le_trans Z0 K34.1) (Nat.le_of_eq g35.symm)
      have sz_b35 : h0.size ≤ b35 := Nat.le_trans K34.1 (Nat.le_of_eq g35.symm)
      have K35 : Keep h0 h35 [] := Keep.ext K34 E35
      have V35 : Arv Z h35 b35 k35 .int (3 : Int32) [(.int (0 : Int32)), (.int (0 : Int32)), (.int (0 : Int32))] (.int (0 : Int32)) := (Arv.new A35 (by decide)).pad (pad_rep [] (.int (0 : Int32)) 3)
      show OwnR _ _ _ _ _ _ _ (T35.setTop (mkF m 136 #[.val (.int p1), .val (.int p2), .val (.int p3), .val (.int p4), .val (.int p5), .val (.int va), .val (.int vb), .val (.int vc), .val (.int (3 : Int32)), .val (.int (1 : Int32)), .unset, .unset, .unset, .unset, .unset] [(.ref b35), (.ref b34), (.ref b34)]))
      refine OwnR.of (fun _ hr => XS.dup X35.here hx rfl (hb hby at_136) rfl rfl hr) ?_
      show OwnR _ _ _ _ _ _ _ (T35.setTop (mkF m 137 #[.val (.int p1), .val (.int p2), .val (.int p3), .val (.int p4), .val (.int p5), .val (.int va), .val (.int vb), .val (.int vc), .val (.int (3 : Int32)), .val (.int (1 : Int32)), .unset, .unset, .unset, .unset, .unset] [(.ref b35), (.ref b35), (.ref b34), (.ref b34)]))
      refine OwnR.of (fun _ hr => XS.iconst X35.here hx rfl (hb hby at_137) hr) ?_
      show OwnR _ _ _ _ _ _ _ (T35.setTop (mkF m 138 #[.val (.int p1), .val (.int p2), .val (.int p3), .val (.int p4), .val (.int p5), .val (.int va), .val (.int vb), .val (.int vc), .val (.int (3 : Int32)), .val (.int (1 : Int32)), .unset, .unset, .unset, .unset, .unset] [(.int (0 : Int32)), (.ref b35), (.ref b35), (.ref b34), (.ref b34)]))
      refine OwnR.of (fun _ hr => XS.iload X35.here hx rfl (hb hby at_138) rfl hr) ?_
      show OwnR _ _ _ _ _ _ _ (T35.setTop (mkF m 140 #[.val (.int p1), .val (.int p2), .val (.int p3), .val (.int p4), .val (.int p5), .val (.int va), .val (.int vb), .val (.int vc), .val (.int (3 : Int32)), .val (.int (1 : Int32)), .unset, .unset, .unset, .unset, .unset] [(.int va), (.int (0 : Int32)), (.ref b35), (.ref b35), (.ref b34), (.ref b34)]))
      obtain ⟨cl36, Ar36, q36, S36, N36q, H36, G36⟩ := id V35
      have hin36 : ¬ ((0 : Int32) < 0 ∨ cl36.slots.size ≤ ((0 : Int32)).toNatClampNeg) := (inb_of S36 ⟨by decide, by decide⟩)
      obtain ⟨T36, h36, X36, e36, W36, st36⟩ := stI X35 hx hZ e35 Ar36 (j := (0 : Int32)) hin36 (g := (mkF m 140 #[.val (.int p1), .val (.int p2), .val (.int p3), .val (.int p4), .val (.int p5), .val (.int va), .val (.int vb), .val (.int vc), .val (.int (3 : Int32)), .val (.int (1 : Int32)), .unset, .unset, .unset, .unset, .unset] [(.int va), (.int (0 : Int32)), (.ref b35), (.ref b35), (.ref b34), (.ref b34)])) rfl rfl (hb hby at_140)
      refine OwnR.of (st36) ?_
      have V36 := Arv.set Ar36 q36 S36 N36q H36 G36 rfl W36 0 rfl (Nat.le_of_ble_eq_true rfl)
      have V36 : Arv Z h36 b35 k35 .int (3 : Int32) [(.int va), (.int (0 : Int32)), (.int (0 : Int32))] (.int (0 : Int32)) := V36
      have K36 : Keep h0 h36 [] := Keep.wr K35 W36 (Or.inr sz_b35)
      have N36 := Fr.snoc X36 N8 gn_b35
      show OwnR _ _ _ _ _ _ _ (T36.setTop (mkF m 141 #[.val (.int p1), .val (.int p2), .val (.int p3), .val (.int p4), .val (.int p5), .val (.int va), .val (.int vb), .val (.int vc), .val (.int (3 : Int32)), .val (.int (1 : Int32)), .unset, .unset, .unset, .unset, .unset] [(.ref b35), (.ref b34), (.ref b34)]))
      refine OwnR.of (fun _ hr => XS.dup X36.here hx rfl (hb hby at_141) rfl rfl hr) ?_
      show OwnR _ _ _ _ _ _ _ (T36.setTop (mkF m 142 #[.val (.int p1), .val (.int p2), .val (.int p3), .val (.int p4), .val (.int p5), .val (.int va), .val (.int vb), .val (.int vc), .val (.int (3 : Int32)), .val (.int (1 : Int32)), .unset, .unset, .unset, .unset, .unset] [(.ref b35), (.ref b35), (.ref b34), (.ref b34)]))
      refine OwnR.of (fun _ hr => XS.iconst X36.here hx rfl (hb hby at_142) hr) ?_
      show OwnR _ _ _ _ _ _ _ (T36.setTop (mkF m 143 #[.val (.int p1), .val (.int p2), .val (.int p3), .val (.int p4), .val (.int p5), .val (.int va), .val (.int vb), .val (.int vc), .val (.int (3 : Int32)), .val (.int (1 : Int32)), .unset, .unset, .unset, .unset, .unset] [(.int (1 : Int32)), (.ref b35), (.ref b35), (.ref b34), (.ref b34)]))
      refine OwnR.of (fun _ hr => XS.iload X36.here hx rfl (hb hby at_143) rfl hr) ?_
      show OwnR _ _ _ _ _ _ _ (T36.setTop (mkF m 145 #[.val (.int p1), .val (.int p2), .val (.int p3), .val (.int p4), .val (.int p5), .val (.int va), .val (.int vb), .val (.int vc), .val (.int (3 : Int32)), .val (.int (1 : Int32)), .unset, .unset, .unset, .unset, .unset] [(.int vb), (.int (1 : Int32)), (.ref b35), (.ref b35), (.ref b34), (.ref b34)]))
      obtain ⟨cl37, Ar37, q37, S37, N37q, H37, G37⟩ := id V36
      have hin37 : ¬ ((1 : Int32) < 0 ∨ cl37.slots.size ≤ ((1 : Int32)).toNatClampNeg) := (inb_of S37 ⟨by decide, by decide⟩)
      obtain ⟨T37, h37, X37, e37, W37, st37⟩ := stI X36 hx hZ e36 Ar37 (j := (1 : Int32)) hin37 (g := (mkF m 145 #[.val (.int p1), .val (.int p2), .val (.int p3), .val (.int p4), .val (.int p5), .val (.int va), .val (.int vb), .val (.int vc), .val (.int (3 : Int32)), .val (.int (1 : Int32)), .unset, .unset, .unset, .unset, .unset] [(.int vb), (.int (1 : Int32)), (.ref b35), (.ref b35), (.ref b34), (.ref b34)])) rfl rfl (hb hby at_145)
      refine OwnR.of (st37) ?_
      have V37 := Arv.set Ar37 q37 S37 N37q H37 G37 rfl W37 1 rfl (Nat.le_of_ble_eq_true rfl)
      have V37 : Arv Z h37 b35 k35 .int (3 : Int32) [(.int va), (.int vb), (.int (0 : Int32))] (.int (0 : Int32)) := V37
      have K37 : Keep h0 h37 [] := Keep.wr K36 W37 (Or.inr sz_b35)
      have N37 := Fr.snoc X37 N36 gn_b35
      show OwnR _ _ _ _ _ _ _ (T37.setTop (mkF m 146 #[.val (.int p1), .val (.int p2), .val (.int p3), .val (.int p4), .val (.int p5), .val (.int va), .val (.int vb), .val (.int vc), .val (.int (3 : Int32)), .val (.int (1 : Int32)), .unset, .unset, .unset, .unset, .unset] [(.ref b35), (.ref b34), (.ref b34)]))
      refine OwnR.of (fun _ hr => XS.dup X37.here hx rfl (hb hby at_146) rfl rfl hr) ?_
      show OwnR _ _ _ _ _ _ _ (T37.setTop (mkF m 147 #[.val (.int p1), .val (.int p2), .val (.int p3), .val (.int p4), .val (.int p5), .val (.int va), .val (.int vb), .val (.int vc), .val (.int (3 : Int32)), .val (.int (1 : Int32)), .unset, .unset, .unset, .unset, .unset] [(.ref b35), (.ref b35), (.ref b34), (.ref b34)]))
      refine OwnR.of (fun _ hr => XS.iconst X37.here hx rfl (hb hby at_147) hr) ?_
      show OwnR _ _ _ _ _ _ _ (T37.setTop (mkF m 148 #[.val (.int p1), .val (.int p2), .val (.int p3), .val (.int p4), .val (.int p5), .val (.int va), .val (.int vb), .val (.int vc), .val (.int (3 : Int32)), .val (.int (1 : Int32)), .unset, .unset, .unset, .unset, .unset] [(.int (2 : Int32)), (.ref b35), (.ref b35), (.ref b34), (.ref b34)]))
      refine OwnR.of (fun _ hr => XS.iload X37.here hx rfl (hb hby at_148) rfl hr) ?_
      show OwnR _ _ _ _ _ _ _ (T37.setTop (mkF m 150 #[.val (.int p1), .val (.int p2), .val (.int p3), .val (.int p4), .val (.int p5), .val (.int va), .val (.int vb), .val (.int vc), .val (.int (3 : Int32)), .val (.int (1 : Int32)), .unset, .unset, .unset, .unset, .unset] [(.int vc), (.int (2 : Int32)), (.ref b35), (.ref b35), (.ref b34), (.ref b34)]))
      obtain ⟨cl38, Ar38, q38, S38, N38q, H38, G38⟩ := id V37
      have hin38 : ¬ ((2 : Int32) < 0 ∨ cl38.slots.size ≤ ((2 : Int32)).toNatClampNeg) := (inb_of S38 ⟨by decide, by decide⟩)
      obtain ⟨T38, h38, X38, e38, W38, st38⟩ := stI X37 hx hZ e37 Ar38 (j := (2 : Int32)) hin38 (g := (mkF m 150 #[.val (.int p1), .val (.int p2), .val (.int p3), .val (.int p4), .val (.int p5), .val (.int va), .val (.int vb), .val (.int vc), .val (.int (3 : Int32)), .val (.int (1 : Int32)), .unset, .unset, .unset, .unset, .unset] [(.int vc), (.int (2 : Int32)), (.ref b35), (.ref b35), (.ref b34), (.ref b34)])) rfl rfl (hb hby at_150)
      refine OwnR.of (st38) ?_
      have V38 := Arv.set Ar38 q38 S38 N38q H38 G38 rfl W38 2 rfl (Nat.le_of_ble_eq_true rfl)
      have V38 : Arv Z h38 b35 k35 .int (3 : Int32) [(.int va), (.int vb), (.int vc)] (.int (0 : Int32)) := V38
      have K38 : Keep h0 h38 [] := Keep.wr K37 W38 (Or.inr sz_b35)
      have N38 := Fr.snoc X38 N37 gn_b35
      show OwnR _ _ _ _ _ _ _ (T38.setTop (mkF m 151 #[.val (.int p1), .val (.int p2), .val (.int p3), .val (.int p4), .val (.int p5), .val (.int va), .val (.int vb), .val (.int vc), .val (.int (3 : Int32)), .val (.int (1 : Int32)), .unset, .unset, .unset, .unset, .unset] [(.ref b35), (.ref b34), (.ref b34)]))
      refine OwnR.of (fun _ hr => XS.iconst X38.here hx rfl (hb hby at_151) hr) ?_
      show OwnR _ _ _ _ _ _ _ (T38.setTop (mkF m 152 #[.val (.int p1), .val (.int p2), .val (.int p3), .val (.int p4), .val (.int p5), .val (.int va), .val (.int vb), .val (.int vc), .val (.int (3 : Int32)), .val (.int (1 : Int32)), .unset, .unset, .unset, .unset, .unset] [(.int (3 : Int32)), (.ref b35), (.ref b34), (.ref b34)]))
      obtain ⟨T39, h39, k39, X39, e39, E39, A39, AE39, st39⟩ := newPE X38 hx hZ (hw _ (List.mem_of_getElem? (i := 9) rfl)) e38 (g := (mkF m 152 #[.val (.int p1), .val (.int p2), .val (.int p3), .val (.int p4), .val (.int p5), .val (.int va), .val (.int vb), .val (.int vc), .val (.int (3 : Int32)), .val (.int (1 : Int32)), .unset, .unset, .unset, .unset, .unset] [(.int (3 : Int32)), (.ref b35), (.ref b34), (.ref b34)])) rfl (hb hby at_152) rfl (by decide) (cap := 3) (by decide) (by decide) (by decide) (by decide) (ad := "[D") rfl
      obtain ⟨b39, g39⟩ : ∃ z, z = h38.size := ⟨_, rfl⟩
      rw [← g39] at A39 AE39 st39
      refine OwnR.of (st39) ?_
      have gn_b39 : n0 ≤ b39 := Nat.le_trans (Nat.le_trans Z0 K38.1) (Nat.le_of_eq g39.symm)
      have sz_b39 : h0.size ≤ b39 := Nat.le_trans K38.1 (Nat.le_of_eq g39.symm)
      have K39 : Keep h0 h39 [] := Keep.ext K38 E39
      have V39 : Arv Z h39 b39 k39 .double (3 : Int32) [(.double (0 : UInt64)), (.double (0 : UInt64)), (.double (0 : UInt64))] (.double (0 : UInt64)) := (Arv.new A39 (by decide)).pad (pad_rep [] (.double (0 : UInt64)) 3)
      show OwnR _ _ _ _ _ _ _ (T39.setTop (mkF m 154 #[.val (.int p1), .val (.int p2), .val (.int p3), .val (.int p4), .val (.int p5), .val (.int va), .val (.int vb), .val (.int vc), .val (.int (3 : Int32)), .val (.int (1 : Int32)), .unset, .unset, .unset, .unset, .unset] [(.ref b39), (.ref b35), (.ref b34), (.ref b34)]))
      refine OwnR.of (fun _ hr => XS.dup X39.here hx rfl (hb hby at_154) rfl rfl hr) ?_
      show OwnR _ _ _ _ _ _ _ (T39.setTop (mkF m 155 #[.val (.int p1), .val (.int p2), .val (.int p3), .val (.int p4), .val (.int p5), .val (.int va), .val (.int vb), .val (.int vc), .val (.int (3 : Int32)), .val (.int (1 : Int32)), .unset, .unset, .unset, .unset, .unset] [(.ref b39), (.ref b39), (.ref b35), (.ref b34), (.ref b34)]))
      refine OwnR.of (fun _ hr => XS.iconst X39.here hx rfl (hb hby at_155) hr) ?_
      show OwnR _ _ _ _ _ _ _ (T39.setTop (mkF m 156 #[.val (.int p1), .val (.int p2), .val (.int p3), .val (.int p4), .val (.int p5), .val (.int va), .val (.int vb), .val (.int vc), .val (.int (3 : Int32)), .val (.int (1 : Int32)), .unset, .unset, .unset, .unset, .unset] [(.int (0 : Int32)), (.ref b39), (.ref b39), (.ref b35), (.ref b34), (.ref b34)]))
      refine OwnR.of (fun _ hr => XS.dconst0 X39.here hx rfl (hb hby at_156) (v := (0 : UInt64)) (by decide +kernel) hr) ?_
      show OwnR _ _ _ _ _ _ _ (T39.setTop (mkF m 157 #[.val (.int p1), .val (.int p2), .val (.int p3), .val (.int p4), .val (.int p5), .val (.int va), .val (.int vb), .val (.int vc), .val (.int (3 : Int32)), .val (.int (1 : Int32)), .unset, .unset, .unset, .unset, .unset] [(.double (0 : UInt64)), (.int (0 : Int32)), (.ref b39), (.ref b39), (.ref b35), (.ref b34), (.ref b34)]))
      obtain ⟨cl40, Ar40, q40, S40, N40q, H40, G40⟩ := id V39
      have hin40 : ¬ ((0 : Int32) < 0 ∨ cl40.slots.size ≤ ((0 : Int32)).toNatClampNeg) := (inb_of S40 ⟨by decide, by decide⟩)
      obtain ⟨T40, h40, X40, e40, W40, st40⟩ := stD X39 hx hZ e39 Ar40 (j := (0 : Int32)) hin40 (g := (mkF m 157 #[.val (.int p1), .val (.int p2), .val (.int p3), .val (.int p4), .val (.int p5), .val (.int va), .val (.int vb), .val (.int vc), .val (.int (3 : Int32)), .val (.int (1 : Int32)), .unset, .unset, .unset, .unset, .unset] [(.double (0 : UInt64)), (.int (0 : Int32)), (.ref b39), (.ref b39), (.ref b35), (.ref b34), (.ref b34)])) rfl rfl (hb hby at_157)
      refine OwnR.of (st40) ?_
      have V40 := Arv.set Ar40 q40 S40 N40q H40 G40 rfl W40 0 rfl (Nat.le_of_ble_eq_true rfl)
      have V40 : Arv Z h40 b39 k39 .double (3 : Int32) [(.double (0 : UInt64)), (.double (0 : UInt64)), (.double (0 : UInt64))] (.double (0 : UInt64)) := V40
      have K40 : Keep h0 h40 [] := Keep.wr K39 W40 (Or.inr sz_b39)
      have N40 := Fr.snoc X40 N38 gn_b39
      show OwnR _ _ _ _ _ _ _ (T40.setTop (mkF m 158 #[.val (.int p1), .val (.int p2), .val (.int p3), .val (.int p4), .val (.int p5), .val (.int va), .val (.int vb), .val (.int vc), .val (.int (3 : Int32)), .val (.int (1 : Int32)), .unset, .unset, .unset, .unset, .unset] [(.ref b39), (.ref b35), (.ref b34), (.ref b34)]))
      refine OwnR.of (fun _ hr => XS.dup X40.here hx rfl (hb hby at_158) rfl rfl hr) ?_
      show OwnR _ _ _ _ _ _ _ (T40.setTop (mkF m 159 #[.val (.int p1), .val (.int p2), .val (.int p3), .val (.int p4), .val (.int p5), .val (.int va), .val (.int vb), .val (.int vc), .val (.int (3 : Int32)), .val (.int (1 : Int32)), .unset, .unset, .unset, .unset, .unset] [(.ref b39), (.ref b39), (.ref b35), (.ref b34), (.ref b34)]))
      refine OwnR.of (fun _ hr => XS.iconst X40.here hx rfl (hb hby at_159) hr) ?_
      show OwnR _ _ _ _ _ _ _ (T40.setTop (mkF m 160 #[.val (.int p1), .val (.int p2), .val (.int p3), .val (.int p4), .val (.int p5), .val (.int va), .val (.int vb), .val (.int vc), .val (.int (3 : Int32)), .val (.int (1 : Int32)), .unset, .unset, .unset, .unset, .unset] [(.int (1 : Int32)), (.ref b39), (.ref b39), (.ref b35), (.ref b34), (.ref b34)]))
      refine OwnR.of (fun _ hr => XS.dconst0 X40.here hx rfl (hb hby at_160) (v := (0 : UInt64)) (by decide +kernel) hr) ?_
      show OwnR _ _ _ _ _ _ _ (T40.setTop (mkF m 161 #[.val (.int p1), .val (.int p2), .val (.int p3), .val (.int p4), .val (.int p5), .val (.int va), .val (.int vb), .val (.int vc), .val (.int (3 : Int32)), .val (.int (1 : Int32)), .unset, .unset, .unset, .unset, .unset] [(.double (0 : UInt64)), (.int (1 : Int32)), (.ref b39), (.ref b39), (.ref b35), (.ref b34), (.ref b34)]))
      obtain ⟨cl41, Ar41, q41, S41, N41q, H41, G41⟩ := id V40
      have hin41 : ¬ ((1 : Int32) < 0 ∨ cl41.slots.size ≤ ((1 : Int32)).toNatClampNeg) := (inb_of S41 ⟨by decide, by decide⟩)
      obtain ⟨T41, h41, X41, e41, W41, st41⟩ := stD X40 hx hZ e40 Ar41 (j := (1 : Int32)) hin41 (g := (mkF m 161 #[.val (.int p1), .val (.int p2), .val (.int p3), .val (.int p4), .val (.int p5), .val (.int va), .val (.int vb), .val (.int vc), .val (.int (3 : Int32)), .val (.int (1 : Int32)), .unset, .unset, .unset, .unset, .unset] [(.double (0 : UInt64)), (.int (1 : Int32)), (.ref b39), (.ref b39), (.ref b35), (.ref b34), (.ref b34)])) rfl rfl (hb hby at_161)
      refine OwnR.of (st41) ?_
      have V41 := Arv.set Ar41 q41 S41 N41q H41 G41 rfl W41 1 rfl (Nat.le_of_ble_eq_true rfl)
      have V41 : Arv Z h41 b39 k39 .double (3 : Int32) [(.double (0 : UInt64)), (.double (0 : UInt64)), (.double (0 : UInt64))] (.double (0 : UInt64)) := V41
      have K41 : Keep h0 h41 [] := Keep.wr K40 W41 (Or.inr sz_b39)
      have N41 := Fr.snoc X41 N40 gn_b39
      show OwnR _ _ _ _ _ _ _ (T41.setTop (mkF m 162 #[.val (.int p1), .val (.int p2), .val (.int p3), .val (.int p4), .val (.int p5), .val (.int va), .val (.int vb), .val (.int vc), .val (.int (3 : Int32)), .val (.int (1 : Int32)), .unset, .unset, .unset, .unset, .unset] [(.ref b39), (.ref b35), (.ref b34), (.ref b34)]))
      refine OwnR.of (fun _ hr => XS.dup X41.here hx rfl (hb hby at_162) rfl rfl hr) ?_
      show OwnR _ _ _ _ _ _ _ (T41.setTop (mkF m 163 #[.val (.int p1), .val (.int p2), .val (.int p3), .val (.int p4), .val (.int p5), .val (.int va), .val (.int vb), .val (.int vc), .val (.int (3 : Int32)), .val (.int (1 : Int32)), .unset, .unset, .unset, .unset, .unset] [(.ref b39), (.ref b39), (.ref b35), (.ref b34), (.ref b34)]))
      refine OwnR.of (fun _ hr => XS.iconst X41.here hx rfl (hb hby at_163) hr) ?_
      show OwnR _ _ _ _ _ _ _ (T41.setTop (mkF m 164 #[.val (.int p1), .val (.int p2), .val (.int p3), .val (.int p4), .val (.int p5), .val (.int va), .val (.int vb), .val (.int vc), .val (.int (3 : Int32)), .val (.int (1 : Int32)), .unset, .unset, .unset, .unset, .unset] [(.int (2 : Int32)), (.ref b39), (.ref b39), (.ref b35), (.ref b34), (.ref b34)]))
      refine OwnR.of (fun _ hr => XS.dconst0 X41.here hx rfl (hb hby at_164) (v := (0 : UInt64)) (by decide +kernel) hr) ?_
      show OwnR _ _ _ _ _ _ _ (T41.setTop (mkF m 165 #[.val (.int p1), .val (.int p2), .val (.int p3), .val (.int p4), .val (.int p5), .val (.int va), .val (.int vb), .val (.int vc), .val (.int (3 : Int32)), .val (.int (1 : Int32)), .unset, .unset, .unset, .unset, .unset] [(.double (0 : UInt64)), (.int (2 : Int32)), (.ref b39), (.ref b39), (.ref b35), (.ref b34), (.ref b34)]))
      obtain ⟨cl42, Ar42, q42, S42, N42q, H42, G42⟩ := id V41
      have hin42 : ¬ ((2 : Int32) < 0 ∨ cl42.slots.size ≤ ((2 : Int32)).toNatClampNeg) := (inb_of S42 ⟨by decide, by decide⟩)
      obtain ⟨T42, h42, X42, e42, W42, st42⟩ := stD X41 hx hZ e41 Ar42 (j := (2 : Int32)) hin42 (g := (mkF m 165 #[.val (.int p1), .val (.int p2), .val (.int p3), .val (.int p4), .val (.int p5), .val (.int va), .val (.int vb), .val (.int vc), .val (.int (3 : Int32)), .val (.int (1 : Int32)), .unset, .unset, .unset, .unset, .unset] [(.double (0 : UInt64)), (.int (2 : Int32)), (.ref b39), (.ref b39), (.ref b35), (.ref b34), (.ref b34)])) rfl rfl (hb hby at_165)
      refine OwnR.of (st42) ?_
      have V42 := Arv.set Ar42 q42 S42 N42q H42 G42 rfl W42 2 rfl (Nat.le_of_ble_eq_true rfl)
      have V42 : Arv Z h42 b39 k39 .double (3 : Int32) [(.double (0 : UInt64)), (.double (0 : UInt64)), (.double (0 : UInt64))] (.double (0 : UInt64)) := V42
      have K42 : Keep h0 h42 [] := Keep.wr K41 W42 (Or.inr sz_b39)
      have N42 := Fr.snoc X42 N41 gn_b39
      show OwnR _ _ _ _ _ _ _ (T42.setTop (mkF m 166 #[.val (.int p1), .val (.int p2), .val (.int p3), .val (.int p4), .val (.int p5), .val (.int va), .val (.int vb), .val (.int vc), .val (.int (3 : Int32)), .val (.int (1 : Int32)), .unset, .unset, .unset, .unset, .unset] [(.ref b39), (.ref b35), (.ref b34), (.ref b34)]))
      refine OwnR.of (fun _ hr => XS.aconstNull X42.here hx rfl (hb hby at_166) hr) ?_
      show OwnR _ _ _ _ _ _ _ (T42.setTop (mkF m 167 #[.val (.int p1), .val (.int p2), .val (.int p3), .val (.int p4), .val (.int p5), .val (.int va), .val (.int vb), .val (.int vc), .val (.int (3 : Int32)), .val (.int (1 : Int32)), .unset, .unset, .unset, .unset, .unset] [.null, (.ref b39), (.ref b35), (.ref b34), (.ref b34)]))
      obtain ⟨_, _, ⟨T43, L43, kc43, ns43⟩, -, X43, ⟨Lc43, hQ43, l43, y43, z43⟩, st43⟩ := X42.specialBack hx (y := (⟨"com/example/ramification/ramification/model/StrahlerOrders", "<init>", "([I[DLjava/util/Optional;)V"⟩ : MethodName)) rfl hown (mvT hZ (hw _ (List.mem_of_getElem? (i := 10) rfl))) (mvT hZ (hw _ (List.mem_of_getElem? (i := 11) rfl))) (mvT hZ (hw _ (List.mem_of_getElem? (i := 12) rfl))) (by decide) (backOf (W := 1) (rm2_3 l Z a0 hw [] b34 b35 b39 k35 k39 va vb vc h42 n0 (Nat.le_trans Z0 K42.1) (Exa.wr W42 (Exa.wr W41 (Exa.wr W40 (Exa.ext E39 (Exa.wr W38 (Exa.wr W37 (Exa.wr W36 (Exa.ext E35 A34)))))))) (Fld.other W42 (Fld.other W41 (Fld.other W40 (Fld.ext E39 (Fld.other W38 (Fld.other W37 (Fld.other W36 (Fld.ext E35 F_branches_b34) (Or.inl (Nat.ne_of_lt (Nat.lt_of_lt_of_le A34.lt (Nat.le_of_eq g35.symm))))) (Or.inl (Nat.ne_of_lt (Nat.lt_of_lt_of_le A34.lt (Nat.le_of_eq g35.symm))))) (Or.inl (Nat.ne_of_lt (Nat.lt_of_lt_of_le A34.lt (Nat.le_of_eq g35.symm)))))) (Or.inl (Nat.ne_of_lt (Nat.lt_of_lt_of_le (Exa.wr W38 (Exa.wr W37 (Exa.wr W36 (Exa.ext E35 A34)))).lt (Nat.le_of_eq g39.symm))))) (Or.inl (Nat.ne_of_lt (Nat.lt_of_lt_of_le (Exa.wr W38 (Exa.wr W37 (Exa.wr W36 (Exa.ext E35 A34)))).lt (Nat.le_of_eq g39.symm))))) (Or.inl (Nat.ne_of_lt (Nat.lt_of_lt_of_le (Exa.wr W38 (Exa.wr W37 (Exa.wr W36 (Exa.ext E35 A34)))).lt (Nat.le_of_eq g39.symm))))) (Fld.other W42 (Fld.other W41 (Fld.other W40 (Fld.ext E39 (Fld.other W38 (Fld.other W37 (Fld.other W36 (Fld.ext E35 F_lengths_b34) (Or.inl (Nat.ne_of_lt (Nat.lt_of_lt_of_le A34.lt (Nat.le_of_eq g35.symm))))) (Or.inl (Nat.ne_of_lt (Nat.lt_of_lt_of_le A34.lt (Nat.le_of_eq g35.symm))))) (Or.inl (Nat.ne_of_lt (Nat.lt_of_lt_of_le A34.lt (Nat.le_of_eq g35.symm)))))) (Or.inl (Nat.ne_of_lt (Nat.lt_of_lt_of_le (Exa.wr W38 (Exa.wr W37 (Exa.wr W36 (Exa.ext E35 A34)))).lt (Nat.le_of_eq g39.symm))))) (Or.inl (Nat.ne_of_lt (Nat.lt_of_lt_of_le (Exa.wr W38 (Exa.wr W37 (Exa.wr W36 (Exa.ext E35 A34)))).lt (Nat.le_of_eq g39.symm))))) (Or.inl (Nat.ne_of_lt (Nat.lt_of_lt_of_le (Exa.wr W38 (Exa.wr W37 (Exa.wr W36 (Exa.ext E35 A34)))).lt (Nat.le_of_eq g39.symm))))) (Fld.other W42 (Fld.other W41 (Fld.other W40 (Fld.ext E39 (Fld.other W38 (Fld.other W37 (Fld.other W36 (Fld.ext E35 F_unit_b34) (Or.inl (Nat.ne_of_lt (Nat.lt_of_lt_of_le A34.lt (Nat.le_of_eq g35.symm))))) (Or.inl (Nat.ne_of_lt (Nat.lt_of_lt_of_le A34.lt (Nat.le_of_eq g35.symm))))) (Or.inl (Nat.ne_of_lt (Nat.lt_of_lt_of_le A34.lt (Nat.le_of_eq g35.symm)))))) (Or.inl (Nat.ne_of_lt (Nat.lt_of_lt_of_le (Exa.wr W38 (Exa.wr W37 (Exa.wr W36 (Exa.ext E35 A34)))).lt (Nat.le_of_eq g39.symm))))) (Or.inl (Nat.ne_of_lt (Nat.lt_of_lt_of_le (Exa.wr W38 (Exa.wr W37 (Exa.wr W36 (Exa.ext E35 A34)))).lt (Nat.le_of_eq g39.symm))))) (Or.inl (Nat.ne_of_lt (Nat.lt_of_lt_of_le (Exa.wr W38 (Exa.wr W37 (Exa.wr W36 (Exa.ext E35 A34)))).lt (Nat.le_of_eq g39.symm))))) (Arv.other (Arv.other (Arv.other (Arv.ext V38 E39) W40 (Nat.ne_of_lt (Nat.lt_of_lt_of_le (Exa.wr W38 (Exa.wr W37 (Exa.wr W36 AE35))).lt (Nat.le_of_eq g39.symm)))) W41 (Nat.ne_of_lt (Nat.lt_of_lt_of_le (Exa.wr W38 (Exa.wr W37 (Exa.wr W36 AE35))).lt (Nat.le_of_eq g39.symm)))) W42 (Nat.ne_of_lt (Nat.lt_of_lt_of_le (Exa.wr W38 (Exa.wr W37 (Exa.wr W36 AE35))).lt (Nat.le_of_eq g39.symm)))) V42 (Exa.wr W42 (Exa.wr W41 (Exa.wr W40 (Exa.ext E39 (Exa.wr W38 (Exa.wr W37 (Exa.wr W36 AE35))))))) (Exa.wr W42 (Exa.wr W41 (Exa.wr W40 AE39))) gn_b34 (Nat.ne_of_lt (Nat.lt_of_lt_of_le A34.lt (Nat.le_of_eq g35.symm))) (Nat.ne_of_lt (Nat.lt_of_lt_of_le (Exa.wr W38 (Exa.wr W37 (Exa.wr W36 (Exa.ext E35 A34)))).lt (Nat.le_of_eq g39.symm))) hva1 hvb1 hvc1) hZ (hw _ (List.mem_of_getElem? (i := 12) rfl)) (hw _ (List.mem_of_getElem? (i := 7) rfl)) (by decide) (by decide)) (g := (mkF m 167 #[.val (.int p1), .val (.int p2), .val (.int p3), .val (.int p4), .val (.int p5), .val (.int va), .val (.int vb), .val (.int vc), .val (.int (3 : Int32)), .val (.int (1 : Int32)), .unset, .unset, .unset, .unset, .unset] [.null, (.ref b39), (.ref b35), (.ref b34), (.ref b34)])) rfl (by rw [hml]; rfl) (Steps.refl _) (a := b34) (argsL := [(.ref b35), (.ref b39), .null]) (rest := [(.ref b34)]) (lenOf pd___I_DLjava_util_Optional__V rfl) rfl (by show 2 * 0 + _ ≤ _; exact Nat.le_of_eq rfl) (hb hby at_167) (fun _ _ => ⟨rfl, e42, (by decide : 3 + 2 ≤ _), (by decide : 9 + 6 ≤ _)⟩)
      dsimp only [Pt.U, Pt.locs, Pt.cells, Pt.slots] at X43 l43 y43 z43 st43 hQ43
      rw [l43, y43, z43] at X43
      obtain ⟨bI_43, rfl, N43q, P43_0, P43_1, P43_2, P43_3⟩ := hQ43
      have K43 : Keep h0 T43.heap [] := Keep.trans K42 P43_0 (allS (Or.inr sz_b34) all0)
      have N43 := Fr.app N42 N43q
      refine OwnR.of (fun _ hr => st43.trans hr) ?_
      show OwnR _ _ _ _ _ _ _ (T43.setTop (mkF m 170 #[.val (.int p1), .val (.int p2), .val (.int p3), .val (.int p4), .val (.int p5), .val (.int va), .val (.int vb), .val (.int vc), .val (.int (3 : Int32)), .val (.int (1 : Int32)), .unset, .unset, .unset, .unset, .unset] [(.ref b34)]))
      refine OwnR.of (fun _ hr => XS.astore X43.here hx rfl (hb hby at_170) rfl rfl (l' := #[.val (.int p1), .val (.int p2), .val (.int p3), .val (.int p4), .val (.int p5), .val (.int va), .val (.int vb), .val (.int vc), .val (.int (3 : Int32)), .val (.int (1 : Int32)), .val (.ref b34), .unset, .unset, .unset, .unset]) rfl hr) ?_
      show OwnR _ _ _ _ _ _ _ (T43.setTop (mkF m 172 #[.val (.int p1), .val (.int p2), .val (.int p3), .val (.int p4), .val (.int p5), .val (.int va), .val (.int vb), .val (.int vc), .val (.int (3 : Int32)), .val (.int (1 : Int32)), .val (.ref b34), .unset, .unset, .unset, .unset] []))
      refine OwnR.of (fun _ hr => XS.aload X43.here hx rfl (hb hby at_172) rfl rfl hr) ?_
      show OwnR _ _ _ _ _ _ _ (T43.setTop (mkF m 174 #[.val (.int p1), .val (.int p2), .val (.int p3), .val (.int p4), .val (.int p5), .val (.int va), .val (.int vb), .val (.int vc), .val (.int (3 : Int32)), .val (.int (1 : Int32)), .val (.ref b34), .unset, .unset, .unset, .unset] [(.ref b34)]))
      refine OwnR.of (fun _ hr => XS.iload X43.here hx rfl (hb hby at_174) rfl hr) ?_
      show OwnR _ _ _ _ _ _ _ (T43.setTop (mkF m 176 #[.val (.int p1), .val (.int p2), .val (.int p3), .val (.int p4), .val (.int p5), .val (.int va), .val (.int vb), .val (.int vc), .val (.int (3 : Int32)), .val (.int (1 : Int32)), .val (.ref b34), .unset, .unset, .unset, .unset] [(.int (1 : Int32)), (.ref b34)]))
      obtain ⟨cq44, kq44, q44a, q44b, q44c⟩ := isOf hZ rfl P43_1
      obtain ⟨_, _, ⟨T44, L44, kc44, ns44⟩, -, X44, ⟨Lc44, hQ44, l44, y44, z44⟩, st44⟩ := X43.virtualBack hx (y := (⟨"com/example/ramification/ramification/model/StrahlerOrders", "getBifurcationRatio", "(I)D"⟩ : MethodName)) (z := (⟨"com/example/ramification/ramification/model/StrahlerOrders", "getBifurcationRatio", "(I)D"⟩ : MethodName)) hown (mvT hZ (hw _ (List.mem_of_getElem? (i := 37) rfl))) (mvT hZ (hw _ (List.mem_of_getElem? (i := 38) rfl))) (notFace_of_selects (args := #[]) (mvT hZ (hw _ (List.mem_of_getElem? (i := 40) rfl)))) (mvT hZ (hw _ (List.mem_of_getElem? (i := 40) rfl))) (mvT hZ (hw _ (List.mem_of_getElem? (i := 39) rfl))) (by decide) (backOf (W := 0) (rm4_3_1 l Z a0 hw [] b34 bI_43 k35 va vb vc (T43.heap) n0 (Nat.le_trans Z0 K43.1) P43_1 P43_2 P43_3 hvb1) hZ (hw _ (List.mem_of_getElem? (i := 41) rfl)) (hw _ (List.mem_of_getElem? (i := 7) rfl)) (by decide) (by decide)) q44a q44c (g := (mkF m 176 #[.val (.int p1), .val (.int p2), .val (.int p3), .val (.int p4), .val (.int p5), .val (.int va), .val (.int vb), .val (.int vc), .val (.int (3 : Int32)), .val (.int (1 : Int32)), .val (.ref b34), .unset, .unset, .unset, .unset] [(.int (1 : Int32)), (.ref b34)])) rfl (by rw [hml]; rfl) (Steps.refl _) (argsL := [(.int (1 : Int32))]) (rest := []) (lenOf pd__I_D rfl) rfl (by show 2 * 0 + _ ≤ _; exact Nat.le_of_eq rfl) (hb hby at_176) (fun _ _ => ⟨rfl, rfl, (by decide : 5 + 0 ≤ _), (by decide : 15 + 0 ≤ _)⟩)
      dsimp only [Pt.U, Pt.locs, Pt.cells, Pt.slots] at X44 l44 y44 z44 st44 hQ44
      rw [l44, y44, z44] at X44
      obtain ⟨rfl, N44q, e44⟩ := hQ44
      have N44 := Fr.app N43 N44q
      refine OwnR.of (fun _ hr => st44.trans hr) ?_
      show OwnR _ _ _ _ _ _ _ (T44.setTop (mkF m 179 #[.val (.int p1), .val (.int p2), .val (.int p3), .val (.int p4), .val (.int p5), .val (.int va), .val (.int vb), .val (.int vc), .val (.int (3 : Int32)), .val (.int (1 : Int32)), .val (.ref b34), .unset, .unset, .unset, .unset] [(.double (FP.ddiv (FP.i2d va) (FP.i2d vb)))]))
      refine OwnR.of (fun _ hr => XS.dstore X44.here hx rfl (hb hby at_179) rfl (l' := #[.val (.int p1), .val (.int p2), .val (.int p3), .val (.int p4), .val (.int p5), .val (.int va), .val (.int vb), .val (.int vc), .val (.int (3 : Int32)), .val (.int (1 : Int32)), .val (.ref b34), .val (.double (FP.ddiv (FP.i2d va) (FP.i2d vb))), .second, .unset, .unset]) rfl hr) ?_
      show OwnR _ _ _ _ _ _ _ (T44.setTop (mkF m 181 #[.val (.int p1), .val (.int p2), .val (.int p3), .val (.int p4), .val (.int p5), .val (.int va), .val (.int vb), .val (.int vc), .val (.int (3 : Int32)), .val (.int (1 : Int32)), .val (.ref b34), .val (.double (FP.ddiv (FP.i2d va) (FP.i2d vb))), .second, .unset, .unset] []))
      refine OwnR.of (fun _ hr => XS.iload X44.here hx rfl (hb hby at_181) rfl hr) ?_
      show OwnR _ _ _ _ _ _ _ (T44.setTop (mkF m 183 #[.val (.int p1), .val (.int p2), .val (.int p3), .val (.int p4), .val (.int p5), .val (.int va), .val (.int vb), .val (.int vc), .val (.int (3 : Int32)), .val (.int (1 : Int32)), .val (.ref b34), .val (.double (FP.ddiv (FP.i2d va) (FP.i2d vb))), .second, .unset, .unset] [(.int (1 : Int32))]))
      refine OwnR.of (fun _ hr => XS.iload X44.here hx rfl (hb hby at_183) rfl hr) ?_
      show OwnR _ _ _ _ _ _ _ (T44.setTop (mkF m 185 #[.val (.int p1), .val (.int p2), .val (.int p3), .val (.int p4), .val (.int p5), .val (.int va), .val (.int vb), .val (.int vc), .val (.int (3 : Int32)), .val (.int (1 : Int32)), .val (.ref b34), .val (.double (FP.ddiv (FP.i2d va) (FP.i2d vb))), .second, .unset, .unset] [(.int (3 : Int32)), (.int (1 : Int32))]))
      refine OwnR.of (fun _ hr => XS.icmpYes X44.here hx rfl (pc0 := 185) (pc' := 202) rfl (hb hby at_185) rfl (feq (by decide : ¬ ((1 : Int32) = (3 : Int32)))).2 (by decide) (by decide) hr) ?_
      show OwnR _ _ _ _ _ _ _ (T44.setTop (mkF m 202 #[.val (.int p1), .val (.int p2), .val (.int p3), .val (.int p4), .val (.int p5), .val (.int va), .val (.int vb), .val (.int vc), .val (.int (3 : Int32)), .val (.int (1 : Int32)), .val (.ref b34), .val (.double (FP.ddiv (FP.i2d va) (FP.i2d vb))), .second, .unset, .unset] []))
      refine OwnR.of (fun _ hr => XS.iload X44.here hx rfl (hb hby at_202) rfl hr) ?_
      show OwnR _ _ _ _ _ _ _ (T44.setTop (mkF m 204 #[.val (.int p1), .val (.int p2), .val (.int p3), .val (.int p4), .val (.int p5), .val (.int va), .val (.int vb), .val (.int vc), .val (.int (3 : Int32)), .val (.int (1 : Int32)), .val (.ref b34), .val (.double (FP.ddiv (FP.i2d va) (FP.i2d vb))), .second, .unset, .unset] [(.int (1 : Int32))]))
      refine OwnR.of (fun _ hr => XS.iconst X44.here hx rfl (hb hby at_204) hr) ?_
      show OwnR _ _ _ _ _ _ _ (T44.setTop (mkF m 205 #[.val (.int p1), .val (.int p2), .val (.int p3), .val (.int p4), .val (.int p5), .val (.int va), .val (.int vb), .val (.int vc), .val (.int (3 : Int32)), .val (.int (1 : Int32)), .val (.ref b34), .val (.double (FP.ddiv (FP.i2d va) (FP.i2d vb))), .second, .unset, .unset] [(.int (1 : Int32)), (.int (1 : Int32))]))
      refine OwnR.of (fun _ hr => XS.icmpNo X44.here hx rfl (hb hby at_205) rfl (teq (by decide : (1 : Int32) = (1 : Int32))).2 hr) ?_
      show OwnR _ _ _ _ _ _ _ (T44.setTop (mkF m 208 #[.val (.int p1), .val (.int p2), .val (.int p3), .val (.int p4), .val (.int p5), .val (.int va), .val (.int vb), .val (.int vc), .val (.int (3 : Int32)), .val (.int (1 : Int32)), .val (.ref b34), .val (.double (FP.ddiv (FP.i2d va) (FP.i2d vb))), .second, .unset, .unset] []))
      refine OwnR.of (fun _ hr => XS.iload X44.here hx rfl (hb hby at_208) rfl hr) ?_
      show OwnR _ _ _ _ _ _ _ (T44.setTop (mkF m 210 #[.val (.int p1), .val (.int p2), .val (.int p3), .val (.int p4), .val (.int p5), .val (.int va), .val (.int vb), .val (.int vc), .val (.int (3 : Int32)), .val (.int (1 : Int32)), .val (.ref b34), .val (.double (FP.ddiv (FP.i2d va) (FP.i2d vb))), .second, .unset, .unset] [(.int va)]))
      refine OwnR.of (fun _ hr => XS.i2dS X44.here hx rfl (hb hby at_210) rfl rfl hr) ?_
      show OwnR _ _ _ _ _ _ _ (T44.setTop (mkF m 211 #[.val (.int p1), .val (.int p2), .val (.int p3), .val (.int p4), .val (.int p5), .val (.int va), .val (.int vb), .val (.int vc), .val (.int (3 : Int32)), .val (.int (1 : Int32)), .val (.ref b34), .val (.double (FP.ddiv (FP.i2d va) (FP.i2d vb))), .second, .unset, .unset] [(.double (FP.i2d va))]))
      refine OwnR.of (fun _ hr => XS.iload X44.here hx rfl (hb hby at_211) rfl hr) ?_
      show OwnR _ _ _ _ _ _ _ (T44.setTop (mkF m 213 #[.val (.int p1), .val (.int p2), .val (.int p3), .val (.int p4), .val (.int p5), .val (.int va), .val (.int vb), .val (.int vc), .val (.int (3 : Int32)), .val (.int (1 : Int32)), .val (.ref b34), .val (.double (FP.ddiv (FP.i2d va) (FP.i2d vb))), .second, .unset, .unset] [(.int vb), (.double (FP.i2d va))]))
      refine OwnR.of (fun _ hr => XS.i2dS X44.here hx rfl (hb hby at_213) rfl rfl hr) ?_
      show OwnR _ _ _ _ _ _ _ (T44.setTop (mkF m 214 #[.val (.int p1), .val (.int p2), .val (.int p3), .val (.int p4), .val (.int p5), .val (.int va), .val (.int vb), .val (.int vc), .val (.int (3 : Int32)), .val (.int (1 : Int32)), .val (.ref b34), .val (.double (FP.ddiv (FP.i2d va) (FP.i2d vb))), .second, .unset, .unset] [(.double (FP.i2d vb)), (.double (FP.i2d va))]))
      refine OwnR.of (fun _ hr => XS.ddivS X44.here hx rfl (hb hby at_214) rfl (own_nn va hvb1) rfl hr) ?_
      show OwnR _ _ _ _ _ _ _ (T44.setTop (mkF m 215 #[.val (.int p1), .val (.int p2), .val (.int p3), .val (.int p4), .val (.int p5), .val (.int va), .val (.int vb), .val (.int vc), .val (.int (3 : Int32)), .val (.int (1 : Int32)), .val (.ref b34), .val (.double (FP.ddiv (FP.i2d va) (FP.i2d vb))), .second, .unset, .unset] [(.double (FP.ddiv (FP.i2d va) (FP.i2d vb)))]))
      refine OwnR.of (fun _ hr => XS.dstore X44.here hx rfl (hb hby at_215) rfl (l' := #[.val (.int p1), .val (.int p2), .val (.int p3), .val (.int p4), .val (.int p5), .val (.int va), .val (.int vb), .val (.int vc), .val (.int (3 : Int32)), .val (.int (1 : Int32)), .val (.ref b34), .val (.double (FP.ddiv (FP.i2d va) (FP.i2d vb))), .second, .val (.double (FP.ddiv (FP.i2d va) (FP.i2d vb))), .second]) rfl hr) ?_
      show OwnR _ _ _ _ _ _ _ (T44.setTop (mkF m 217 #[.val (.int p1), .val (.int p2), .val (.int p3), .val (.int p4), .val (.int p5), .val (.int va), .val (.int vb), .val (.int vc), .val (.int (3 : Int32)), .val (.int (1 : Int32)), .val (.ref b34), .val (.double (FP.ddiv (FP.i2d va) (FP.i2d vb))), .second, .val (.double (FP.ddiv (FP.i2d va) (FP.i2d vb))), .second] []))
      refine OwnR.of (fun _ hr => XS.goto X44.here hx rfl (pc0 := 217) (pc' := 229) rfl (hb hby at_217) (by decide) (by decide) hr) ?_
      show OwnR _ _ _ _ _ _ _ (T44.setTop (mkF m 229 #[.val (.int p1), .val (.int p2), .val (.int p3), .val (.int p4), .val (.int p5), .val (.int va), .val (.int vb), .val (.int vc), .val (.int (3 : Int32)), .val (.int (1 : Int32)), .val (.ref b34), .val (.double (FP.ddiv (FP.i2d va) (FP.i2d vb))), .second, .val (.double (FP.ddiv (FP.i2d va) (FP.i2d vb))), .second] []))
      refine OwnR.of (fun _ hr => XS.dload X44.here hx rfl (hb hby at_229) rfl hr) ?_
      show OwnR _ _ _ _ _ _ _ (T44.setTop (mkF m 231 #[.val (.int p1), .val (.int p2), .val (.int p3), .val (.int p4), .val (.int p5), .val (.int va), .val (.int vb), .val (.int vc), .val (.int (3 : Int32)), .val (.int (1 : Int32)), .val (.ref b34), .val (.double (FP.ddiv (FP.i2d va) (FP.i2d vb))), .second, .val (.double (FP.ddiv (FP.i2d va) (FP.i2d vb))), .second] [(.double (FP.ddiv (FP.i2d va) (FP.i2d vb)))]))
      refine OwnR.of (fun _ hr => XS.dload X44.here hx rfl (hb hby at_231) rfl hr) ?_
      show OwnR _ _ _ _ _ _ _ (T44.setTop (mkF m 233 #[.val (.int p1), .val (.int p2), .val (.int p3), .val (.int p4), .val (.int p5), .val (.int va), .val (.int vb), .val (.int vc), .val (.int (3 : Int32)), .val (.int (1 : Int32)), .val (.ref b34), .val (.double (FP.ddiv (FP.i2d va) (FP.i2d vb))), .second, .val (.double (FP.ddiv (FP.i2d va) (FP.i2d vb))), .second] [(.double (FP.ddiv (FP.i2d va) (FP.i2d vb))), (.double (FP.ddiv (FP.i2d va) (FP.i2d vb)))]))
      refine OwnR.of (fun _ hr => XS.dcmpS (v := (0 : Int32)) X44.here hx rfl (hb hby at_233) rfl (dcmpV_self (own_nn va hvb1) .l) hr) ?_
      show OwnR _ _ _ _ _ _ _ (T44.setTop (mkF m 234 #[.val (.int p1), .val (.int p2), .val (.int p3), .val (.int p4), .val (.int p5), .val (.int va), .val (.int vb), .val (.int vc), .val (.int (3 : Int32)), .val (.int (1 : Int32)), .val (.ref b34), .val (.double (FP.ddiv (FP.i2d va) (FP.i2d vb))), .second, .val (.double (FP.ddiv (FP.i2d va) (FP.i2d vb))), .second] [(.int (0 : Int32))]))
      refine OwnR.of (fun _ hr => XS.ifNo X44.here hx rfl (hb hby at_234) rfl ((if0 _ _).trans (teq (by decide : (0 : Int32) = (0 : Int32))).2) hr) ?_
      show OwnR _ _ _ _ _ _ _ (T44.setTop (mkF m 237 #[.val (.int p1), .val (.int p2), .val (.int p3), .val (.int p4), .val (.int p5), .val (.int va), .val (.int vb), .val (.int vc), .val (.int (3 : Int32)), .val (.int (1 : Int32)), .val (.ref b34), .val (.double (FP.ddiv (FP.i2d va) (FP.i2d vb))), .second, .val (.double (FP.ddiv (FP.i2d va) (FP.i2d vb))), .second] []))
      refine OwnR.of (fun _ hr => XS.iconst X44.here hx rfl (hb hby at_237) hr) ?_
      show OwnR _ _ _ _ _ _ _ (T44.setTop (mkF m 238 #[.val (.int p1), .val (.int p2), .val (.int p3), .val (.int p4), .val (.int p5), .val (.int va), .val (.int vb), .val (.int vc), .val (.int (3 : Int32)), .val (.int (1 : Int32)), .val (.ref b34), .val (.double (FP.ddiv (FP.i2d va) (FP.i2d vb))), .second, .val (.double (FP.ddiv (FP.i2d va) (FP.i2d vb))), .second] [(.int (1 : Int32))]))
      refine OwnR.of (fun _ hr => XS.goto X44.here hx rfl (pc0 := 238) (pc' := 242) rfl (hb hby at_238) (by decide) (by decide) hr) ?_
      show OwnR _ _ _ _ _ _ _ (T44.setTop (mkF m 242 #[.val (.int p1), .val (.int p2), .val (.int p3), .val (.int p4), .val (.int p5), .val (.int va), .val (.int vb), .val (.int vc), .val (.int (3 : Int32)), .val (.int (1 : Int32)), .val (.ref b34), .val (.double (FP.ddiv (FP.i2d va) (FP.i2d vb))), .second, .val (.double (FP.ddiv (FP.i2d va) (FP.i2d vb))), .second] [(.int (1 : Int32))]))
      refine own_leafN X44 hx hlk (t := .boolean) Bd.returns (by simp) (hb hby at_242) (z' := (1 : Int32)) rfl (by decide) (by decide) ?_
      show Q0 Z  h0 n0 _ T44.heap _
      rw [show T44.heap = T43.heap from e44]
      refine ⟨?_, N44⟩
      show (some (.int (1 : Int32)) : Option Value) = some (.int (1 : Int32))
      rfl
    · skip
      show OwnR _ _ _ _ _ _ _ (T8.setTop (mkF m 52 #[.val (.int p1), .val (.int p2), .val (.int p3), .val (.int p4), .val (.int p5), .val (.int va), .val (.int vb), .val (.int vc), .val (.int (3 : Int32)), .val (.int (2 : Int32)), .unset, .unset, .unset, .unset, .unset] []))
      refine OwnR.of (fun _ hr => XS.iload X8.here hx rfl (hb hby at_52) rfl hr) ?_
      show OwnR _ _ _ _ _ _ _ (T8.setTop (mkF m 54 #[.val (.int p1), .val (.int p2), .val (.int p3), .val (.int p4), .val (.int p5), .val (.int va), .val (.int vb), .val (.int vc), .val (.int (3 : Int32)), .val (.int (2 : Int32)), .unset, .unset, .unset, .unset, .unset] [(.int (3 : Int32))]))
      refine OwnR.of (fun _ hr => XS.iconst X8.here hx rfl (hb hby at_54) hr) ?_
      show OwnR _ _ _ _ _ _ _ (T8.setTop (mkF m 55 #[.val (.int p1), .val (.int p2), .val (.int p3), .val (.int p4), .val (.int p5), .val (.int va), .val (.int vb), .val (.int vc), .val (.int (3 : Int32)), .val (.int (2 : Int32)), .unset, .unset, .unset, .unset, .unset] [(.int (1 : Int32)), (.int (3 : Int32))]))
      refine OwnR.of (fun _ hr => XS.icmpYes X8.here hx rfl (pc0 := 55) (pc' := 86) rfl (hb hby at_55) rfl (feq (by decide : ¬ ((3 : Int32) = (1 : Int32)))).2 (by decide) (by decide) hr) ?_
      show OwnR _ _ _ _ _ _ _ (T8.setTop (mkF m 86 #[.val (.int p1), .val (.int p2), .val (.int p3), .val (.int p4), .val (.int p5), .val (.int va), .val (.int vb), .val (.int vc), .val (.int (3 : Int32)), .val (.int (2 : Int32)), .unset, .unset, .unset, .unset, .unset] []))
      refine OwnR.of (fun _ hr => XS.iload X8.here hx rfl (hb hby at_86) rfl hr) ?_
      show OwnR _ _ _ _ _ _ _ (T8.setTop (mkF m 88 #[.val (.int p1), .val (.int p2), .val (.int p3), .val (.int p4), .val (.int p5), .val (.int va), .val (.int vb), .val (.int vc), .val (.int (3 : Int32)), .val (.int (2 : Int32)), .unset, .unset, .unset, .unset, .unset] [(.int (3 : Int32))]))
      refine OwnR.of (fun _ hr => XS.iconst X8.here hx rfl (hb hby at_88) hr) ?_
      show OwnR _ _ _ _ _ _ _ (T8.setTop (mkF m 89 #[.val (.int p1), .val (.int p2), .val (.int p3), .val (.int p4), .val (.int p5), .val (.int va), .val (.int vb), .val (.int vc), .val (.int (3 : Int32)), .val (.int (2 : Int32)), .unset, .unset, .unset, .unset, .unset] [(.int (2 : Int32)), (.int (3 : Int32))]))
      refine OwnR.of (fun _ hr => XS.icmpYes X8.here hx rfl (pc0 := 89) (pc' := 129) rfl (hb hby at_89) rfl (feq (by decide : ¬ ((3 : Int32) = (2 : Int32)))).2 (by decide) (by decide) hr) ?_
      show OwnR _ _ _ _ _ _ _ (T8.setTop (mkF m 129 #[.val (.int p1), .val (.int p2), .val (.int p3), .val (.int p4), .val (.int p5), .val (.int va), .val (.int vb), .val (.int vc), .val (.int (3 : Int32)), .val (.int (2 : Int32)), .unset, .unset, .unset, .unset, .unset] []))
      obtain ⟨T45, h45, X45, e45, E45, A45, D45, -, st45⟩ := newO X8 hx hZ hown (hw _ (List.mem_of_getElem? (i := 5) rfl)) (hw _ (List.mem_of_getElem? (i := 6) rfl)) (hw _ (List.mem_of_getElem? (i := 7) rfl)) e8 (g := (mkF m 129 #[.val (.int p1), .val (.int p2), .val (.int p3), .val (.int p4), .val (.int p5), .val (.int va), .val (.int vb), .val (.int vc), .val (.int (3 : Int32)), .val (.int (2 : Int32)), .unset, .unset, .unset, .unset, .unset] [])) rfl (hb hby at_129) (by decide) (by decide)
      obtain ⟨b45, g45⟩ : ∃ z, z = h0.size := ⟨_, rfl⟩
      rw [← g45] at A45 D45 st45
      refine OwnR.of (st45) ?_
      have gn_b45 : n0 ≤ b45 := Nat.le_trans (Nat.le_trans Z0 (Keep.refl h0 []).1) (Nat.le_of_eq g45.symm)
      have sz_b45 : h0.size ≤ b45 := Nat.le_trans (Keep.refl h0 []).1 (Nat.le_of_eq g45.symm)
      have K45 : Keep h0 h45 [] := Keep.ext (Keep.refl h0 []) E45
      have F_branches_b45 : Fld Z h45 b45 "com/example/ramification/ramification/model/StrahlerOrders" "branches" "[I" .null := D45 (Or.inr (hw _ (List.mem_of_getElem? (i := 26) rfl))) (ty := (.array .int)) (by decide)
      have F_lengths_b45 : Fld Z h45 b45 "com/example/ramification/ramification/model/StrahlerOrders" "lengths" "[D" .null := D45 (Or.inr (hw _ (List.mem_of_getElem? (i := 34) rfl))) (ty := (.array .double)) (by decide)
      have F_unit_b45 : Fld Z h45 b45 "com/example/ramification/ramification/model/StrahlerOrders" "unit" "Ljava/util/Optional;" .null := D45 (Or.inr (hw _ (List.mem_of_getElem? (i := 36) rfl))) (ty := (.object "java/util/Optional")) (by decide)
      show OwnR _ _ _ _ _ _ _ (T45.setTop (mkF m 132 #[.val (.int p1), .val (.int p2), .val (.int p3), .val (.int p4), .val (.int p5), .val (.int va), .val (.int vb), .val (.int vc), .val (.int (3 : Int32)), .val (.int (2 : Int32)), .unset, .unset, .unset, .unset, .unset] [(.ref b45)]))
      refine OwnR.of (fun _ hr => XS.dup X45.here hx rfl (hb hby at_132) rfl rfl hr) ?_
      show OwnR _ _ _ _ _ _ _ (T45.setTop (mkF m 133 #[.val (.int p1), .val (.int p2), .val (.int p3), .val (.int p4), .val (.int p5), .val (.int va), .val (.int vb), .val (.int vc), .val (.int (3 : Int32)), .val (.int (2 : Int32)), .unset, .unset, .unset, .unset, .unset] [(.ref b45), (.ref b45)]))
      refine OwnR.of (fun _ hr => XS.iconst X45.here hx rfl (hb hby at_133) hr) ?_
      show OwnR _ _ _ _ _ _ _ (T45.setTop (mkF m 134 #[.val (.int p1), .val (.int p2), .val (.int p3), .val (.int p4), .val (.int p5), .val (.int va), .val (.int vb), .val (.int vc), .val (.int (3 : Int32)), .val (.int (2 : Int32)), .unset, .unset, .unset, .unset, .unset] [(.int (3 : Int32)), (.ref b45), (.ref b45)]))
      obtain ⟨T46, h46, k46, X46, e46, E46, A46, AE46, st46⟩ := newPE X45 hx hZ (hw _ (List.mem_of_getElem? (i := 8) rfl)) e45 (g := (mkF m 134 #[.val (.int p1), .val (.int p2), .val (.int p3), .val (.int p4), .val (.int p5), .val (.int va), .val (.int vb), .val (.int vc), .val (.int (3 : Int32)), .val (.int (2 : Int32)), .unset, .unset, .unset, .unset, .unset] [(.int (3 : Int32)), (.ref b45), (.ref b45)])) rfl (hb hby at_134) rfl (by decide) (cap := 3) (by decide) (by decide) (by decide) (by decide) (ad := "[I") rfl
      obtain ⟨b46, g46⟩ : ∃ z, z = h45.size := ⟨_, rfl⟩
      rw [← g46] at A46 AE46 st46
      refine OwnR.of (st46) ?_
      have gn_b46 : n0 ≤ b46 := Nat.le_trans (Nat.le_trans Z0 K45.1) (Nat.le_of_eq g46.symm)
      have sz_b46 : h0.size ≤ b46 := Nat.le_trans K45.1 (Nat.le_of_eq g46.symm)
      have K46 : Keep h0 h46 [] := Keep.ext K45 E46
      have V46 : Arv Z h46 b46 k46 .int (3 : Int32) [(.int (0 : Int32)), (.int (0 : Int32)), (.int (0 : Int32))] (.int (0 : Int32)) := (Arv.new A46 (by decide)).pad (pad_rep [] (.int (0 : Int32)) 3)
      show OwnR _ _ _ _ _ _ _ (T46.setTop (mkF m 136 #[.val (.int p1), .val (.int p2), .val (.int p3), .val (.int p4), .val (.int p5), .val (.int va), .val (.int vb), .val (.int vc), .val (.int (3 : Int32)), .val (.int (2 : Int32)), .unset, .unset, .unset, .unset, .unset] [(.ref b46), (.ref b45), (.ref b45)]))
      refine OwnR.of (fun _ hr => XS.dup X46.here hx rfl (hb hby at_136) rfl rfl hr) ?_
      show OwnR _ _ _ _ _ _ _ (T46.setTop (mkF m 137 #[.val (.int p1), .val (.int p2), .val (.int p3), .val (.int p4), .val (.int p5), .val (.int va), .val (.int vb), .val (.int vc), .val (.int (3 : Int32)), .val (.int (2 : Int32)), .unset, .unset, .unset, .unset, .unset] [(.ref b46), (.ref b46), (.ref b45), (.ref b45)]))
      refine OwnR.of (fun _ hr => XS.iconst X46.here hx rfl (hb hby at_137) hr) ?_
      show OwnR _ _ _ _ _ _ _ (T46.setTop (mkF m 138 #[.val (.int p1), .val (.int p2), .val (.int p3), .val (.int p4), .val (.int p5), .val (.int va), .val (.int vb), .val (.int vc), .val (.int (3 : Int32)), .val (.int (2 : Int32)), .unset, .unset, .unset, .unset, .unset] [(.int (0 : Int32)), (.ref b46), (.ref b46), (.ref b45), (.ref b45)]))
      refine OwnR.of (fun _ hr => XS.iload X46.here hx rfl (hb hby at_138) rfl hr) ?_
      show OwnR _ _ _ _ _ _ _ (T46.setTop (mkF m 140 #[.val (.int p1), .val (.int p2), .val (.int p3), .val (.int p4), .val (.int p5), .val (.int va), .val (.int vb), .val (.int vc), .val (.int (3 : Int32)), .val (.int (2 : Int32)), .unset, .unset, .unset, .unset, .unset] [(.int va), (.int (0 : Int32)), (.ref b46), (.ref b46), (.ref b45), (.ref b45)]))
      obtain ⟨cl47, Ar47, q47, S47, N47q, H47, G47⟩ := id V46
      have hin47 : ¬ ((0 : Int32) < 0 ∨ cl47.slots.size ≤ ((0 : Int32)).toNatClampNeg) := (inb_of S47 ⟨by decide, by decide⟩)
      obtain ⟨T47, h47, X47, e47, W47, st47⟩ := stI X46 hx hZ e46 Ar47 (j := (0 : Int32)) hin47 (g := (mkF m 140 #[.val (.int p1), .val (.int p2), .val (.int p3), .val (.int p4), .val (.int p5), .val (.int va), .val (.int vb), .val (.int vc), .val (.int (3 : Int32)), .val (.int (2 : Int32)), .unset, .unset, .unset, .unset, .unset] [(.int va), (.int (0 : Int32)), (.ref b46), (.ref b46), (.ref b45), (.ref b45)])) rfl rfl (hb hby at_140)
      refine OwnR.of (st47) ?_
      have V47 := Arv.set Ar47 q47 S47 N47q H47 G47 rfl W47 0 rfl (Nat.le_of_ble_eq_true rfl)
      have V47 : Arv Z h47 b46 k46 .int (3 : Int32) [(.int va), (.int (0 : Int32)), (.int (0 : Int32))] (.int (0 : Int32)) := V47
      have K47 : Keep h0 h47 [] := Keep.wr K46 W47 (Or.inr sz_b46)
      have N47 := Fr.snoc X47 N8 gn_b46
      show OwnR _ _ _ _ _ _ _ (T47.setTop (mkF m 141 #[.val (.int p1), .val (.int p2), .val (.int p3), .val (.int p4), .val (.int p5), .val (.int va), .val (.int vb), .val (.int vc), .val (.int (3 : Int32)), .val (.int (2 : Int32)), .unset, .unset, .unset, .unset, .unset] [(.ref b46), (.ref b45), (.ref b45)]))
      refine OwnR.of (fun _ hr => XS.dup X47.here hx rfl (hb hby at_141) rfl rfl hr) ?_
      show OwnR _ _ _ _ _ _ _ (T47.setTop (mkF m 142 #[.val (.int p1), .val (.int p2), .val (.int p3), .val (.int p4), .val (.int p5), .val (.int va), .val (.int vb), .val (.int vc), .val (.int (3 : Int32)), .val (.int (2 : Int32)), .unset, .unset, .unset, .unset, .unset] [(.ref b46), (.ref b46), (.ref b45), (.ref b45)]))
      refine OwnR.of (fun _ hr => XS.iconst X47.here hx rfl (hb hby at_142) hr) ?_
      show OwnR _ _ _ _ _ _ _ (T47.setTop (mkF m 143 #[.val (.int p1), .val (.int p2), .val (.int p3), .val (.int p4), .val (.int p5), .val (.int va), .val (.int vb), .val (.int vc), .val (.int (3 : Int32)), .val (.int (2 : Int32)), .unset, .unset, .unset, .unset, .unset] [(.int (1 : Int32)), (.ref b46), (.ref b46), (.ref b45), (.ref b45)]))
      refine OwnR.of (fun _ hr => XS.iload X47.here hx rfl (hb hby at_143) rfl hr) ?_
      show OwnR _ _ _ _ _ _ _ (T47.setTop (mkF m 145 #[.val (.int p1), .val (.int p2), .val (.int p3), .val (.int p4), .val (.int p5), .val (.int va), .val (.int vb), .val (.int vc), .val (.int (3 : Int32)), .val (.int (2 : Int32)), .unset, .unset, .unset, .unset, .unset] [(.int vb), (.int (1 : Int32)), (.ref b46), (.ref b46), (.ref b45), (.ref b45)]))
      obtain ⟨cl48, Ar48, q48, S48, N48q, H48, G48⟩ := id V47
      have hin48 : ¬ ((1 : Int32) < 0 ∨ cl48.slots.size ≤ ((1 : Int32)).toNatClampNeg) := (inb_of S48 ⟨by decide, by decide⟩)
      obtain ⟨T48, h48, X48, e48, W48, st48⟩ := stI X47 hx hZ e47 Ar48 (j := (1 : Int32)) hin48 (g := (mkF m 145 #[.val (.int p1), .val (.int p2), .val (.int p3), .val (.int p4), .val (.int p5), .val (.int va), .val (.int vb), .val (.int vc), .val (.int (3 : Int32)), .val (.int (2 : Int32)), .unset, .unset, .unset, .unset, .unset] [(.int vb), (.int (1 : Int32)), (.ref b46), (.ref b46), (.ref b45), (.ref b45)])) rfl rfl (hb hby at_145)
      refine OwnR.of (st48) ?_
      have V48 := Arv.set Ar48 q48 S48 N48q H48 G48 rfl W48 1 rfl (Nat.le_of_ble_eq_true rfl)
      have V48 : Arv Z h48 b46 k46 .int (3 : Int32) [(.int va), (.int vb), (.int (0 : Int32))] (.int (0 : Int32)) := V48
      have K48 : Keep h0 h48 [] := Keep.wr K47 W48 (Or.inr sz_b46)
      have N48 := Fr.snoc X48 N47 gn_b46
      show OwnR _ _ _ _ _ _ _ (T48.setTop (mkF m 146 #[.val (.int p1), .val (.int p2), .val (.int p3), .val (.int p4), .val (.int p5), .val (.int va), .val (.int vb), .val (.int vc), .val (.int (3 : Int32)), .val (.int (2 : Int32)), .unset, .unset, .unset, .unset, .unset] [(.ref b46), (.ref b45), (.ref b45)]))
      refine OwnR.of (fun _ hr => XS.dup X48.here hx rfl (hb hby at_146) rfl rfl hr) ?_
      show OwnR _ _ _ _ _ _ _ (T48.setTop (mkF m 147 #[.val (.int p1), .val (.int p2), .val (.int p3), .val (.int p4), .val (.int p5), .val (.int va), .val (.int vb), .val (.int vc), .val (.int (3 : Int32)), .val (.int (2 : Int32)), .unset, .unset, .unset, .unset, .unset] [(.ref b46), (.ref b46), (.ref b45), (.ref b45)]))
      refine OwnR.of (fun _ hr => XS.iconst X48.here hx rfl (hb hby at_147) hr) ?_
      show OwnR _ _ _ _ _ _ _ (T48.setTop (mkF m 148 #[.val (.int p1), .val (.int p2), .val (.int p3), .val (.int p4), .val (.int p5), .val (.int va), .val (.int vb), .val (.int vc), .val (.int (3 : Int32)), .val (.int (2 : Int32)), .unset, .unset, .unset, .unset, .unset] [(.int (2 : Int32)), (.ref b46), (.ref b46), (.ref b45), (.ref b45)]))
      refine OwnR.of (fun _ hr => XS.iload X48.here hx rfl (hb hby at_148) rfl hr) ?_
      show OwnR _ _ _ _ _ _ _ (T48.setTop (mkF m 150 #[.val (.int p1), .val (.int p2), .val (.int p3), .val (.int p4), .val (.int p5), .val (.int va), .val (.int vb), .val (.int vc), .val (.int (3 : Int32)), .val (.int (2 : Int32)), .unset, .unset, .unset, .unset, .unset] [(.int vc), (.int (2 : Int32)), (.ref b46), (.ref b46), (.ref b45), (.ref b45)]))
      obtain ⟨cl49, Ar49, q49, S49, N49q, H49, G49⟩ := id V48
      have hin49 : ¬ ((2 : Int32) < 0 ∨ cl49.slots.size ≤ ((2 : Int32)).toNatClampNeg) := (inb_of S49 ⟨by decide, by decide⟩)
      obtain ⟨T49, h49, X49, e49, W49, st49⟩ := stI X48 hx hZ e48 Ar49 (j := (2 : Int32)) hin49 (g := (mkF m 150 #[.val (.int p1), .val (.int p2), .val (.int p3), .val (.int p4), .val (.int p5), .val (.int va), .val (.int vb), .val (.int vc), .val (.int (3 : Int32)), .val (.int (2 : Int32)), .unset, .unset, .unset, .unset, .unset] [(.int vc), (.int (2 : Int32)), (.ref b46), (.ref b46), (.ref b45), (.ref b45)])) rfl rfl (hb hby at_150)
      refine OwnR.of (st49) ?_
      have V49 := Arv.set Ar49 q49 S49 N49q H49 G49 rfl W49 2 rfl (Nat.le_of_ble_eq_true rfl)
      have V49 : Arv Z h49 b46 k46 .int (3 : Int32) [(.int va), (.int vb), (.int vc)] (.int (0 : Int32)) := V49
      have K49 : Keep h0 h49 [] := Keep.wr K48 W49 (Or.inr sz_b46)
      have N49 := Fr.snoc X49 N48 gn_b46
      show OwnR _ _ _ _ _ _ _ (T49.setTop (mkF m 151 #[.val (.int p1), .val (.int p2), .val (.int p3), .val (.int p4), .val (.int p5), .val (.int va), .val (.int vb), .val (.int vc), .val (.int (3 : Int32)), .val (.int (2 : Int32)), .unset, .unset, .unset, .unset, .unset] [(.ref b46), (.ref b45), (.ref b45)]))
      refine OwnR.of (fun _ hr => XS.iconst X49.here hx rfl (hb hby at_151) hr) ?_
      show OwnR _ _ _ _ _ _ _ (T49.setTop (mkF m 152 #[.val (.int p1), .val (.int p2), .val (.int p3), .val (.int p4), .val (.int p5), .val (.int va), .val (.int vb), .val (.int vc), .val (.int (3 : Int32)), .val (.int (2 : Int32)), .unset, .unset, .unset, .unset, .unset] [(.int (3 : Int32)), (.ref b46), (.ref b45), (.ref b45)]))
      obtain ⟨T50, h50, k50, X50, e50, E50, A50, AE50, st50⟩ := newPE X49 hx hZ (hw _ (List.mem_of_getElem? (i := 9) rfl)) e49 (g := (mkF m 152 #[.val (.int p1), .val (.int p2), .val (.int p3), .val (.int p4), .val (.int p5), .val (.int va), .val (.int vb), .val (.int vc), .val (.int (3 : Int32)), .val (.int (2 : Int32)), .unset, .unset, .unset, .unset, .unset] [(.int (3 : Int32)), (.ref b46), (.ref b45), (.ref b45)])) rfl (hb hby at_152) rfl (by decide) (cap := 3) (by decide) (by decide) (by decide) (by decide) (ad := "[D") rfl
      obtain ⟨b50, g50⟩ : ∃ z, z = h49.size := ⟨_, rfl⟩
      rw [← g50] at A50 AE50 st50
      refine OwnR.of (st50) ?_
      have gn_b50 : n0 ≤ b50 := Nat.le_trans (Nat.le_trans Z0 K49.1) (Nat.le_of_eq g50.symm)
      have sz_b50 : h0.size ≤ b50 := Nat.le_trans K49.1 (Nat.le_of_eq g50.symm)
      have K50 : Keep h0 h50 [] := Keep.ext K49 E50
      have V50 : Arv Z h50 b50 k50 .double (3 : Int32) [(.double (0 : UInt64)), (.double (0 : UInt64)), (.double (0 : UInt64))] (.double (0 : UInt64)) := (Arv.new A50 (by decide)).pad (pad_rep [] (.double (0 : UInt64)) 3)
      show OwnR _ _ _ _ _ _ _ (T50.setTop (mkF m 154 #[.val (.int p1), .val (.int p2), .val (.int p3), .val (.int p4), .val (.int p5), .val (.int va), .val (.int vb), .val (.int vc), .val (.int (3 : Int32)), .val (.int (2 : Int32)), .unset, .unset, .unset, .unset, .unset] [(.ref b50), (.ref b46), (.ref b45), (.ref b45)]))
      refine OwnR.of (fun _ hr => XS.dup X50.here hx rfl (hb hby at_154) rfl rfl hr) ?_
      show OwnR _ _ _ _ _ _ _ (T50.setTop (mkF m 155 #[.val (.int p1), .val (.int p2), .val (.int p3), .val (.int p4), .val (.int p5), .val (.int va), .val (.int vb), .val (.int vc), .val (.int (3 : Int32)), .val (.int (2 : Int32)), .unset, .unset, .unset, .unset, .unset] [(.ref b50), (.ref b50), (.ref b46), (.ref b45), (.ref b45)]))
      refine OwnR.of (fun _ hr => XS.iconst X50.here hx rfl (hb hby at_155) hr) ?_
      show OwnR _ _ _ _ _ _ _ (T50.setTop (mkF m 156 #[.val (.int p1), .val (.int p2), .val (.int p3), .val (.int p4), .val (.int p5), .val (.int va), .val (.int vb), .val (.int vc), .val (.int (3 : Int32)), .val (.int (2 : Int32)), .unset, .unset, .unset, .unset, .unset] [(.int (0 : Int32)), (.ref b50), (.ref b50), (.ref b46), (.ref b45), (.ref b45)]))
      refine OwnR.of (fun _ hr => XS.dconst0 X50.here hx rfl (hb hby at_156) (v := (0 : UInt64)) (by decide +kernel) hr) ?_
      show OwnR _ _ _ _ _ _ _ (T50.setTop (mkF m 157 #[.val (.int p1), .val (.int p2), .val (.int p3), .val (.int p4), .val (.int p5), .val (.int va), .val (.int vb), .val (.int vc), .val (.int (3 : Int32)), .val (.int (2 : Int32)), .unset, .unset, .unset, .unset, .unset] [(.double (0 : UInt64)), (.int (0 : Int32)), (.ref b50), (.ref b50), (.ref b46), (.ref b45), (.ref b45)]))
      obtain ⟨cl51, Ar51, q51, S51, N51q, H51, G51⟩ := id V50
      have hin51 : ¬ ((0 : Int32) < 0 ∨ cl51.slots.size ≤ ((0 : Int32)).toNatClampNeg) := (inb_of S51 ⟨by decide, by decide⟩)
      obtain ⟨T51, h51, X51, e51, W51, st51⟩ := stD X50 hx hZ e50 Ar51 (j := (0 : Int32)) hin51 (g := (mkF m 157 #[.val (.int p1), .val (.int p2), .val (.int p3), .val (.int p4), .val (.int p5), .val (.int va), .val (.int vb), .val (.int vc), .val (.int (3 : Int32)), .val (.int (2 : Int32)), .unset, .unset, .unset, .unset, .unset] [(.double (0 : UInt64)), (.int (0 : Int32)), (.ref b50), (.ref b50), (.ref b46), (.ref b45), (.ref b45)])) rfl rfl (hb hby at_157)
      refine OwnR.of (st51) ?_
      have V51 := Arv.set Ar51 q51 S51 N51q H51 G51 rfl W51 0 rfl (Nat.le_of_ble_eq_true rfl)
      have V51 : Arv Z h51 b50 k50 .double (3 : Int32) [(.double (0 : UInt64)), (.double (0 : UInt64)), (.double (0 : UInt64))] (.double (0 : UInt64)) := V51
      have K51 : Keep h0 h51 [] := Keep.wr K50 W51 (Or.inr sz_b50)
      have N51 := Fr.snoc X51 N49 gn_b50
      show OwnR _ _ _ _ _ _ _ (T51.setTop (mkF m 158 #[.val (.int p1), .val (.int p2), .val (.int p3), .val (.int p4), .val (.int p5), .val (.int va), .val (.int vb), .val (.int vc), .val (.int (3 : Int32)), .val (.int (2 : Int32)), .unset, .unset, .unset, .unset, .unset] [(.ref b50), (.ref b46), (.ref b45), (.ref b45)]))
      refine OwnR.of (fun _ hr => XS.dup X51.here hx rfl (hb hby at_158) rfl rfl hr) ?_
      show OwnR _ _ _ _ _ _ _ (T51.setTop (mkF m 159 #[.val (.int p1), .val (.int p2), .val (.int p3), .val (.int p4), .val (.int p5), .val (.int va), .val (.int vb), .val (.int vc), .val (.int (3 : Int32)), .val (.int (2 : Int32)), .unset, .unset, .unset, .unset, .unset] [(.ref b50), (.ref b50), (.ref b46), (.ref b45), (.ref b45)]))
      refine OwnR.of (fun _ hr => XS.iconst X51.here hx rfl (hb hby at_159) hr) ?_
      show OwnR _ _ _ _ _ _ _ (T51.setTop (mkF m 160 #[.val (.int p1), .val (.int p2), .val (.int p3), .val (.int p4), .val (.int p5), .val (.int va), .val (.int vb), .val (.int vc), .val (.int (3 : Int32)), .val (.int (2 : Int32)), .unset, .unset, .unset, .unset, .unset] [(.int (1 : Int32)), (.ref b50), (.ref b50), (.ref b46), (.ref b45), (.ref b45)]))
      refine OwnR.of (fun _ hr => XS.dconst0 X51.here hx rfl (hb hby at_160) (v := (0 : UInt64)) (by decide +kernel) hr) ?_
      show OwnR _ _ _ _ _ _ _ (T51.setTop (mkF m 161 #[.val (.int p1), .val (.int p2), .val (.int p3), .val (.int p4), .val (.int p5), .val (.int va), .val (.int vb), .val (.int vc), .val (.int (3 : Int32)), .val (.int (2 : Int32)), .unset, .unset, .unset, .unset, .unset] [(.double (0 : UInt64)), (.int (1 : Int32)), (.ref b50), (.ref b50), (.ref b46), (.ref b45), (.ref b45)]))
      obtain ⟨cl52, Ar52, q52, S52, N52q, H52, G52⟩ := id V51
      have hin52 : ¬ ((1 : Int32) < 0 ∨ cl52.slots.size ≤ ((1 : Int32)).toNatClampNeg) := (inb_of S52 ⟨by decide, by decide⟩)
      obtain ⟨T52, h52, X52, e52, W52, st52⟩ := stD X51 hx hZ e51 Ar52 (j := (1 : Int32)) hin52 (g := (mkF m 161 #[.val (.int p1), .val (.int p2), .val (.int p3), .val (.int p4), .val (.int p5), .val (.int va), .val (.int vb), .val (.int vc), .val (.int (3 : Int32)), .val (.int (2 : Int32)), .unset, .unset, .unset, .unset, .unset] [(.double (0 : UInt64)), (.int (1 : Int32)), (.ref b50), (.ref b50), (.ref b46), (.ref b45), (.ref b45)])) rfl rfl (hb hby at_161)
      refine OwnR.of (st52) ?_
      have V52 := Arv.set Ar52 q52 S52 N52q H52 G52 rfl W52 1 rfl (Nat.le_of_ble_eq_true rfl)
      have V52 : Arv Z h52 b50 k50 .double (3 : Int32) [(.double (0 : UInt64)), (.double (0 : UInt64)), (.double (0 : UInt64))] (.double (0 : UInt64)) := V52
      have K52 : Keep h0 h52 [] := Keep.wr K51 W52 (Or.inr sz_b50)
      have N52 := Fr.snoc X52 N51 gn_b50
      show OwnR _ _ _ _ _ _ _ (T52.setTop (mkF m 162 #[.val (.int p1), .val (.int p2), .val (.int p3), .val (.int p4), .val (.int p5), .val (.int va), .val (.int vb), .val (.int vc), .val (.int (3 : Int32)), .val (.int (2 : Int32)), .unset, .unset, .unset, .unset, .unset] [(.ref b50), (.ref b46), (.ref b45), (.ref b45)]))
      refine OwnR.of (fun _ hr => XS.dup X52.here hx rfl (hb hby at_162) rfl rfl hr) ?_
      show OwnR _ _ _ _ _ _ _ (T52.setTop (mkF m 163 #[.val (.int p1), .val (.int p2), .val (.int p3), .val (.int p4), .val (.int p5), .val (.int va), .val (.int vb), .val (.int vc), .val (.int (3 : Int32)), .val (.int (2 : Int32)), .unset, .unset, .unset, .unset, .unset] [(.ref b50), (.ref b50), (.ref b46), (.ref b45), (.ref b45)]))
      refine OwnR.of (fun _ hr => XS.iconst X52.here hx rfl (hb hby at_163) hr) ?_
      show OwnR _ _ _ _ _ _ _ (T52.setTop (mkF m 164 #[.val (.int p1), .val (.int p2), .val (.int p3), .val (.int p4), .val (.int p5), .val (.int va), .val (.int vb), .val (.int vc), .val (.int (3 : Int32)), .val (.int (2 : Int32)), .unset, .unset, .unset, .unset, .unset] [(.int (2 : Int32)), (.ref b50), (.ref b50), (.ref b46), (.ref b45), (.ref b45)]))
      refine OwnR.of (fun _ hr => XS.dconst0 X52.here hx rfl (hb hby at_164) (v := (0 : UInt64)) (by decide +kernel) hr) ?_
      show OwnR _ _ _ _ _ _ _ (T52.setTop (mkF m 165 #[.val (.int p1), .val (.int p2), .val (.int p3), .val (.int p4), .val (.int p5), .val (.int va), .val (.int vb), .val (.int vc), .val (.int (3 : Int32)), .val (.int (2 : Int32)), .unset, .unset, .unset, .unset, .unset] [(.double (0 : UInt64)), (.int (2 : Int32)), (.ref b50), (.ref b50), (.ref b46), (.ref b45), (.ref b45)]))
      obtain ⟨cl53, Ar53, q53, S53, N53q, H53, G53⟩ := id V52
      have hin53 : ¬ ((2 : Int32) < 0 ∨ cl53.slots.size ≤ ((2 : Int32)).toNatClampNeg) := (inb_of S53 ⟨by decide, by decide⟩)
      obtain ⟨T53, h53, X53, e53, W53, st53⟩ := stD X52 hx hZ e52 Ar53 (j := (2 : Int32)) hin53 (g := (mkF m 165 #[.val (.int p1), .val (.int p2), .val (.int p3), .val (.int p4), .val (.int p5), .val (.int va), .val (.int vb), .val (.int vc), .val (.int (3 : Int32)), .val (.int (2 : Int32)), .unset, .unset, .unset, .unset, .unset] [(.double (0 : UInt64)), (.int (2 : Int32)), (.ref b50), (.ref b50), (.ref b46), (.ref b45), (.ref b45)])) rfl rfl (hb hby at_165)
      refine OwnR.of (st53) ?_
      have V53 := Arv.set Ar53 q53 S53 N53q H53 G53 rfl W53 2 rfl (Nat.le_of_ble_eq_true rfl)
      have V53 : Arv Z h53 b50 k50 .double (3 : Int32) [(.double (0 : UInt64)), (.double (0 : UInt64)), (.double (0 : UInt64))] (.double (0 : UInt64)) := V53
      have K53 : Keep h0 h53 [] := Keep.wr K52 W53 (Or.inr sz_b50)
      have N53 := Fr.snoc X53 N52 gn_b50
      show OwnR _ _ _ _ _ _ _ (T53.setTop (mkF m 166 #[.val (.int p1), .val (.int p2), .val (.int p3), .val (.int p4), .val (.int p5), .val (.int va), .val (.int vb), .val (.int vc), .val (.int (3 : Int32)), .val (.int (2 : Int32)), .unset, .unset, .unset, .unset, .unset] [(.ref b50), (.ref b46), (.ref b45), (.ref b45)]))
      refine OwnR.of (fun _ hr => XS.aconstNull X53.here hx rfl (hb hby at_166) hr) ?_
      show OwnR _ _ _ _ _ _ _ (T53.setTop (mkF m 167 #[.val (.int p1), .val (.int p2), .val (.int p3), .val (.int p4), .val (.int p5), .val (.int va), .val (.int vb), .val (.int vc), .val (.int (3 : Int32)), .val (.int (2 : Int32)), .unset, .unset, .unset, .unset, .unset] [.null, (.ref b50), (.ref b46), (.ref b45), (.ref b45)]))
      obtain ⟨_, _, ⟨T54, L54, kc54, ns54⟩, -, X54, ⟨Lc54, hQ54, l54, y54, z54⟩, st54⟩ := X53.specialBack hx (y := (⟨"com/example/ramification/ramification/model/StrahlerOrders", "<init>", "([I[DLjava/util/Optional;)V"⟩ : MethodName)) rfl hown (mvT hZ (hw _ (List.mem_of_getElem? (i := 10) rfl))) (mvT hZ (hw _ (List.mem_of_getElem? (i := 11) rfl))) (mvT hZ (hw _ (List.mem_of_getElem? (i := 12) rfl))) (by decide) (backOf (W := 1) (rm2_3 l Z a0 hw [] b45 b46 b50 k46 k50 va vb vc h53 n0 (Nat.le_trans Z0 K53.1) (Exa.wr W53 (Exa.wr W52 (Exa.wr W51 (Exa.ext E50 (Exa.wr W49 (Exa.wr W48 (Exa.wr W47 (Exa.ext E46 A45)))))))) (Fld.other W53 (Fld.other W52 (Fld.other W51 (Fld.ext E50 (Fld.other W49 (Fld.other W48 (Fld.other W47 (Fld.ext E46 F_branches_b45) (Or.inl (Nat.ne_of_lt (Nat.lt_of_lt_of_le A45.lt (Nat.le_of_eq g46.symm))))) (Or.inl (Nat.ne_of_lt (Nat.lt_of_lt_of_le A45.lt (Nat.le_of_eq g46.symm))))) (Or.inl (Nat.ne_of_lt (Nat.lt_of_lt_of_le A45.lt (Nat.le_of_eq g46.symm)))))) (Or.inl (Nat.ne_of_lt (Nat.lt_of_lt_of_le (Exa.wr W49 (Exa.wr W48 (Exa.wr W47 (Exa.ext E46 A45)))).lt (Nat.le_of_eq g50.symm))))) (Or.inl (Nat.ne_of_lt (Nat.lt_of_lt_of_le (Exa.wr W49 (Exa.wr W48 (Exa.wr W47 (Exa.ext E46 A45)))).lt (Nat.le_of_eq g50.symm))))) (Or.inl (Nat.ne_of_lt (Nat.lt_of_lt_of_le (Exa.wr W49 (Exa.wr W48 (Exa.wr W47 (Exa.ext E46 A45)))).lt (Nat.le_of_eq g50.symm))))) (Fld.other W53 (Fld.other W52 (Fld.other W51 (Fld.ext E50 (Fld.other W49 (Fld.other W48 (Fld.other W47 (Fld.ext E46 F_lengths_b45) (Or.inl (Nat.ne_of_lt (Nat.lt_of_lt_of_le A45.lt (Nat.le_of_eq g46.symm))))) (Or.inl (Nat.ne_of_lt (Nat.lt_of_lt_of_le A45.lt (Nat.le_of_eq g46.symm))))) (Or.inl (Nat.ne_of_lt (Nat.lt_of_lt_of_le A45.lt (Nat.le_of_eq g46.symm)))))) (Or.inl (Nat.ne_of_lt (Nat.lt_of_lt_of_le (Exa.wr W49 (Exa.wr W48 (Exa.wr W47 (Exa.ext E46 A45)))).lt (Nat.le_of_eq g50.symm))))) (Or.inl (Nat.ne_of_lt (Nat.lt_of_lt_of_le (Exa.wr W49 (Exa.wr W48 (Exa.wr W47 (Exa.ext E46 A45)))).lt (Nat.le_of_eq g50.symm))))) (Or.inl (Nat.ne_of_lt (Nat.lt_of_lt_of_le (Exa.wr W49 (Exa.wr W48 (Exa.wr W47 (Exa.ext E46 A45)))).lt (Nat.le_of_eq g50.symm))))) (Fld.other W53 (Fld.other W52 (Fld.other W51 (Fld.ext E50 (Fld.other W49 (Fld.other W48 (Fld.other W47 (Fld.ext E46 F_unit_b45) (Or.inl (Nat.ne_of_lt (Nat.lt_of_lt_of_le A45.lt (Nat.le_of_eq g46.symm))))) (Or.inl (Nat.ne_of_lt (Nat.lt_of_lt_of_le A45.lt (Nat.le_of_eq g46.symm))))) (Or.inl (Nat.ne_of_lt (Nat.lt_of_lt_of_le A45.lt (Nat.le_of_eq g46.symm)))))) (Or.inl (Nat.ne_of_lt (Nat.lt_of_lt_of_le (Exa.wr W49 (Exa.wr W48 (Exa.wr W47 (Exa.ext E46 A45)))).lt (Nat.le_of_eq g50.symm))))) (Or.inl (Nat.ne_of_lt (Nat.lt_of_lt_of_le (Exa.wr W49 (Exa.wr W48 (Exa.wr W47 (Exa.ext E46 A45)))).lt (Nat.le_of_eq g50.symm))))) (Or.inl (Nat.ne_of_lt (Nat.lt_of_lt_of_le (Exa.wr W49 (Exa.wr W48 (Exa.wr W47 (Exa.ext E46 A45)))).lt (Nat.le_of_eq g50.symm))))) (Arv.other (Arv.other (Arv.other (Arv.ext V49 E50) W51 (Nat.ne_of_lt (Nat.lt_of_lt_of_le (Exa.wr W49 (Exa.wr W48 (Exa.wr W47 AE46))).lt (Nat.le_of_eq g50.symm)))) W52 (Nat.ne_of_lt (Nat.lt_of_lt_of_le (Exa.wr W49 (Exa.wr W48 (Exa.wr W47 AE46))).lt (Nat.le_of_eq g50.symm)))) W53 (Nat.ne_of_lt (Nat.lt_of_lt_of_le (Exa.wr W49 (Exa.wr W48 (Exa.wr W47 AE46))).lt (Nat.le_of_eq g50.symm)))) V53 (Exa.wr W53 (Exa.wr W52 (Exa.wr W51 (Exa.ext E50 (Exa.wr W49 (Exa.wr W48 (Exa.wr W47 AE46))))))) (Exa.wr W53 (Exa.wr W52 (Exa.wr W51 AE50))) gn_b45 (Nat.ne_of_lt (Nat.lt_of_lt_of_le A45.lt (Nat.le_of_eq g46.symm))) (Nat.ne_of_lt (Nat.lt_of_lt_of_le (Exa.wr W49 (Exa.wr W48 (Exa.wr W47 (Exa.ext E46 A45)))).lt (Nat.le_of_eq g50.symm))) hva1 hvb1 hvc1) hZ (hw _ (List.mem_of_getElem? (i := 12) rfl)) (hw _ (List.mem_of_getElem? (i := 7) rfl)) (by decide) (by decide)) (g := (mkF m 167 #[.val (.int p1), .val (.int p2), .val (.int p3), .val (.int p4), .val (.int p5), .val (.int va), .val (.int vb), .val (.int vc), .val (.int (3 : Int32)), .val (.int (2 : Int32)), .unset, .unset, .unset, .unset, .unset] [.null, (.ref b50), (.ref b46), (.ref b45), (.ref b45)])) rfl (by rw [hml]; rfl) (Steps.refl _) (a := b45) (argsL := [(.ref b46), (.ref b50), .null]) (rest := [(.ref b45)]) (lenOf pd___I_DLjava_util_Optional__V rfl) rfl (by show 2 * 0 + _ ≤ _; exact Nat.le_of_eq rfl) (hb hby at_167) (fun _ _ => ⟨rfl, e53, (by decide : 3 + 2 ≤ _), (by decide : 9 + 6 ≤ _)⟩)
      dsimp only [Pt.U, Pt.locs, Pt.cells, Pt.slots] at X54 l54 y54 z54 st54 hQ54
      rw [l54, y54, z54] at X54
      obtain ⟨bI_54, rfl, N54q, P54_0, P54_1, P54_2, P54_3⟩ := hQ54
      have K54 : Keep h0 T54.heap [] := Keep.trans K53 P54_0 (allS (Or.inr sz_b45) all0)
      have N54 := Fr.app N53 N54q
      refine OwnR.of (fun _ hr => st54.trans hr) ?_
      show OwnR _ _ _ _ _ _ _ (T54.setTop (mkF m 170 #[.val (.int p1), .val (.int p2), .val (.int p3), .val (.int p4), .val (.int p5), .val (.int va), .val (.int vb), .val (.int vc), .val (.int (3 : Int32)), .val (.int (2 : Int32)), .unset, .unset, .unset, .unset, .unset] [(.ref b45)]))
      refine OwnR.of (fun _ hr => XS.astore X54.here hx rfl (hb hby at_170) rfl rfl (l' := #[.val (.int p1), .val (.int p2), .val (.int p3), .val (.int p4), .val (.int p5), .val (.int va), .val (.int vb), .val (.int vc), .val (.int (3 : Int32)), .val (.int (2 : Int32)), .val (.ref b45), .unset, .unset, .unset, .unset]) rfl hr) ?_
      show OwnR _ _ _ _ _ _ _ (T54.setTop (mkF m 172 #[.val (.int p1), .val (.int p2), .val (.int p3), .val (.int p4), .val (.int p5), .val (.int va), .val (.int vb), .val (.int vc), .val (.int (3 : Int32)), .val (.int (2 : Int32)), .val (.ref b45), .unset, .unset, .unset, .unset] []))
      refine OwnR.of (fun _ hr => XS.aload X54.here hx rfl (hb hby at_172) rfl rfl hr) ?_
      show OwnR _ _ _ _ _ _ _ (T54.setTop (mkF m 174 #[.val (.int p1), .val (.int p2), .val (.int p3), .val (.int p4), .val (.int p5), .val (.int va), .val (.int vb), .val (.int vc), .val (.int (3 : Int32)), .val (.int (2 : Int32)), .val (.ref b45), .unset, .unset, .unset, .unset] [(.ref b45)]))
      refine OwnR.of (fun _ hr => XS.iload X54.here hx rfl (hb hby at_174) rfl hr) ?_
      show OwnR _ _ _ _ _ _ _ (T54.setTop (mkF m 176 #[.val (.int p1), .val (.int p2), .val (.int p3), .val (.int p4), .val (.int p5), .val (.int va), .val (.int vb), .val (.int vc), .val (.int (3 : Int32)), .val (.int (2 : Int32)), .val (.ref b45), .unset, .unset, .unset, .unset] [(.int (2 : Int32)), (.ref b45)]))
      obtain ⟨cq55, kq55, q55a, q55b, q55c⟩ := isOf hZ rfl P54_1
      obtain ⟨_, _, ⟨T55, L55, kc55, ns55⟩, -, X55, ⟨Lc55, hQ55, l55, y55, z55⟩, st55⟩ := X54.virtualBack hx (y := (⟨"com/example/ramification/ramification/model/StrahlerOrders", "getBifurcationRatio", "(I)D"⟩ : MethodName)) (z := (⟨"com/example/ramification/ramification/model/StrahlerOrders", "getBifurcationRatio", "(I)D"⟩ : MethodName)) hown (mvT hZ (hw _ (List.mem_of_getElem? (i := 37) rfl))) (mvT hZ (hw _ (List.mem_of_getElem? (i := 38) rfl))) (notFace_of_selects (args := #[]) (mvT hZ (hw _ (List.mem_of_getElem? (i := 40) rfl)))) (mvT hZ (hw _ (List.mem_of_getElem? (i := 40) rfl))) (mvT hZ (hw _ (List.mem_of_getElem? (i := 39) rfl))) (by decide) (backOf (W := 0) (rm4_3_2 l Z a0 hw [] b45 bI_54 k46 va vb vc (T54.heap) n0 (Nat.le_trans Z0 K54.1) P54_1 P54_2 P54_3 hvc1) hZ (hw _ (List.mem_of_getElem? (i := 41) rfl)) (hw _ (List.mem_of_getElem? (i := 7) rfl)) (by decide) (by decide)) q55a q55c (g := (mkF m 176 #[.val (.int p1), .val (.int p2), .val (.int p3), .val (.int p4), .val (.int p5), .val (.int va), .val (.int vb), .val (.int vc), .val (.int (3 : Int32)), .val (.int (2 : Int32)), .val (.ref b45), .unset, .unset, .unset, .unset] [(.int (2 : Int32)), (.ref b45)])) rfl (by rw [hml]; rfl) (Steps.refl _) (argsL := [(.int (2 : Int32))]) (rest := []) (lenOf pd__I_D rfl) rfl (by show 2 * 0 + _ ≤ _; exact Nat.le_of_eq rfl) (hb hby at_176) (fun _ _ => ⟨rfl, rfl, (by decide : 5 + 0 ≤ _), (by decide : 15 + 0 ≤ _)⟩)
      dsimp only [Pt.U, Pt.locs, Pt.cells, Pt.slots] at X55 l55 y55 z55 st55 hQ55
      rw [l55, y55, z55] at X55
      obtain ⟨rfl, N55q, e55⟩ := hQ55
      have N55 := Fr.app N54 N55q
      refine OwnR.of (fun _ hr => st55.trans hr) ?_
      show OwnR _ _ _ _ _ _ _ (T55.setTop (mkF m 179 #[.val (.int p1), .val (.int p2), .val (.int p3), .val (.int p4), .val (.int p5), .val (.int va), .val (.int vb), .val (.int vc), .val (.int (3 : Int32)), .val (.int (2 : Int32)), .val (.ref b45), .unset, .unset, .unset, .unset] [(.double (FP.ddiv (FP.i2d vb) (FP.i2d vc)))]))
      refine OwnR.of (fun _ hr => XS.dstore X55.here hx rfl (hb hby at_179) rfl (l' := #[.val (.int p1), .val (.int p2), .val (.int p3), .val (.int p4), .val (.int p5), .val (.int va), .val (.int vb), .val (.int vc), .val (.int (3 : Int32)), .val (.int (2 : Int32)), .val (.ref b45), .val (.double (FP.ddiv (FP.i2d vb) (FP.i2d vc))), .second, .unset, .unset]) rfl hr) ?_
      show OwnR _ _ _ _ _ _ _ (T55.setTop (mkF m 181 #[.val (.int p1), .val (.int p2), .val (.int p3), .val (.int p4), .val (.int p5), .val (.int va), .val (.int vb), .val (.int vc), .val (.int (3 : Int32)), .val (.int (2 : Int32)), .val (.ref b45), .val (.double (FP.ddiv (FP.i2d vb) (FP.i2d vc))), .second, .unset, .unset] []))
      refine OwnR.of (fun _ hr => XS.iload X55.here hx rfl (hb hby at_181) rfl hr) ?_
      show OwnR _ _ _ _ _ _ _ (T55.setTop (mkF m 183 #[.val (.int p1), .val (.int p2), .val (.int p3), .val (.int p4), .val (.int p5), .val (.int va), .val (.int vb), .val (.int vc), .val (.int (3 : Int32)), .val (.int (2 : Int32)), .val (.ref b45), .val (.double (FP.ddiv (FP.i2d vb) (FP.i2d vc))), .second, .unset, .unset] [(.int (2 : Int32))]))
      refine OwnR.of (fun _ hr => XS.iload X55.here hx rfl (hb hby at_183) rfl hr) ?_
      show OwnR _ _ _ _ _ _ _ (T55.setTop (mkF m 185 #[.val (.int p1), .val (.int p2), .val (.int p3), .val (.int p4), .val (.int p5), .val (.int va), .val (.int vb), .val (.int vc), .val (.int (3 : Int32)), .val (.int (2 : Int32)), .val (.ref b45), .val (.double (FP.ddiv (FP.i2d vb) (FP.i2d vc))), .second, .unset, .unset] [(.int (3 : Int32)), (.int (2 : Int32))]))
      refine OwnR.of (fun _ hr => XS.icmpYes X55.here hx rfl (pc0 := 185) (pc' := 202) rfl (hb hby at_185) rfl (feq (by decide : ¬ ((2 : Int32) = (3 : Int32)))).2 (by decide) (by decide) hr) ?_
      show OwnR _ _ _ _ _ _ _ (T55.setTop (mkF m 202 #[.val (.int p1), .val (.int p2), .val (.int p3), .val (.int p4), .val (.int p5), .val (.int va), .val (.int vb), .val (.int vc), .val (.int (3 : Int32)), .val (.int (2 : Int32)), .val (.ref b45), .val (.double (FP.ddiv (FP.i2d vb) (FP.i2d vc))), .second, .unset, .unset] []))
      refine OwnR.of (fun _ hr => XS.iload X55.here hx rfl (hb hby at_202) rfl hr) ?_
      show OwnR _ _ _ _ _ _ _ (T55.setTop (mkF m 204 #[.val (.int p1), .val (.int p2), .val (.int p3), .val (.int p4), .val (.int p5), .val (.int va), .val (.int vb), .val (.int vc), .val (.int (3 : Int32)), .val (.int (2 : Int32)), .val (.ref b45), .val (.double (FP.ddiv (FP.i2d vb) (FP.i2d vc))), .second, .unset, .unset] [(.int (2 : Int32))]))
      refine OwnR.of (fun _ hr => XS.iconst X55.here hx rfl (hb hby at_204) hr) ?_
      show OwnR _ _ _ _ _ _ _ (T55.setTop (mkF m 205 #[.val (.int p1), .val (.int p2), .val (.int p3), .val (.int p4), .val (.int p5), .val (.int va), .val (.int vb), .val (.int vc), .val (.int (3 : Int32)), .val (.int (2 : Int32)), .val (.ref b45), .val (.double (FP.ddiv (FP.i2d vb) (FP.i2d vc))), .second, .unset, .unset] [(.int (1 : Int32)), (.int (2 : Int32))]))
      refine OwnR.of (fun _ hr => XS.icmpYes X55.here hx rfl (pc0 := 205) (pc' := 220) rfl (hb hby at_205) rfl (feq (by decide : ¬ ((2 : Int32) = (1 : Int32)))).2 (by decide) (by decide) hr) ?_
      show OwnR _ _ _ _ _ _ _ (T55.setTop (mkF m 220 #[.val (.int p1), .val (.int p2), .val (.int p3), .val (.int p4), .val (.int p5), .val (.int va), .val (.int vb), .val (.int vc), .val (.int (3 : Int32)), .val (.int (2 : Int32)), .val (.ref b45), .val (.double (FP.ddiv (FP.i2d vb) (FP.i2d vc))), .second, .unset, .unset] []))
      refine OwnR.of (fun _ hr => XS.iload X55.here hx rfl (hb hby at_220) rfl hr) ?_
      show OwnR _ _ _ _ _ _ _ (T55.setTop (mkF m 222 #[.val (.int p1), .val (.int p2), .val (.int p3), .val (.int p4), .val (.int p5), .val (.int va), .val (.int vb), .val (.int vc), .val (.int (3 : Int32)), .val (.int (2 : Int32)), .val (.ref b45), .val (.double (FP.ddiv (FP.i2d vb) (FP.i2d vc))), .second, .unset, .unset] [(.int vb)]))
      refine OwnR.of (fun _ hr => XS.i2dS X55.here hx rfl (hb hby at_222) rfl rfl hr) ?_
      show OwnR _ _ _ _ _ _ _ (T55.setTop (mkF m 223 #[.val (.int p1), .val (.int p2), .val (.int p3), .val (.int p4), .val (.int p5), .val (.int va), .val (.int vb), .val (.int vc), .val (.int (3 : Int32)), .val (.int (2 : Int32)), .val (.ref b45), .val (.double (FP.ddiv (FP.i2d vb) (FP.i2d vc))), .second, .unset, .unset] [(.double (FP.i2d vb))]))
      refine OwnR.of (fun _ hr => XS.iload X55.here hx rfl (hb hby at_223) rfl hr) ?_
      show OwnR _ _ _ _ _ _ _ (T55.setTop (mkF m 225 #[.val (.int p1), .val (.int p2), .val (.int p3), .val (.int p4), .val (.int p5), .val (.int va), .val (.int vb), .val (.int vc), .val (.int (3 : Int32)), .val (.int (2 : Int32)), .val (.ref b45), .val (.double (FP.ddiv (FP.i2d vb) (FP.i2d vc))), .second, .unset, .unset] [(.int vc), (.double (FP.i2d vb))]))
      refine OwnR.of (fun _ hr => XS.i2dS X55.here hx rfl (hb hby at_225) rfl rfl hr) ?_
      show OwnR _ _ _ _ _ _ _ (T55.setTop (mkF m 226 #[.val (.int p1), .val (.int p2), .val (.int p3), .val (.int p4), .val (.int p5), .val (.int va), .val (.int vb), .val (.int vc), .val (.int (3 : Int32)), .val (.int (2 : Int32)), .val (.ref b45), .val (.double (FP.ddiv (FP.i2d vb) (FP.i2d vc))), .second, .unset, .unset] [(.double (FP.i2d vc)), (.double (FP.i2d vb))]))
      refine OwnR.of (fun _ hr => XS.ddivS X55.here hx rfl (hb hby at_226) rfl (own_nn vb hvc1) rfl hr) ?_
      show OwnR _ _ _ _ _ _ _ (T55.setTop (mkF m 227 #[.val (.int p1), .val (.int p2), .val (.int p3), .val (.int p4), .val (.int p5), .val (.int va), .val (.int vb), .val (.int vc), .val (.int (3 : Int32)), .val (.int (2 : Int32)), .val (.ref b45), .val (.double (FP.ddiv (FP.i2d vb) (FP.i2d vc))), .second, .unset, .unset] [(.double (FP.ddiv (FP.i2d vb) (FP.i2d vc)))]))
      refine OwnR.of (fun _ hr => XS.dstore X55.here hx rfl (hb hby at_227) rfl (l' := #[.val (.int p1), .val (.int p2), .val (.int p3), .val (.int p4), .val (.int p5), .val (.int va), .val (.int vb), .val (.int vc), .val (.int (3 : Int32)), .val (.int (2 : Int32)), .val (.ref b45), .val (.double (FP.ddiv (FP.i2d vb) (FP.i2d vc))), .second, .val (.double (FP.ddiv (FP.i2d vb) (FP.i2d vc))), .second]) rfl hr) ?_
      show OwnR _ _ _ _ _ _ _ (T55.setTop (mkF m 229 #[.val (.int p1), .val (.int p2), .val (.int p3), .val (.int p4), .val (.int p5), .val (.int va), .val (.int vb), .val (.int vc), .val (.int (3 : Int32)), .val (.int (2 : Int32)), .val (.ref b45), .val (.double (FP.ddiv (FP.i2d vb) (FP.i2d vc))), .second, .val (.double (FP.ddiv (FP.i2d vb) (FP.i2d vc))), .second] []))
      refine OwnR.of (fun _ hr => XS.dload X55.here hx rfl (hb hby at_229) rfl hr) ?_
      show OwnR _ _ _ _ _ _ _ (T55.setTop (mkF m 231 #[.val (.int p1), .val (.int p2), .val (.int p3), .val (.int p4), .val (.int p5), .val (.int va), .val (.int vb), .val (.int vc), .val (.int (3 : Int32)), .val (.int (2 : Int32)), .val (.ref b45), .val (.double (FP.ddiv (FP.i2d vb) (FP.i2d vc))), .second, .val (.double (FP.ddiv (FP.i2d vb) (FP.i2d vc))), .second] [(.double (FP.ddiv (FP.i2d vb) (FP.i2d vc)))]))
      refine OwnR.of (fun _ hr => XS.dload X55.here hx rfl (hb hby at_231) rfl hr) ?_
      show OwnR _ _ _ _ _ _ _ (T55.setTop (mkF m 233 #[.val (.int p1), .val (.int p2), .val (.int p3), .val (.int p4), .val (.int p5), .val (.int va), .val (.int vb), .val (.int vc), .val (.int (3 : Int32)), .val (.int (2 : Int32)), .val (.ref b45), .val (.double (FP.ddiv (FP.i2d vb) (FP.i2d vc))), .second, .val (.double (FP.ddiv (FP.i2d vb) (FP.i2d vc))), .second] [(.double (FP.ddiv (FP.i2d vb) (FP.i2d vc))), (.double (FP.ddiv (FP.i2d vb) (FP.i2d vc)))]))
      refine OwnR.of (fun _ hr => XS.dcmpS (v := (0 : Int32)) X55.here hx rfl (hb hby at_233) rfl (dcmpV_self (own_nn vb hvc1) .l) hr) ?_
      show OwnR _ _ _ _ _ _ _ (T55.setTop (mkF m 234 #[.val (.int p1), .val (.int p2), .val (.int p3), .val (.int p4), .val (.int p5), .val (.int va), .val (.int vb), .val (.int vc), .val (.int (3 : Int32)), .val (.int (2 : Int32)), .val (.ref b45), .val (.double (FP.ddiv (FP.i2d vb) (FP.i2d vc))), .second, .val (.double (FP.ddiv (FP.i2d vb) (FP.i2d vc))), .second] [(.int (0 : Int32))]))
      refine OwnR.of (fun _ hr => XS.ifNo X55.here hx rfl (hb hby at_234) rfl ((if0 _ _).trans (teq (by decide : (0 : Int32) = (0 : Int32))).2) hr) ?_
      show OwnR _ _ _ _ _ _ _ (T55.setTop (mkF m 237 #[.val (.int p1), .val (.int p2), .val (.int p3), .val (.int p4), .val (.int p5), .val (.int va), .val (.int vb), .val (.int vc), .val (.int (3 : Int32)), .val (.int (2 : Int32)), .val (.ref b45), .val (.double (FP.ddiv (FP.i2d vb) (FP.i2d vc))), .second, .val (.double (FP.ddiv (FP.i2d vb) (FP.i2d vc))), .second] []))
      refine OwnR.of (fun _ hr => XS.iconst X55.here hx rfl (hb hby at_237) hr) ?_
      show OwnR _ _ _ _ _ _ _ (T55.setTop (mkF m 238 #[.val (.int p1), .val (.int p2), .val (.int p3), .val (.int p4), .val (.int p5), .val (.int va), .val (.int vb), .val (.int vc), .val (.int (3 : Int32)), .val (.int (2 : Int32)), .val (.ref b45), .val (.double (FP.ddiv (FP.i2d vb) (FP.i2d vc))), .second, .val (.double (FP.ddiv (FP.i2d vb) (FP.i2d vc))), .second] [(.int (1 : Int32))]))
      refine OwnR.of (fun _ hr => XS.goto X55.here hx rfl (pc0 := 238) (pc' := 242) rfl (hb hby at_238) (by decide) (by decide) hr) ?_
      show OwnR _ _ _ _ _ _ _ (T55.setTop (mkF m 242 #[.val (.int p1), .val (.int p2), .val (.int p3), .val (.int p4), .val (.int p5), .val (.int va), .val (.int vb), .val (.int vc), .val (.int (3 : Int32)), .val (.int (2 : Int32)), .val (.ref b45), .val (.double (FP.ddiv (FP.i2d vb) (FP.i2d vc))), .second, .val (.double (FP.ddiv (FP.i2d vb) (FP.i2d vc))), .second] [(.int (1 : Int32))]))
      refine own_leafN X55 hx hlk (t := .boolean) Bd.returns (by simp) (hb hby at_242) (z' := (1 : Int32)) rfl (by decide) (by decide) ?_
      show Q0 Z  h0 n0 _ T55.heap _
      rw [show T55.heap = T54.heap from e55]
      refine ⟨?_, N55⟩
      show (some (.int (1 : Int32)) : Option Value) = some (.int (1 : Int32))
      rfl
    · skip
      show OwnR _ _ _ _ _ _ _ (T8.setTop (mkF m 52 #[.val (.int p1), .val (.int p2), .val (.int p3), .val (.int p4), .val (.int p5), .val (.int va), .val (.int vb), .val (.int vc), .val (.int (3 : Int32)), .val (.int (3 : Int32)), .unset, .unset, .unset, .unset, .unset] []))
      refine OwnR.of (fun _ hr => XS.iload X8.here hx rfl (hb hby at_52) rfl hr) ?_
      show OwnR _ _ _ _ _ _ _ (T8.setTop (mkF m 54 #[.val (.int p1), .val (.int p2), .val (.int p3), .val (.int p4), .val (.int p5), .val (.int va), .val (.int vb), .val (.int vc), .val (.int (3 : Int32)), .val (.int (3 : Int32)), .unset, .unset, .unset, .unset, .unset] [(.int (3 : Int32))]))
      refine OwnR.of (fun _ hr => XS.iconst X8.here hx rfl (hb hby at_54) hr) ?_
      show OwnR _ _ _ _ _ _ _ (T8.setTop (mkF m 55 #[.val (.int p1), .val (.int p2), .val (.int p3), .val (.int p4), .val (.int p5), .val (.int va), .val (.int vb), .val (.int vc), .val (.int (3 : Int32)), .val (.int (3 : Int32)), .unset, .unset, .unset, .unset, .unset] [(.int (1 : Int32)), (.int (3 : Int32))]))
      refine OwnR.of (fun _ hr => XS.icmpYes X8.here hx rfl (pc0 := 55) (pc' := 86) rfl (hb hby at_55) rfl (feq (by decide : ¬ ((3 : Int32) = (1 : Int32)))).2 (by decide) (by decide) hr) ?_
      show OwnR _ _ _ _ _ _ _ (T8.setTop (mkF m 86 #[.val (.int p1), .val (.int p2), .val (.int p3), .val (.int p4), .val (.int p5), .val (.int va), .val (.int vb), .val (.int vc), .val (.int (3 : Int32)), .val (.int (3 : Int32)), .unset, .unset, .unset, .unset, .unset] []))
      refine OwnR.of (fun _ hr => XS.iload X8.here hx rfl (hb hby at_86) rfl hr) ?_
      show OwnR _ _ _ _ _ _ _ (T8.setTop (mkF m 88 #[.val (.int p1), .val (.int p2), .val (.int p3), .val (.int p4), .val (.int p5), .val (.int va), .val (.int vb), .val (.int vc), .val (.int (3 : Int32)), .val (.int (3 : Int32)), .unset, .unset, .unset, .unset, .unset] [(.int (3 : Int32))]))
      refine OwnR.of (fun _ hr => XS.iconst X8.here hx rfl (hb hby at_88) hr) ?_
      show OwnR _ _ _ _ _ _ _ (T8.setTop (mkF m 89 #[.val (.int p1), .val (.int p2), .val (.int p3), .val (.int p4), .val (.int p5), .val (.int va), .val (.int vb), .val (.int vc), .val (.int (3 : Int32)), .val (.int (3 : Int32)), .unset, .unset, .unset, .unset, .unset] [(.int (2 : Int32)), (.int (3 : Int32))]))
      refine OwnR.of (fun _ hr => XS.icmpYes X8.here hx rfl (pc0 := 89) (pc' := 129) rfl (hb hby at_89) rfl (feq (by decide : ¬ ((3 : Int32) = (2 : Int32)))).2 (by decide) (by decide) hr) ?_
      show OwnR _ _ _ _ _ _ _ (T8.setTop (mkF m 129 #[.val (.int p1), .val (.int p2), .val (.int p3), .val (.int p4), .val (.int p5), .val (.int va), .val (.int vb), .val (.int vc), .val (.int (3 : Int32)), .val (.int (3 : Int32)), .unset, .unset, .unset, .unset, .unset] []))
      obtain ⟨T56, h56, X56, e56, E56, A56, D56, -, st56⟩ := newO X8 hx hZ hown (hw _ (List.mem_of_getElem? (i := 5) rfl)) (hw _ (List.mem_of_getElem? (i := 6) rfl)) (hw _ (List.mem_of_getElem? (i := 7) rfl)) e8 (g := (mkF m 129 #[.val (.int p1), .val (.int p2), .val (.int p3), .val (.int p4), .val (.int p5), .val (.int va), .val (.int vb), .val (.int vc), .val (.int (3 : Int32)), .val (.int (3 : Int32)), .unset, .unset, .unset, .unset, .unset] [])) rfl (hb hby at_129) (by decide) (by decide)
      obtain ⟨b56, g56⟩ : ∃ z, z = h0.size := ⟨_, rfl⟩
      rw [← g56] at A56 D56 st56
      refine OwnR.of (st56) ?_
      have gn_b56 : n0 ≤ b56 := Nat.le_trans (Nat.le_trans Z0 (Keep.refl h0 []).1) (Nat.le_of_eq g56.symm)
      have sz_b56 : h0.size ≤ b56 := Nat.le_trans (Keep.refl h0 []).1 (Nat.le_of_eq g56.symm)
      have K56 : Keep h0 h56 [] := Keep.ext (Keep.refl h0 []) E56
      have F_branches_b56 : Fld Z h56 b56 "com/example/ramification/ramification/model/StrahlerOrders" "branches" "[I" .null := D56 (Or.inr (hw _ (List.mem_of_getElem? (i := 26) rfl))) (ty := (.array .int)) (by decide)
      have F_lengths_b56 : Fld Z h56 b56 "com/example/ramification/ramification/model/StrahlerOrders" "lengths" "[D" .null := D56 (Or.inr (hw _ (List.mem_of_getElem? (i := 34) rfl))) (ty := (.array .double)) (by decide)
      have F_unit_b56 : Fld Z h56 b56 "com/example/ramification/ramification/model/StrahlerOrders" "unit" "Ljava/util/Optional;" .null := D56 (Or.inr (hw _ (List.mem_of_getElem? (i := 36) rfl))) (ty := (.object "java/util/Optional")) (by decide)
      show OwnR _ _ _ _ _ _ _ (T56.setTop (mkF m 132 #[.val (.int p1), .val (.int p2), .val (.int p3), .val (.int p4), .val (.int p5), .val (.int va), .val (.int vb), .val (.int vc), .val (.int (3 : Int32)), .val (.int (3 : Int32)), .unset, .unset, .unset, .unset, .unset] [(.ref b56)]))
      refine OwnR.of (fun _ hr => XS.dup X56.here hx rfl (hb hby at_132) rfl rfl hr) ?_
      show OwnR _ _ _ _ _ _ _ (T56.setTop (mkF m 133 #[.val (.int p1), .val (.int p2), .val (.int p3), .val (.int p4), .val (.int p5), .val (.int va), .val (.int vb), .val (.int vc), .val (.int (3 : Int32)), .val (.int (3 : Int32)), .unset, .unset, .unset, .unset, .unset] [(.ref b56), (.ref b56)]))
      refine OwnR.of (fun _ hr => XS.iconst X56.here hx rfl (hb hby at_133) hr) ?_
      show OwnR _ _ _ _ _ _ _ (T56.setTop (mkF m 134 #[.val (.int p1), .val (.int p2), .val (.int p3), .val (.int p4), .val (.int p5), .val (.int va), .val (.int vb), .val (.int vc), .val (.int (3 : Int32)), .val (.int (3 : Int32)), .unset, .unset, .unset, .unset, .unset] [(.int (3 : Int32)), (.ref b56), (.ref b56)]))
      obtain ⟨T57, h57, k57, X57, e57, E57, A57, AE57, st57⟩ := newPE X56 hx hZ (hw _ (List.mem_of_getElem? (i := 8) rfl)) e56 (g := (mkF m 134 #[.val (.int p1), .val (.int p2), .val (.int p3), .val (.int p4), .val (.int p5), .val (.int va), .val (.int vb), .val (.int vc), .val (.int (3 : Int32)), .val (.int (3 : Int32)), .unset, .unset, .unset, .unset, .unset] [(.int (3 : Int32)), (.ref b56), (.ref b56)])) rfl (hb hby at_134) rfl (by decide) (cap := 3) (by decide) (by decide) (by decide) (by decide) (ad := "[I") rfl
      obtain ⟨b57, g57⟩ : ∃ z, z = h56.size := ⟨_, rfl⟩
      rw [← g57] at A57 AE57 st57
      refine OwnR.of (st57) ?_
      have gn_b57 : n0 ≤ b57 := Nat.le_trans (Nat.le_trans Z0 K56.1) (Nat.le_of_eq g57.symm)
      have sz_b57 : h0.size ≤ b57 := Nat.le_trans K56.1 (Nat.le_of_eq g57.symm)
      have K57 : Keep h0 h57 [] := Keep.ext K56 E57
      have V57 : Arv Z h57 b57 k57 .int (3 : Int32) [(.int (0 : Int32)), (.int (0 : Int32)), (.int (0 : Int32))] (.int (0 : Int32)) := (Arv.new A57 (by decide)).pad (pad_rep [] (.int (0 : Int32)) 3)
      show OwnR _ _ _ _ _ _ _ (T57.setTop (mkF m 136 #[.val (.int p1), .val (.int p2), .val (.int p3), .val (.int p4), .val (.int p5), .val (.int va), .val (.int vb), .val (.int vc), .val (.int (3 : Int32)), .val (.int (3 : Int32)), .unset, .unset, .unset, .unset, .unset] [(.ref b57), (.ref b56), (.ref b56)]))
      refine OwnR.of (fun _ hr => XS.dup X57.here hx rfl (hb hby at_136) rfl rfl hr) ?_
      show OwnR _ _ _ _ _ _ _ (T57.setTop (mkF m 137 #[.val (.int p1), .val (.int p2), .val (.int p3), .val (.int p4), .val (.int p5), .val (.int va), .val (.int vb), .val (.int vc), .val (.int (3 : Int32)), .val (.int (3 : Int32)), .unset, .unset, .unset, .unset, .unset] [(.ref b57), (.ref b57), (.ref b56), (.ref b56)]))
      refine OwnR.of (fun _ hr => XS.iconst X57.here hx rfl (hb hby at_137) hr) ?_
      show OwnR _ _ _ _ _ _ _ (T57.setTop (mkF m 138 #[.val (.int p1), .val (.int p2), .val (.int p3), .val (.int p4), .val (.int p5), .val (.int va), .val (.int vb), .val (.int vc), .val (.int (3 : Int32)), .val (.int (3 : Int32)), .unset, .unset, .unset, .unset, .unset] [(.int (0 : Int32)), (.ref b57), (.ref b57), (.ref b56), (.ref b56)]))
      refine OwnR.of (fun _ hr => XS.iload X57.here hx rfl (hb hby at_138) rfl hr) ?_
      show OwnR _ _ _ _ _ _ _ (T57.setTop (mkF m 140 #[.val (.int p1), .val (.int p2), .val (.int p3), .val (.int p4), .val (.int p5), .val (.int va), .val (.int vb), .val (.int vc), .val (.int (3 : Int32)), .val (.int (3 : Int32)), .unset, .unset, .unset, .unset, .unset] [(.int va), (.int (0 : Int32)), (.ref b57), (.ref b57), (.ref b56), (.ref b56)]))
      obtain ⟨cl58, Ar58, q58, S58, N58q, H58, G58⟩ := id V57
      have hin58 : ¬ ((0 : Int32) < 0 ∨ cl58.slots.size ≤ ((0 : Int32)).toNatClampNeg) := (inb_of S58 ⟨by decide, by decide⟩)
      obtain ⟨T58, h58, X58, e58, W58, st58⟩ := stI X57 hx hZ e57 Ar58 (j := (0 : Int32)) hin58 (g := (mkF m 140 #[.val (.int p1), .val (.int p2), .val (.int p3), .val (.int p4), .val (.int p5), .val (.int va), .val (.int vb), .val (.int vc), .val (.int (3 : Int32)), .val (.int (3 : Int32)), .unset, .unset, .unset, .unset, .unset] [(.int va), (.int (0 : Int32)), (.ref b57), (.ref b57), (.ref b56), (.ref b56)])) rfl rfl (hb hby at_140)
      refine OwnR.of (st58) ?_
      have V58 := Arv.set Ar58 q58 S58 N58q H58 G58 rfl W58 0 rfl (Nat.le_of_ble_eq_true rfl)
      have V58 : Arv Z h58 b57 k57 .int (3 : Int32) [(.int va), (.int (0 : Int32)), (.int (0 : Int32))] (.int (0 : Int32)) := V58
      have K58 : Keep h0 h58 [] := Keep.wr K57 W58 (Or.inr sz_b57)
      have N58 := Fr.snoc X58 N8 gn_b57
      show OwnR _ _ _ _ _ _ _ (T58.setTop (mkF m 141 #[.val (.int p1), .val (.int p2), .val (.int p3), .val (.int p4), .val (.int p5), .val (.int va), .val (.int vb), .val (.int vc), .val (.int (3 : Int32)), .val (.int (3 : Int32)), .unset, .unset, .unset, .unset, .unset] [(.ref b57), (.ref b56), (.ref b56)]))
      refine OwnR.of (fun _ hr => XS.dup X58.here hx rfl (hb hby at_141) rfl rfl hr) ?_
      show OwnR _ _ _ _ _ _ _ (T58.setTop (mkF m 142 #[.val (.int p1), .val (.int p2), .val (.int p3), .val (.int p4), .val (.int p5), .val (.int va), .val (.int vb), .val (.int vc), .val (.int (3 : Int32)), .val (.int (3 : Int32)), .unset, .unset, .unset, .unset, .unset] [(.ref b57), (.ref b57), (.ref b56), (.ref b56)]))
      refine OwnR.of (fun _ hr => XS.iconst X58.here hx rfl (hb hby at_142) hr) ?_
      show OwnR _ _ _ _ _ _ _ (T58.setTop (mkF m 143 #[.val (.int p1), .val (.int p2), .val (.int p3), .val (.int p4), .val (.int p5), .val (.int va), .val (.int vb), .val (.int vc), .val (.int (3 : Int32)), .val (.int (3 : Int32)), .unset, .unset, .unset, .unset, .unset] [(.int (1 : Int32)), (.ref b57), (.ref b57), (.ref b56), (.ref b56)]))
      refine OwnR.of (fun _ hr => XS.iload X58.here hx rfl (hb hby at_143) rfl hr) ?_
      show OwnR _ _ _ _ _ _ _ (T58.setTop (mkF m 145 #[.val (.int p1), .val (.int p2), .val (.int p3), .val (.int p4), .val (.int p5), .val (.int va), .val (.int vb), .val (.int vc), .val (.int (3 : Int32)), .val (.int (3 : Int32)), .unset, .unset, .unset, .unset, .unset] [(.int vb), (.int (1 : Int32)), (.ref b57), (.ref b57), (.ref b56), (.ref b56)]))
      obtain ⟨cl59, Ar59, q59, S59, N59q, H59, G59⟩ := id V58
      have hin59 : ¬ ((1 : Int32) < 0 ∨ cl59.slots.size ≤ ((1 : Int32)).toNatClampNeg) := (inb_of S59 ⟨by decide, by decide⟩)
      obtain ⟨T59, h59, X59, e59, W59, st59⟩ := stI X58 hx hZ e58 Ar59 (j := (1 : Int32)) hin59 (g := (mkF m 145 #[.val (.int p1), .val (.int p2), .val (.int p3), .val (.int p4), .val (.int p5), .val (.int va), .val (.int vb), .val (.int vc), .val (.int (3 : Int32)), .val (.int (3 : Int32)), .unset, .unset, .unset, .unset, .unset] [(.int vb), (.int (1 : Int32)), (.ref b57), (.ref b57), (.ref b56), (.ref b56)])) rfl rfl (hb hby at_145)
      refine OwnR.of (st59) ?_
      have V59 := Arv.set Ar59 q59 S59 N59q H59 G59 rfl W59 1 rfl (Nat.le_of_ble_eq_true rfl)
      have V59 : Arv Z h59 b57 k57 .int (3 : Int32) [(.int va), (.int vb), (.int (0 : Int32))] (.int (0 : Int32)) := V59
      have K59 : Keep h0 h59 [] := Keep.wr K58 W59 (Or.inr sz_b57)
      have N59 := Fr.snoc X59 N58 gn_b57
      show OwnR _ _ _ _ _ _ _ (T59.setTop (mkF m 146 #[.val (.int p1), .val (.int p2), .val (.int p3), .val (.int p4), .val (.int p5), .val (.int va), .val (.int vb), .val (.int vc), .val (.int (3 : Int32)), .val (.int (3 : Int32)), .unset, .unset, .unset, .unset, .unset] [(.ref b57), (.ref b56), (.ref b56)]))
      refine OwnR.of (fun _ hr => XS.dup X59.here hx rfl (hb hby at_146) rfl rfl hr) ?_
      show OwnR _ _ _ _ _ _ _ (T59.setTop (mkF m 147 #[.val (.int p1), .val (.int p2), .val (.int p3), .val (.int p4), .val (.int p5), .val (.int va), .val (.int vb), .val (.int vc), .val (.int (3 : Int32)), .val (.int (3 : Int32)), .unset, .unset, .unset, .unset, .unset] [(.ref b57), (.ref b57), (.ref b56), (.ref b56)]))
      refine OwnR.of (fun _ hr => XS.iconst X59.here hx rfl (hb hby at_147) hr) ?_
      show OwnR _ _ _ _ _ _ _ (T59.setTop (mkF m 148 #[.val (.int p1), .val (.int p2), .val (.int p3), .val (.int p4), .val (.int p5), .val (.int va), .val (.int vb), .val (.int vc), .val (.int (3 : Int32)), .val (.int (3 : Int32)), .unset, .unset, .unset, .unset, .unset] [(.int (2 : Int32)), (.ref b57), (.ref b57), (.ref b56), (.ref b56)]))
      refine OwnR.of (fun _ hr => XS.iload X59.here hx rfl (hb hby at_148) rfl hr) ?_
      show OwnR _ _ _ _ _ _ _ (T59.setTop (mkF m 150 #[.val (.int p1), .val (.int p2), .val (.int p3), .val (.int p4), .val (.int p5), .val (.int va), .val (.int vb), .val (.int vc), .val (.int (3 : Int32)), .val (.int (3 : Int32)), .unset, .unset, .unset, .unset, .unset] [(.int vc), (.int (2 : Int32)), (.ref b57), (.ref b57), (.ref b56), (.ref b56)]))
      obtain ⟨cl60, Ar60, q60, S60, N60q, H60, G60⟩ := id V59
      have hin60 : ¬ ((2 : Int32) < 0 ∨ cl60.slots.size ≤ ((2 : Int32)).toNatClampNeg) := (inb_of S60 ⟨by decide, by decide⟩)
      obtain ⟨T60, h60, X60, e60, W60, st60⟩ := stI X59 hx hZ e59 Ar60 (j := (2 : Int32)) hin60 (g := (mkF m 150 #[.val (.int p1), .val (.int p2), .val (.int p3), .val (.int p4), .val (.int p5), .val (.int va), .val (.int vb), .val (.int vc), .val (.int (3 : Int32)), .val (.int (3 : Int32)), .unset, .unset, .unset, .unset, .unset] [(.int vc), (.int (2 : Int32)), (.ref b57), (.ref b57), (.ref b56), (.ref b56)])) rfl rfl (hb hby at_150)
      refine OwnR.of (st60) ?_
      have V60 := Arv.set Ar60 q60 S60 N60q H60 G60 rfl W60 2 rfl (Nat.le_of_ble_eq_true rfl)
      have V60 : Arv Z h60 b57 k57 .int (3 : Int32) [(.int va), (.int vb), (.int vc)] (.int (0 : Int32)) := V60
      have K60 : Keep h0 h60 [] := Keep.wr K59 W60 (Or.inr sz_b57)
      have N60 := Fr.snoc X60 N59 gn_b57
      show OwnR _ _ _ _ _ _ _ (T60.setTop (mkF m 151 #[.val (.int p1), .val (.int p2), .val (.int p3), .val (.int p4), .val (.int p5), .val (.int va), .val (.int vb), .val (.int vc), .val (.int (3 : Int32)), .val (.int (3 : Int32)), .unset, .unset, .unset, .unset, .unset] [(.ref b57), (.ref b56), (.ref b56)]))
      refine OwnR.of (fun _ hr => XS.iconst X60.here hx rfl (hb hby at_151) hr) ?_
      show OwnR _ _ _ _ _ _ _ (T60.setTop (mkF m 152 #[.val (.int p1), .val (.int p2), .val (.int p3), .val (.int p4), .val (.int p5), .val (.int va), .val (.int vb), .val (.int vc), .val (.int (3 : Int32)), .val (.int (3 : Int32)), .unset, .unset, .unset, .unset, .unset] [(.int (3 : Int32)), (.ref b57), (.ref b56), (.ref b56)]))
      obtain ⟨T61, h61, k61, X61, e61, E61, A61, AE61, st61⟩ := newPE X60 hx hZ (hw _ (List.mem_of_getElem? (i := 9) rfl)) e60 (g := (mkF m 152 #[.val (.int p1), .val (.int p2), .val (.int p3), .val (.int p4), .val (.int p5), .val (.int va), .val (.int vb), .val (.int vc), .val (.int (3 : Int32)), .val (.int (3 : Int32)), .unset, .unset, .unset, .unset, .unset] [(.int (3 : Int32)), (.ref b57), (.ref b56), (.ref b56)])) rfl (hb hby at_152) rfl (by decide) (cap := 3) (by decide) (by decide) (by decide) (by decide) (ad := "[D") rfl
      obtain ⟨b61, g61⟩ : ∃ z, z = h60.size := ⟨_, rfl⟩
      rw [← g61] at A61 AE61 st61
      refine OwnR.of (st61) ?_
      have gn_b61 : n0 ≤ b61 := Nat.le_trans (Nat.le_trans Z0 K60.1) (Nat.le_of_eq g61.symm)
      have sz_b61 : h0.size ≤ b61 := Nat.le_trans K60.1 (Nat.le_of_eq g61.symm)
      have K61 : Keep h0 h61 [] := Keep.ext K60 E61
      have V61 : Arv Z h61 b61 k61 .double (3 : Int32) [(.double (0 : UInt64)), (.double (0 : UInt64)), (.double (0 : UInt64))] (.double (0 : UInt64)) := (Arv.new A61 (by decide)).pad (pad_rep [] (.double (0 : UInt64)) 3)
      show OwnR _ _ _ _ _ _ _ (T61.setTop (mkF m 154 #[.val (.int p1), .val (.int p2), .val (.int p3), .val (.int p4), .val (.int p5), .val (.int va), .val (.int vb), .val (.int vc), .val (.int (3 : Int32)), .val (.int (3 : Int32)), .unset, .unset, .unset, .unset, .unset] [(.ref b61), (.ref b57), (.ref b56), (.ref b56)]))
      refine OwnR.of (fun _ hr => XS.dup X61.here hx rfl (hb hby at_154) rfl rfl hr) ?_
      show OwnR _ _ _ _ _ _ _ (T61.setTop (mkF m 155 #[.val (.int p1), .val (.int p2), .val (.int p3), .val (.int p4), .val (.int p5), .val (.int va), .val (.int vb), .val (.int vc), .val (.int (3 : Int32)), .val (.int (3 : Int32)), .unset, .unset, .unset, .unset, .unset] [(.ref b61), (.ref b61), (.ref b57), (.ref b56), (.ref b56)]))
      refine OwnR.of (fun _ hr => XS.iconst X61.here hx rfl (hb hby at_155) hr) ?_
      show OwnR _ _ _ _ _ _ _ (T61.setTop (mkF m 156 #[.val (.int p1), .val (.int p2), .val (.int p3), .val (.int p4), .val (.int p5), .val (.int va), .val (.int vb), .val (.int vc), .val (.int (3 : Int32)), .val (.int (3 : Int32)), .unset, .unset, .unset, .unset, .unset] [(.int (0 : Int32)), (.ref b61), (.ref b61), (.ref b57), (.ref b56), (.ref b56)]))
      refine OwnR.of (fun _ hr => XS.dconst0 X61.here hx rfl (hb hby at_156) (v := (0 : UInt64)) (by decide +kernel) hr) ?_
      show OwnR _ _ _ _ _ _ _ (T61.setTop (mkF m 157 #[.val (.int p1), .val (.int p2), .val (.int p3), .val (.int p4), .val (.int p5), .val (.int va), .val (.int vb), .val (.int vc), .val (.int (3 : Int32)), .val (.int (3 : Int32)), .unset, .unset, .unset, .unset, .unset] [(.double (0 : UInt64)), (.int (0 : Int32)), (.ref b61), (.ref b61), (.ref b57), (.ref b56), (.ref b56)]))
      obtain ⟨cl62, Ar62, q62, S62, N62q, H62, G62⟩ := id V61
      have hin62 : ¬ ((0 : Int32) < 0 ∨ cl62.slots.size ≤ ((0 : Int32)).toNatClampNeg) := (inb_of S62 ⟨by decide, by decide⟩)
      obtain ⟨T62, h62, X62, e62, W62, st62⟩ := stD X61 hx hZ e61 Ar62 (j := (0 : Int32)) hin62 (g := (mkF m 157 #[.val (.int p1), .val (.int p2), .val (.int p3), .val (.int p4), .val (.int p5), .val (.int va), .val (.int vb), .val (.int vc), .val (.int (3 : Int32)), .val (.int (3 : Int32)), .unset, .unset, .unset, .unset, .unset] [(.double (0 : UInt64)), (.int (0 : Int32)), (.ref b61), (.ref b61), (.ref b57), (.ref b56), (.ref b56)])) rfl rfl (hb hby at_157)
      refine OwnR.of (st62) ?_
      have V62 := Arv.set Ar62 q62 S62 N62q H62 G62 rfl W62 0 rfl (Nat.le_of_ble_eq_true rfl)
      have V62 : Arv Z h62 b61 k61 .double (3 : Int32) [(.double (0 : UInt64)), (.double (0 : UInt64)), (.double (0 : UInt64))] (.double (0 : UInt64)) := V62
      have K62 : Keep h0 h62 [] := Keep.wr K61 W62 (Or.inr sz_b61)
      have N62 := Fr.snoc X62 N60 gn_b61
      show OwnR _ _ _ _ _ _ _ (T62.setTop (mkF m 158 #[.val (.int p1), .val (.int p2), .val (.int p3), .val (.int p4), .val (.int p5), .val (.int va), .val (.int vb), .val (.int vc), .val (.int (3 : Int32)), .val (.int (3 : Int32)), .unset, .unset, .unset, .unset, .unset] [(.ref b61), (.ref b57), (.ref b56), (.ref b56)]))
      refine OwnR.of (fun _ hr => XS.dup X62.here hx rfl (hb hby at_158) rfl rfl hr) ?_
      show OwnR _ _ _ _ _ _ _ (T62.setTop (mkF m 159 #[.val (.int p1), .val (.int p2), .val (.int p3), .val (.int p4), .val (.int p5), .val (.int va), .val (.int vb), .val (.int vc), .val (.int (3 : Int32)), .val (.int (3 : Int32)), .unset, .unset, .unset, .unset, .unset] [(.ref b61), (.ref b61), (.ref b57), (.ref b56), (.ref b56)]))
      refine OwnR.of (fun _ hr => XS.iconst X62.here hx rfl (hb hby at_159) hr) ?_
      show OwnR _ _ _ _ _ _ _ (T62.setTop (mkF m 160 #[.val (.int p1), .val (.int p2), .val (.int p3), .val (.int p4), .val (.int p5), .val (.int va), .val (.int vb), .val (.int vc), .val (.int (3 : Int32)), .val (.int (3 : Int32)), .unset, .unset, .unset, .unset, .unset] [(.int (1 : Int32)), (.ref b61), (.ref b61), (.ref b57), (.ref b56), (.ref b56)]))
      refine OwnR.of (fun _ hr => XS.dconst0 X62.here hx rfl (hb hby at_160) (v := (0 : UInt64)) (by decide +kernel) hr) ?_
      show OwnR _ _ _ _ _ _ _ (T62.setTop (mkF m 161 #[.val (.int p1), .val (.int p2), .val (.int p3), .val (.int p4), .val (.int p5), .val (.int va), .val (.int vb), .val (.int vc), .val (.int (3 : Int32)), .val (.int (3 : Int32)), .unset, .unset, .unset, .unset, .unset] [(.double (0 : UInt64)), (.int (1 : Int32)), (.ref b61), (.ref b61), (.ref b57), (.ref b56), (.ref b56)]))
      obtain ⟨cl63, Ar63, q63, S63, N63q, H63, G63⟩ := id V62
      have hin63 : ¬ ((1 : Int32) < 0 ∨ cl63.slots.size ≤ ((1 : Int32)).toNatClampNeg) := (inb_of S63 ⟨by decide, by decide⟩)
      obtain ⟨T63, h63, X63, e63, W63, st63⟩ := stD X62 hx hZ e62 Ar63 (j := (1 : Int32)) hin63 (g := (mkF m 161 #[.val (.int p1), .val (.int p2), .val (.int p3), .val (.int p4), .val (.int p5), .val (.int va), .val (.int vb), .val (.int vc), .val (.int (3 : Int32)), .val (.int (3 : Int32)), .unset, .unset, .unset, .unset, .unset] [(.double (0 : UInt64)), (.int (1 : Int32)), (.ref b61), (.ref b61), (.ref b57), (.ref b56), (.ref b56)])) rfl rfl (hb hby at_161)
      refine OwnR.of (st63) ?_
      have V63 := Arv.set Ar63 q63 S63 N63q H63 G63 rfl W63 1 rfl (Nat.le_of_ble_eq_true rfl)
      have V63 : Arv Z h63 b61 k61 .double (3 : Int32) [(.double (0 : UInt64)), (.double (0 : UInt64)), (.double (0 : UInt64))] (.double (0 : UInt64)) := V63
      have K63 : Keep h0 h63 [] := Keep.wr K62 W63 (Or.inr sz_b61)
      have N63 := Fr.snoc X63 N62 gn_b61
      show OwnR _ _ _ _ _ _ _ (T63.setTop (mkF m 162 #[.val (.int p1), .val (.int p2), .val (.int p3), .val (.int p4), .val (.int p5), .val (.int va), .val (.int vb), .val (.int vc), .val (.int (3 : Int32)), .val (.int (3 : Int32)), .unset, .unset, .unset, .unset, .unset] [(.ref b61), (.ref b57), (.ref b56), (.ref b56)]))
      refine OwnR.of (fun _ hr => XS.dup X63.here hx rfl (hb hby at_162) rfl rfl hr) ?_
      show OwnR _ _ _ _ _ _ _ (T63.setTop (mkF m 163 #[.val (.int p1), .val (.int p2), .val (.int p3), .val (.int p4), .val (.int p5), .val (.int va), .val (.int vb), .val (.int vc), .val (.int (3 : Int32)), .val (.int (3 : Int32)), .unset, .unset, .unset, .unset, .unset] [(.ref b61), (.ref b61), (.ref b57), (.ref b56), (.ref b56)]))
      refine OwnR.of (fun _ hr => XS.iconst X63.here hx rfl (hb hby at_163) hr) ?_
      show OwnR _ _ _ _ _ _ _ (T63.setTop (mkF m 164 #[.val (.int p1), .val (.int p2), .val (.int p3), .val (.int p4), .val (.int p5), .val (.int va), .val (.int vb), .val (.int vc), .val (.int (3 : Int32)), .val (.int (3 : Int32)), .unset, .unset, .unset, .unset, .unset] [(.int (2 : Int32)), (.ref b61), (.ref b61), (.ref b57), (.ref b56), (.ref b56)]))
      refine OwnR.of (fun _ hr => XS.dconst0 X63.here hx rfl (hb hby at_164) (v := (0 : UInt64)) (by decide +kernel) hr) ?_
      show OwnR _ _ _ _ _ _ _ (T63.setTop (mkF m 165 #[.val (.int p1), .val (.int p2), .val (.int p3), .val (.int p4), .val (.int p5), .val (.int va), .val (.int vb), .val (.int vc), .val (.int (3 : Int32)), .val (.int (3 : Int32)), .unset, .unset, .unset, .unset, .unset] [(.double (0 : UInt64)), (.int (2 : Int32)), (.ref b61), (.ref b61), (.ref b57), (.ref b56), (.ref b56)]))
      obtain ⟨cl64, Ar64, q64, S64, N64q, H64, G64⟩ := id V63
      have hin64 : ¬ ((2 : Int32) < 0 ∨ cl64.slots.size ≤ ((2 : Int32)).toNatClampNeg) := (inb_of S64 ⟨by decide, by decide⟩)
      obtain ⟨T64, h64, X64, e64, W64, st64⟩ := stD X63 hx hZ e63 Ar64 (j := (2 : Int32)) hin64 (g := (mkF m 165 #[.val (.int p1), .val (.int p2), .val (.int p3), .val (.int p4), .val (.int p5), .val (.int va), .val (.int vb), .val (.int vc), .val (.int (3 : Int32)), .val (.int (3 : Int32)), .unset, .unset, .unset, .unset, .unset] [(.double (0 : UInt64)), (.int (2 : Int32)), (.ref b61), (.ref b61), (.ref b57), (.ref b56), (.ref b56)])) rfl rfl (hb hby at_165)
      refine OwnR.of (st64) ?_
      have V64 := Arv.set Ar64 q64 S64 N64q H64 G64 rfl W64 2 rfl (Nat.le_of_ble_eq_true rfl)
      have V64 : Arv Z h64 b61 k61 .double (3 : Int32) [(.double (0 : UInt64)), (.double (0 : UInt64)), (.double (0 : UInt64))] (.double (0 : UInt64)) := V64
      have K64 : Keep h0 h64 [] := Keep.wr K63 W64 (Or.inr sz_b61)
      have N64 := Fr.snoc X64 N63 gn_b61
      show OwnR _ _ _ _ _ _ _ (T64.setTop (mkF m 166 #[.val (.int p1), .val (.int p2), .val (.int p3), .val (.int p4), .val (.int p5), .val (.int va), .val (.int vb), .val (.int vc), .val (.int (3 : Int32)), .val (.int (3 : Int32)), .unset, .unset, .unset, .unset, .unset] [(.ref b61), (.ref b57), (.ref b56), (.ref b56)]))
      refine OwnR.of (fun _ hr => XS.aconstNull X64.here hx rfl (hb hby at_166) hr) ?_
      show OwnR _ _ _ _ _ _ _ (T64.setTop (mkF m 167 #[.val (.int p1), .val (.int p2), .val (.int p3), .val (.int p4), .val (.int p5), .val (.int va), .val (.int vb), .val (.int vc), .val (.int (3 : Int32)), .val (.int (3 : Int32)), .unset, .unset, .unset, .unset, .unset] [.null, (.ref b61), (.ref b57), (.ref b56), (.ref b56)]))
      obtain ⟨_, _, ⟨T65, L65, kc65, ns65⟩, -, X65, ⟨Lc65, hQ65, l65, y65, z65⟩, st65⟩ := X64.specialBack hx (y := (⟨"com/example/ramification/ramification/model/StrahlerOrders", "<init>", "([I[DLjava/util/Optional;)V"⟩ : MethodName)) rfl hown (mvT hZ (hw _ (List.mem_of_getElem? (i := 10) rfl))) (mvT hZ (hw _ (List.mem_of_getElem? (i := 11) rfl))) (mvT hZ (hw _ (List.mem_of_getElem? (i := 12) rfl))) (by decide) (backOf (W := 1) (rm2_3 l Z a0 hw [] b56 b57 b61 k57 k61 va vb vc h64 n0 (Nat.le_trans Z0 K64.1) (Exa.wr W64 (Exa.wr W63 (Exa.wr W62 (Exa.ext E61 (Exa.wr W60 (Exa.wr W59 (Exa.wr W58 (Exa.ext E57 A56)))))))) (Fld.other W64 (Fld.other W63 (Fld.other W62 (Fld.ext E61 (Fld.other W60 (Fld.other W59 (Fld.other W58 (Fld.ext E57 F_branches_b56) (Or.inl (Nat.ne_of_lt (Nat.lt_of_lt_of_le A56.lt (Nat.le_of_eq g57.symm))))) (Or.inl (Nat.ne_of_lt (Nat.lt_of_lt_of_le A56.lt (Nat.le_of_eq g57.symm))))) (Or.inl (Nat.ne_of_lt (Nat.lt_of_lt_of_le A56.lt (Nat.le_of_eq g57.symm)))))) (Or.inl (Nat.ne_of_lt (Nat.lt_of_lt_of_le (Exa.wr W60 (Exa.wr W59 (Exa.wr W58 (Exa.ext E57 A56)))).lt (Nat.le_of_eq g61.symm))))) (Or.inl (Nat.ne_of_lt (Nat.lt_of_lt_of_le (Exa.wr W60 (Exa.wr W59 (Exa.wr W58 (Exa.ext E57 A56)))).lt (Nat.le_of_eq g61.symm))))) (Or.inl (Nat.ne_of_lt (Nat.lt_of_lt_of_le (Exa.wr W60 (Exa.wr W59 (Exa.wr W58 (Exa.ext E57 A56)))).lt (Nat.le_of_eq g61.symm))))) (Fld.other W64 (Fld.other W63 (Fld.other W62 (Fld.ext E61 (Fld.other W60 (Fld.other W59 (Fld.other W58 (Fld.ext E57 F_lengths_b56) (Or.inl (Nat.ne_of_lt (Nat.lt_of_lt_of_le A56.lt (Nat.le_of_eq g57.symm))))) (Or.inl (Nat.ne_of_lt (Nat.lt_of_lt_of_le A56.lt (Nat.le_of_eq g57.symm))))) (Or.inl (Nat.ne_of_lt (Nat.lt_of_lt_of_le A56.lt (Nat.le_of_eq g57.symm)))))) (Or.inl (Nat.ne_of_lt (Nat.lt_of_lt_of_le (Exa.wr W60 (Exa.wr W59 (Exa.wr W58 (Exa.ext E57 A56)))).lt (Nat.le_of_eq g61.symm))))) (Or.inl (Nat.ne_of_lt (Nat.lt_of_lt_of_le (Exa.wr W60 (Exa.wr W59 (Exa.wr W58 (Exa.ext E57 A56)))).lt (Nat.le_of_eq g61.symm))))) (Or.inl (Nat.ne_of_lt (Nat.lt_of_lt_of_le (Exa.wr W60 (Exa.wr W59 (Exa.wr W58 (Exa.ext E57 A56)))).lt (Nat.le_of_eq g61.symm))))) (Fld.other W64 (Fld.other W63 (Fld.other W62 (Fld.ext E61 (Fld.other W60 (Fld.other W59 (Fld.other W58 (Fld.ext E57 F_unit_b56) (Or.inl (Nat.ne_of_lt (Nat.lt_of_lt_of_le A56.lt (Nat.le_of_eq g57.symm))))) (Or.inl (Nat.ne_of_lt (Nat.lt_of_lt_of_le A56.lt (Nat.le_of_eq g57.symm))))) (Or.inl (Nat.ne_of_lt (Nat.lt_of_lt_of_le A56.lt (Nat.le_of_eq g57.symm)))))) (Or.inl (Nat.ne_of_lt (Nat.lt_of_lt_of_le (Exa.wr W60 (Exa.wr W59 (Exa.wr W58 (Exa.ext E57 A56)))).lt (Nat.le_of_eq g61.symm))))) (Or.inl (Nat.ne_of_lt (Nat.lt_of_lt_of_le (Exa.wr W60 (Exa.wr W59 (Exa.wr W58 (Exa.ext E57 A56)))).lt (Nat.le_of_eq g61.symm))))) (Or.inl (Nat.ne_of_lt (Nat.lt_of_lt_of_le (Exa.wr W60 (Exa.wr W59 (Exa.wr W58 (Exa.ext E57 A56)))).lt (Nat.le_of_eq g61.symm))))) (Arv.other (Arv.other (Arv.other (Arv.ext V60 E61) W62 (Nat.ne_of_lt (Nat.lt_of_lt_of_le (Exa.wr W60 (Exa.wr W59 (Exa.wr W58 AE57))).lt (Nat.le_of_eq g61.symm)))) W63 (Nat.ne_of_lt (Nat.lt_of_lt_of_le (Exa.wr W60 (Exa.wr W59 (Exa.wr W58 AE57))).lt (Nat.le_of_eq g61.symm)))) W64 (Nat.ne_of_lt (Nat.lt_of_lt_of_le (Exa.wr W60 (Exa.wr W59 (Exa.wr W58 AE57))).lt (Nat.le_of_eq g61.symm)))) V64 (Exa.wr W64 (Exa.wr W63 (Exa.wr W62 (Exa.ext E61 (Exa.wr W60 (Exa.wr W59 (Exa.wr W58 AE57))))))) (Exa.wr W64 (Exa.wr W63 (Exa.wr W62 AE61))) gn_b56 (Nat.ne_of_lt (Nat.lt_of_lt_of_le A56.lt (Nat.le_of_eq g57.symm))) (Nat.ne_of_lt (Nat.lt_of_lt_of_le (Exa.wr W60 (Exa.wr W59 (Exa.wr W58 (Exa.ext E57 A56)))).lt (Nat.le_of_eq g61.symm))) hva1 hvb1 hvc1) hZ (hw _ (List.mem_of_getElem? (i := 12) rfl)) (hw _ (List.mem_of_getElem? (i := 7) rfl)) (by decide) (by decide)) (g := (mkF m 167 #[.val (.int p1), .val (.int p2), .val (.int p3), .val (.int p4), .val (.int p5), .val (.int va), .val (.int vb), .val (.int vc), .val (.int (3 : Int32)), .val (.int (3 : Int32)), .unset, .unset, .unset, .unset, .unset] [.null, (.ref b61), (.ref b57), (.ref b56), (.ref b56)])) rfl (by rw [hml]; rfl) (Steps.refl _) (a := b56) (argsL := [(.ref b57), (.ref b61), .null]) (rest := [(.ref b56)]) (lenOf pd___I_DLjava_util_Optional__V rfl) rfl (by show 2 * 0 + _ ≤ _; exact Nat.le_of_eq rfl) (hb hby at_167) (fun _ _ => ⟨rfl, e64, (by decide : 3 + 2 ≤ _), (by decide : 9 + 6 ≤ _)⟩)
      dsimp only [Pt.U, Pt.locs, Pt.cells, Pt.slots] at X65 l65 y65 z65 st65 hQ65
      rw [l65, y65, z65] at X65
      obtain ⟨bI_65, rfl, N65q, P65_0, P65_1, P65_2, P65_3⟩ := hQ65
      have K65 : Keep h0 T65.heap [] := Keep.trans K64 P65_0 (allS (Or.inr sz_b56) all0)
      have N65 := Fr.app N64 N65q
      refine OwnR.of (fun _ hr => st65.trans hr) ?_
      show OwnR _ _ _ _ _ _ _ (T65.setTop (mkF m 170 #[.val (.int p1), .val (.int p2), .val (.int p3), .val (.int p4), .val (.int p5), .val (.int va), .val (.int vb), .val (.int vc), .val (.int (3 : Int32)), .val (.int (3 : Int32)), .unset, .unset, .unset, .unset, .unset] [(.ref b56)]))
      refine OwnR.of (fun _ hr => XS.astore X65.here hx rfl (hb hby at_170) rfl rfl (l' := #[.val (.int p1), .val (.int p2), .val (.int p3), .val (.int p4), .val (.int p5), .val (.int va), .val (.int vb), .val (.int vc), .val (.int (3 : Int32)), .val (.int (3 : Int32)), .val (.ref b56), .unset, .unset, .unset, .unset]) rfl hr) ?_
      show OwnR _ _ _ _ _ _ _ (T65.setTop (mkF m 172 #[.val (.int p1), .val (.int p2), .val (.int p3), .val (.int p4), .val (.int p5), .val (.int va), .val (.int vb), .val (.int vc), .val (.int (3 : Int32)), .val (.int (3 : Int32)), .val (.ref b56), .unset, .unset, .unset, .unset] []))
      refine OwnR.of (fun _ hr => XS.aload X65.here hx rfl (hb hby at_172) rfl rfl hr) ?_
      show OwnR _ _ _ _ _ _ _ (T65.setTop (mkF m 174 #[.val (.int p1), .val (.int p2), .val (.int p3), .val (.int p4), .val (.int p5), .val (.int va), .val (.int vb), .val (.int vc), .val (.int (3 : Int32)), .val (.int (3 : Int32)), .val (.ref b56), .unset, .unset, .unset, .unset] [(.ref b56)]))
      refine OwnR.of (fun _ hr => XS.iload X65.here hx rfl (hb hby at_174) rfl hr) ?_
      show OwnR _ _ _ _ _ _ _ (T65.setTop (mkF m 176 #[.val (.int p1), .val (.int p2), .val (.int p3), .val (.int p4), .val (.int p5), .val (.int va), .val (.int vb), .val (.int vc), .val (.int (3 : Int32)), .val (.int (3 : Int32)), .val (.ref b56), .unset, .unset, .unset, .unset] [(.int (3 : Int32)), (.ref b56)]))
      obtain ⟨cq66, kq66, q66a, q66b, q66c⟩ := isOf hZ rfl P65_1
      obtain ⟨_, _, ⟨T66, L66, kc66, ns66⟩, -, X66, ⟨Lc66, hQ66, l66, y66, z66⟩, st66⟩ := X65.virtualBack hx (y := (⟨"com/example/ramification/ramification/model/StrahlerOrders", "getBifurcationRatio", "(I)D"⟩ : MethodName)) (z := (⟨"com/example/ramification/ramification/model/StrahlerOrders", "getBifurcationRatio", "(I)D"⟩ : MethodName)) hown (mvT hZ (hw _ (List.mem_of_getElem? (i := 37) rfl))) (mvT hZ (hw _ (List.mem_of_getElem? (i := 38) rfl))) (notFace_of_selects (args := #[]) (mvT hZ (hw _ (List.mem_of_getElem? (i := 40) rfl)))) (mvT hZ (hw _ (List.mem_of_getElem? (i := 40) rfl))) (mvT hZ (hw _ (List.mem_of_getElem? (i := 39) rfl))) (by decide) (backOf (W := 0) (rm4_3_3 l Z a0 hw [] b56 bI_65 k57 va vb vc (T65.heap) n0 (Nat.le_trans Z0 K65.1) P65_1 P65_2 P65_3) hZ (hw _ (List.mem_of_getElem? (i := 41) rfl)) (hw _ (List.mem_of_getElem? (i := 7) rfl)) (by decide) (by decide)) q66a q66c (g := (mkF m 176 #[.val (.int p1), .val (.int p2), .val (.int p3), .val (.int p4), .val (.int p5), .val (.int va), .val (.int vb), .val (.int vc), .val (.int (3 : Int32)), .val (.int (3 : Int32)), .val (.ref b56), .unset, .unset, .unset, .unset] [(.int (3 : Int32)), (.ref b56)])) rfl (by rw [hml]; rfl) (Steps.refl _) (argsL := [(.int (3 : Int32))]) (rest := []) (lenOf pd__I_D rfl) rfl (by show 2 * 0 + _ ≤ _; exact Nat.le_of_eq rfl) (hb hby at_176) (fun _ _ => ⟨rfl, rfl, (by decide : 5 + 0 ≤ _), (by decide : 15 + 0 ≤ _)⟩)
      dsimp only [Pt.U, Pt.locs, Pt.cells, Pt.slots] at X66 l66 y66 z66 st66 hQ66
      rw [l66, y66, z66] at X66
      obtain ⟨rfl, N66q, e66⟩ := hQ66
      have N66 := Fr.app N65 N66q
      refine OwnR.of (fun _ hr => st66.trans hr) ?_
      show OwnR _ _ _ _ _ _ _ (T66.setTop (mkF m 179 #[.val (.int p1), .val (.int p2), .val (.int p3), .val (.int p4), .val (.int p5), .val (.int va), .val (.int vb), .val (.int vc), .val (.int (3 : Int32)), .val (.int (3 : Int32)), .val (.ref b56), .unset, .unset, .unset, .unset] [(.double (9221120237041090560 : UInt64))]))
      refine OwnR.of (fun _ hr => XS.dstore X66.here hx rfl (hb hby at_179) rfl (l' := #[.val (.int p1), .val (.int p2), .val (.int p3), .val (.int p4), .val (.int p5), .val (.int va), .val (.int vb), .val (.int vc), .val (.int (3 : Int32)), .val (.int (3 : Int32)), .val (.ref b56), .val (.double (9221120237041090560 : UInt64)), .second, .unset, .unset]) rfl hr) ?_
      show OwnR _ _ _ _ _ _ _ (T66.setTop (mkF m 181 #[.val (.int p1), .val (.int p2), .val (.int p3), .val (.int p4), .val (.int p5), .val (.int va), .val (.int vb), .val (.int vc), .val (.int (3 : Int32)), .val (.int (3 : Int32)), .val (.ref b56), .val (.double (9221120237041090560 : UInt64)), .second, .unset, .unset] []))
      refine OwnR.of (fun _ hr => XS.iload X66.here hx rfl (hb hby at_181) rfl hr) ?_
      show OwnR _ _ _ _ _ _ _ (T66.setTop (mkF m 183 #[.val (.int p1), .val (.int p2), .val (.int p3), .val (.int p4), .val (.int p5), .val (.int va), .val (.int vb), .val (.int vc), .val (.int (3 : Int32)), .val (.int (3 : Int32)), .val (.ref b56), .val (.double (9221120237041090560 : UInt64)), .second, .unset, .unset] [(.int (3 : Int32))]))
      refine OwnR.of (fun _ hr => XS.iload X66.here hx rfl (hb hby at_183) rfl hr) ?_
      show OwnR _ _ _ _ _ _ _ (T66.setTop (mkF m 185 #[.val (.int p1), .val (.int p2), .val (.int p3), .val (.int p4), .val (.int p5), .val (.int va), .val (.int vb), .val (.int vc), .val (.int (3 : Int32)), .val (.int (3 : Int32)), .val (.ref b56), .val (.double (9221120237041090560 : UInt64)), .second, .unset, .unset] [(.int (3 : Int32)), (.int (3 : Int32))]))
      refine OwnR.of (fun _ hr => XS.icmpNo X66.here hx rfl (hb hby at_185) rfl (teq (by decide : (3 : Int32) = (3 : Int32))).2 hr) ?_
      show OwnR _ _ _ _ _ _ _ (T66.setTop (mkF m 188 #[.val (.int p1), .val (.int p2), .val (.int p3), .val (.int p4), .val (.int p5), .val (.int va), .val (.int vb), .val (.int vc), .val (.int (3 : Int32)), .val (.int (3 : Int32)), .val (.ref b56), .val (.double (9221120237041090560 : UInt64)), .second, .unset, .unset] []))
      refine OwnR.of (fun _ hr => XS.dload X66.here hx rfl (hb hby at_188) rfl hr) ?_
      show OwnR _ _ _ _ _ _ _ (T66.setTop (mkF m 190 #[.val (.int p1), .val (.int p2), .val (.int p3), .val (.int p4), .val (.int p5), .val (.int va), .val (.int vb), .val (.int vc), .val (.int (3 : Int32)), .val (.int (3 : Int32)), .val (.ref b56), .val (.double (9221120237041090560 : UInt64)), .second, .unset, .unset] [(.double (9221120237041090560 : UInt64))]))
      refine OwnR.of (fun _ hr => XS.dload X66.here hx rfl (hb hby at_190) rfl hr) ?_
      show OwnR _ _ _ _ _ _ _ (T66.setTop (mkF m 192 #[.val (.int p1), .val (.int p2), .val (.int p3), .val (.int p4), .val (.int p5), .val (.int va), .val (.int vb), .val (.int vc), .val (.int (3 : Int32)), .val (.int (3 : Int32)), .val (.ref b56), .val (.double (9221120237041090560 : UInt64)), .second, .unset, .unset] [(.double (9221120237041090560 : UInt64)), (.double (9221120237041090560 : UInt64))]))
      refine OwnR.of (fun _ hr => XS.dcmpS (v := (-1 : Int32)) X66.here hx rfl (hb hby at_192) rfl (by decide +kernel) hr) ?_
      show OwnR _ _ _ _ _ _ _ (T66.setTop (mkF m 193 #[.val (.int p1), .val (.int p2), .val (.int p3), .val (.int p4), .val (.int p5), .val (.int va), .val (.int vb), .val (.int vc), .val (.int (3 : Int32)), .val (.int (3 : Int32)), .val (.ref b56), .val (.double (9221120237041090560 : UInt64)), .second, .unset, .unset] [(.int (-1 : Int32))]))
      refine OwnR.of (fun _ hr => XS.ifNo X66.here hx rfl (hb hby at_193) rfl ((if0 _ _).trans (feq (by decide : ¬ ((-1 : Int32) = (0 : Int32)))).1) hr) ?_
      show OwnR _ _ _ _ _ _ _ (T66.setTop (mkF m 196 #[.val (.int p1), .val (.int p2), .val (.int p3), .val (.int p4), .val (.int p5), .val (.int va), .val (.int vb), .val (.int vc), .val (.int (3 : Int32)), .val (.int (3 : Int32)), .val (.ref b56), .val (.double (9221120237041090560 : UInt64)), .second, .unset, .unset] []))
      refine OwnR.of (fun _ hr => XS.iconst X66.here hx rfl (hb hby at_196) hr) ?_
      show OwnR _ _ _ _ _ _ _ (T66.setTop (mkF m 197 #[.val (.int p1), .val (.int p2), .val (.int p3), .val (.int p4), .val (.int p5), .val (.int va), .val (.int vb), .val (.int vc), .val (.int (3 : Int32)), .val (.int (3 : Int32)), .val (.ref b56), .val (.double (9221120237041090560 : UInt64)), .second, .unset, .unset] [(.int (1 : Int32))]))
      refine OwnR.of (fun _ hr => XS.goto X66.here hx rfl (pc0 := 197) (pc' := 201) rfl (hb hby at_197) (by decide) (by decide) hr) ?_
      show OwnR _ _ _ _ _ _ _ (T66.setTop (mkF m 201 #[.val (.int p1), .val (.int p2), .val (.int p3), .val (.int p4), .val (.int p5), .val (.int va), .val (.int vb), .val (.int vc), .val (.int (3 : Int32)), .val (.int (3 : Int32)), .val (.ref b56), .val (.double (9221120237041090560 : UInt64)), .second, .unset, .unset] [(.int (1 : Int32))]))
      refine own_leafN X66 hx hlk (t := .boolean) Bd.returns (by simp) (hb hby at_201) (z' := (1 : Int32)) rfl (by decide) (by decide) ?_
      show Q0 Z  h0 n0 _ T66.heap _
      rw [show T66.heap = T65.heap from e66]
      refine ⟨?_, N66⟩
      show (some (.int (1 : Int32)) : Option Value) = some (.int (1 : Int32))
      rfl
set_option maxRecDepth 65536 in
set_option maxHeartbeats 40000000 in
theorem comes_1 {Post : Tables → Env → Array Value → State → Outcome → State → Prop} (hpost : ∀ tb e args s v u, (limb_1_1.after args s (.returned v) u = true ∧ limb_1_2.after args s (.returned v) u = true ∧ True) → FrameEnd s (.returned v) u (Jvm.fieldLocs frame_1_writes args s ++ Jvm.arrayLocs frame_1_arrays args s ++ Jvm.staticLocs frame_1_statics s) 24 128 → Post tb e args s (.returned v) u) :
    ArmFor flags0 classFile x code maxLocals ret World_1 tables_1 room_1 Calls_1 rest_1 Pre_1 Post := by
  intro l hfl _ _ p e ha hc hk s m args below hf hA hF happ hP
  obtain ⟨hcalls, hrest, hpre⟩ := hP
  obtain ⟨-, -, -, hnamed, -, -, -, hat⟩ := (Spec.applies_iff hf).mp happ
  obtain ⟨hg, hn⟩ := and_e (Cond.before_iff.mp (show (Jvm.Cond.and given_1 narrow_1).before args s = true from hpre))
  obtain ⟨ga1, gb1⟩ := and_e hg
  obtain ⟨ga2, gb2⟩ := and_e gb1
  obtain ⟨ga3, gb3⟩ := and_e gb2
  obtain ⟨ga4, gb4⟩ := and_e gb3
  obtain ⟨ga5, gb5⟩ := and_e gb4
  obtain ⟨w0, w1, w2, w3, w4, rfl⟩ : ∃ w0 w1 w2 w3 w4 : Value, args = #[w0, w1, w2, w3, w4] := by
    have hs : args.size = 5 := by simpa [Cond.value, given_1] using ga1
    obtain ⟨L⟩ := args
    match L, hs with
    | [w0, w1, w2, w3, w4], _ => exact ⟨w0, w1, w2, w3, w4, rfl⟩
  have hw := fun d (hd : d ∈ tables_1) => atoms_spec (ws := Jvm.Cond.code x code maxLocals ret :: tables_1) hat d (List.mem_cons_of_mem _ hd)
  have hfit : Fit s := fun {y c} hc i hi => by
    obtain ⟨ha, rfl⟩ := Array.getElem?_eq_some_iff.mp hc
    have q := List.all_eq_true.mp ((Array.all_eq_true_iff_forall_mem.mp hF) _ (Array.getElem_mem ha)) i (List.mem_range.mpr hi)
    simpa [Array.getElem?_eq_getElem hi] using q
  obtain ⟨i0, ei0⟩ := is_v ga2
  obtain rfl : w0 = (.int i0) := Option.some.inj ei0
  obtain ⟨i1, ei1⟩ := is_v ga3
  obtain rfl : w1 = (.int i1) := Option.some.inj ei1
  obtain ⟨i2, ei2⟩ := is_v ga4
  obtain rfl : w2 = (.int i2) := Option.some.inj ei2
  obtain ⟨i3, ei3⟩ := is_v ga5
  obtain rfl : w3 = (.int i3) := Option.some.inj ei3
  obtain ⟨i4, ei4⟩ := is_v gb5
  obtain rfl : w4 = (.int i4) := Option.some.inj ei4
  obtain ⟨n, o, h1, h2, h3, _, L, rfl, ⟨rfl, N⟩, hq⟩ := rm0 l s _ hw tables_1 i0 i1 i2 i3 i4 s.heap s.heap.size (Nat.le_refl _) p e ha hc hk s m _ below hf ((Spec.applies_iff_loose hf).mp happ).1 ⟨rfl, State.Warmed39.refl s, rfl⟩ trivial
  refine ⟨n, _, h1, h2, h3, hpost _ _ _ _ _ _ ⟨Cond.after_iff.mpr rfl, Cond.after_iff.mpr (eq_i res_at (Term.int_eval (1)) rfl), trivial⟩ ⟨hq.1, hq.2.1, (hq.2.2.sift fun y hy => Or.inr (N y hy)).mono (by decide) (by decide)⟩⟩
theorem main_1_1 : Claimed_1_1 := comes_1 fun _ _ _ _ _ _ h hF => ⟨h.1, hF⟩
theorem main_1_2 : Claimed_1_2 := comes_1 fun _ _ _ _ _ _ h hF => ⟨h.2.1, hF⟩
end Jvm.Pilot.@@N@@
namespace Jvm.Pilot.@@N@@
open Jvm Jvm.ClassFile Sem Op Lib Jvm.Free Jvm.Stand Jvm.Pilot.@@N@@.Jvm.D
/-! MADE BY PROGRAM (witnessworld.py) out of the Statement's table words and the real class files: 10 classes; the members and pool entries that the words name. The judged class is class 1, her method 1. -/
namespace start1
open Jvm.ClassFile
def u (s : String) : CpInfo := .utf8 (stringToUtf16 s)
/-- a pool by its gaps: so many unusable entries, then the entry; so many at the end -/
def gap : Nat → List CpInfo → List CpInfo
  | 0, r => r
  | n + 1, r => .unusable :: gap n r
def poolList (es : List (Nat × CpInfo)) (last : Nat) : List CpInfo := es.foldr (fun e r => gap e.1 (e.2 :: r)) (gap last [])
def pool (es : List (Nat × CpInfo)) (last : Nat) : Array CpInfo := ⟨poolList es last⟩
def fileOf (pool : Array CpInfo) (this : Nat) (attrs : Array Attribute := #[]) (ms : Array MethodInfo := #[]) (fl : Nat := 33) (sup : Nat := 0) (ifs : Array Nat := #[]) (fds : Array FieldInfo := #[]) : ClassFile where
  minorVersion := 0
  majorVersion := 65
  constantPool := pool
  accessFlags := fl
  thisClass := this
  superClass := sup
  interfaces := ifs
  fields := fds
  methods := ms
  attributes := attrs
def plain (name : String) (sup : Option ClassId) : Class where
  name := name
  kind := .ordinary
  loader := none
  accessFlags := 33
  super := sup
  interfaces := #[]
  cf := none
  fields := #[]
  methods := #[]
  instanceTypes := #[]
  staticTypes := #[]
  resolved := #[]
  callSites := []
  init := .initialized
  statics := none
  mirror := none

def pool0 : Array CpInfo := pool [(5, u "<init>"), (0, u "()V"), (1, .class_ 10), (1, u "java/lang/Object"), (85, u "clone"), (0, u "()Ljava/lang/Object;")] 26

def k0c0 : Code := { maxStack := 0, maxLocals := 1, code := object_method_1_code, exceptionTable := #[], attributes := #[] }
def k0m0 : Method := { name := "<init>", desc := "()V", sig := { parameters := [], returnType := none }, accessFlags := 1, code := some k0c0 }
def k0m1 : Method := { name := "clone", desc := "()Ljava/lang/Object;", sig := { parameters := [], returnType := some (.object "java/lang/Object") }, accessFlags := 260, code := none }
/-- java/lang/Object -/
def k0 : Class := { plain "java/lang/Object" none with
  accessFlags := 33
  interfaces := #[]
  cf := some (fileOf pool0 8 #[] #[{ accessFlags := 1, nameIndex := 5, descriptorIndex := 6, attributes := #[] }, { accessFlags := 260, nameIndex := 96, descriptorIndex := 97, attributes := #[] }] 33 0 #[] #[])
  fields := #[]
  methods := #[k0m0, k0m1]
  instanceTypes := #[]
  staticTypes := #[]
  resolved := Array.replicate 124 none
  statics := none }

def pool1 : Array CpInfo := pool [(2, .class_ 4), (1, u "java/lang/Object"), (0, u "<init>"), (0, u "()V"), (0, .integer 2147483647), (0, .methodref 9 10), (0, .class_ 11), (0, .nameAndType 12 13), (0, u "java/lang/Math"), (0, u "max"), (0, u "(II)I"), (0, .class_ 15), (0, u "com/example/ramification/ramification/model/StrahlerOrders"), (0, .methodref 14 17), (0, .nameAndType 5 18), (0, u "([I[DLjava/util/Optional;)V"), (0, .methodref 14 20), (0, .nameAndType 21 22), (0, u "getBifurcationRatio"), (0, u "(I)D"), (0, .class_ 24), (0, u "com/example/ramification/ramification/model/StrahlerOrdersGetBifurcationRatioPinLaw"), (2, u "law"), (0, u "(IIIII)Z")] 3

def k1m0 : Method := { name := "<init>", desc := "()V", sig := { parameters := [], returnType := none }, accessFlags := 1, code := none }
def k1c1 : Code := { maxStack := 8, maxLocals := 15, code := code, exceptionTable := #[], attributes := #[] }
def k1m1 : Method := { name := "law", desc := "(IIIII)Z", sig := { parameters := [.int, .int, .int, .int, .int], returnType := some .boolean }, accessFlags := 9, code := some k1c1 }
/-- com/example/ramification/ramification/model/StrahlerOrdersGetBifurcationRatioPinLaw -/
def k1 : Class := { plain "com/example/ramification/ramification/model/StrahlerOrdersGetBifurcationRatioPinLaw" (some 0) with
  accessFlags := 49
  interfaces := #[]
  cf := some (fileOf pool1 23 #[] #[{ accessFlags := 1, nameIndex := 5, descriptorIndex := 6, attributes := #[] }, { accessFlags := 9, nameIndex := 27, descriptorIndex := 28, attributes := #[] }] 49 2 #[] #[])
  fields := #[]
  methods := #[k1m0, k1m1]
  instanceTypes := #[]
  staticTypes := #[]
  resolved := Array.replicate 32 none
  statics := none }

def pool2 : Array CpInfo := pool [(1, .class_ 2), (0, u "java/lang/Math"), (1, .class_ 6), (1, u "java/lang/Object"), (0, u "<init>"), (0, u "()V"), (89, .class_ 100), (1, u "java/lang/Math$RandomNumberGeneratorHolder"), (71, u "negativeZeroFloatBits"), (0, u "J"), (2, u "negativeZeroDoubleBits"), (21, u "max"), (46, u "$assertionsDisabled"), (0, u "Z"), (88, u "(II)I"), (2, u "twoToTheDoubleScaleDown"), (0, u "D"), (4, u "twoToTheDoubleScaleUp"), (9, u "E"), (3, u "PI"), (2, u "TAU"), (2, u "DEGREES_TO_RADIANS"), (0, u "RADIANS_TO_DEGREES")] 94

def k2m0 : Method := { name := "<init>", desc := "()V", sig := { parameters := [], returnType := none }, accessFlags := 2, code := none }
def k2c1 : Code := { maxStack := 2, maxLocals := 2, code := jdk_29_method_65_code, exceptionTable := #[], attributes := #[] }
def k2m1 : Method := { name := "max", desc := "(II)I", sig := { parameters := [.int, .int], returnType := some .int }, accessFlags := 9, code := some k2c1 }
/-- java/lang/Math -/
def k2 : Class := { plain "java/lang/Math" (some 0) with
  accessFlags := 49
  interfaces := #[]
  cf := some (fileOf pool2 1 #[.nestMembers #[98]] #[{ accessFlags := 2, nameIndex := 7, descriptorIndex := 8, attributes := #[] }, { accessFlags := 9, nameIndex := 198, descriptorIndex := 335, attributes := #[] }] 49 4 #[] #[{ accessFlags := 25, nameIndex := 354, descriptorIndex := 339, attributes := #[] }, { accessFlags := 25, nameIndex := 358, descriptorIndex := 339, attributes := #[] }, { accessFlags := 25, nameIndex := 361, descriptorIndex := 339, attributes := #[] }, { accessFlags := 26, nameIndex := 364, descriptorIndex := 339, attributes := #[] }, { accessFlags := 26, nameIndex := 365, descriptorIndex := 339, attributes := #[] }, { accessFlags := 26, nameIndex := 172, descriptorIndex := 173, attributes := #[] }, { accessFlags := 26, nameIndex := 176, descriptorIndex := 173, attributes := #[] }, { accessFlags := 8, nameIndex := 344, descriptorIndex := 339, attributes := #[] }, { accessFlags := 8, nameIndex := 338, descriptorIndex := 339, attributes := #[] }, { accessFlags := 4120, nameIndex := 245, descriptorIndex := 246, attributes := #[] }])
  fields := #[{ name := "E", type := .double, accessFlags := 25, slot := 0, constantValue := 0 }, { name := "PI", type := .double, accessFlags := 25, slot := 1, constantValue := 0 }, { name := "TAU", type := .double, accessFlags := 25, slot := 2, constantValue := 0 }, { name := "DEGREES_TO_RADIANS", type := .double, accessFlags := 26, slot := 3, constantValue := 0 }, { name := "RADIANS_TO_DEGREES", type := .double, accessFlags := 26, slot := 4, constantValue := 0 }, { name := "negativeZeroFloatBits", type := .long, accessFlags := 26, slot := 5, constantValue := 0 }, { name := "negativeZeroDoubleBits", type := .long, accessFlags := 26, slot := 6, constantValue := 0 }, { name := "twoToTheDoubleScaleUp", type := .double, accessFlags := 8, slot := 7, constantValue := 0 }, { name := "twoToTheDoubleScaleDown", type := .double, accessFlags := 8, slot := 8, constantValue := 0 }, { name := "$assertionsDisabled", type := .boolean, accessFlags := 4120, slot := 9, constantValue := 0 }]
  methods := #[k2m0, k2m1]
  instanceTypes := #[]
  staticTypes := #[.double, .double, .double, .double, .double, .long, .long, .double, .double, .boolean]
  resolved := Array.replicate 460 none
  statics := none }

def pool3 : Array CpInfo := pool [(1, .methodref 2 3), (0, .class_ 4), (0, .nameAndType 5 6), (0, u "java/lang/Object"), (0, u "<init>"), (0, u "()V"), (10, .methodref 18 19), (0, .class_ 20), (0, .nameAndType 21 22), (0, u "[I"), (0, u "clone"), (0, u "()Ljava/lang/Object;"), (0, .fieldref 24 25), (0, .class_ 26), (0, .nameAndType 27 20), (0, u "com/example/ramification/ramification/model/StrahlerOrders"), (0, u "branches"), (0, .methodref 29 19), (0, .class_ 30), (0, u "[D"), (0, .fieldref 24 32), (0, .nameAndType 33 30), (0, u "lengths"), (0, .fieldref 24 35), (0, .nameAndType 36 37), (0, u "unit"), (0, u "Ljava/util/Optional;"), (2, .double 9221120237041090560), (3, u "getBifurcationRatio"), (0, u "(I)D"), (2, u "([I[DLjava/util/Optional;)V")] 38

def k3c0 : Code := { maxStack := 5, maxLocals := 5, code := prog_88_method_1_code, exceptionTable := #[], attributes := #[] }
def k3m0 : Method := { name := "<init>", desc := "([I[DLjava/util/Optional;)V", sig := { parameters := [(.array .int), (.array .double), (.object "java/util/Optional")], returnType := none }, accessFlags := 1, code := some k3c0 }
def k3c1 : Code := { maxStack := 4, maxLocals := 2, code := prog_88_method_6_code, exceptionTable := #[], attributes := #[] }
def k3m1 : Method := { name := "getBifurcationRatio", desc := "(I)D", sig := { parameters := [.int], returnType := some .double }, accessFlags := 1, code := some k3c1 }
/-- com/example/ramification/ramification/model/StrahlerOrders -/
def k3 : Class := { plain "com/example/ramification/ramification/model/StrahlerOrders" (some 0) with
  accessFlags := 33
  interfaces := #[]
  cf := some (fileOf pool3 24 #[] #[{ accessFlags := 1, nameIndex := 5, descriptorIndex := 48, attributes := #[] }, { accessFlags := 1, nameIndex := 44, descriptorIndex := 45, attributes := #[] }] 33 2 #[] #[{ accessFlags := 18, nameIndex := 27, descriptorIndex := 20, attributes := #[] }, { accessFlags := 18, nameIndex := 33, descriptorIndex := 30, attributes := #[] }, { accessFlags := 18, nameIndex := 36, descriptorIndex := 37, attributes := #[] }])
  fields := #[{ name := "branches", type := (.array .int), accessFlags := 18, slot := 0, constantValue := 0 }, { name := "lengths", type := (.array .double), accessFlags := 18, slot := 1, constantValue := 0 }, { name := "unit", type := (.object "java/util/Optional"), accessFlags := 18, slot := 2, constantValue := 0 }]
  methods := #[k3m0, k3m1]
  instanceTypes := #[(.array .int), (.array .double), (.object "java/util/Optional")]
  staticTypes := #[]
  resolved := Array.replicate 87 none
  statics := none }

def pool4 : Array CpInfo := pool [(1, .class_ 2), (0, u "java/lang/Cloneable"), (0, .class_ 4), (0, u "java/lang/Object")] 2

/-- java/lang/Cloneable -/
def k4 : Class := { plain "java/lang/Cloneable" (some 0) with
  accessFlags := 1537
  interfaces := #[]
  cf := some (fileOf pool4 1 #[] #[] 1537 3 #[] #[])
  fields := #[]
  methods := #[]
  instanceTypes := #[]
  staticTypes := #[]
  resolved := Array.replicate 7 none
  statics := none }

def pool5 : Array CpInfo := pool [(1, u "java/io/Serializable"), (0, .class_ 1), (0, u "java/lang/Object"), (0, .class_ 3)] 3

/-- java/io/Serializable -/
def k5 : Class := { plain "java/io/Serializable" (some 0) with
  accessFlags := 1537
  interfaces := #[]
  cf := some (fileOf pool5 2 #[] #[] 1537 4 #[] #[])
  fields := #[]
  methods := #[]
  instanceTypes := #[]
  staticTypes := #[]
  resolved := Array.replicate 8 none
  statics := none }

/-- the primitive byte -/
def k6 : Class := { plain "byte" none with kind := .primitive 'B', accessFlags := 0x411 }
/-- [B -/
def k7 : Class := { plain "[B" (some 0) with kind := .array 6 .byte, interfaces := #[4, 5], accessFlags := 1041 }

/-- the primitive int -/
def k8 : Class := { plain "int" none with kind := .primitive 'I', accessFlags := 0x411 }
/-- [I -/
def k9 : Class := { plain "[I" (some 0) with kind := .array 8 .int, interfaces := #[4, 5], accessFlags := 1041 }

/-- the primitive double -/
def k10 : Class := { plain "double" none with kind := .primitive 'D', accessFlags := 0x411 }
/-- [D -/
def k11 : Class := { plain "[D" (some 0) with kind := .array 10 .double, interfaces := #[4, 5], accessFlags := 1041 }

def heap : Heap := #[]
def classes : Array Class := #[k0, k1, k2, k3, k4, k5, k6, k7, k8, k9, k10, k11]
def interned : List (Array UInt16 × Addr) := []
def slotsUsed : Nat := 0
def theMethod : MethodId := ⟨1, 1⟩
def args0 : Array Value := #[.int 5, .int 7, .int 9, .int 3, .int 2]
def aboutOver (below : List Frame) : State where
  vm := { classes := classes, interned := interned.toArray }
  heap := heap
  slotsUsed := slotsUsed
  threads := #[{ frames := .invoking theMethod args0 :: below }]
def below0 : List Frame := [.native { method := ⟨0, 0⟩, args := #[] }]
def about1 : State := aboutOver below0
def p0 : Program := .bare "" "" ""
def e0 : Env := launch0.env 0 0 0
theorem w_frames : about1.frames = Frame.invoking theMethod args0 :: below0 := rfl
set_option maxRecDepth 65536 in
theorem w_args : argsFit about1.vm theMethod args0 = true := by decide +kernel
set_option maxRecDepth 65536 in
theorem w_heap : heapFits about1 = true := by decide +kernel
set_option maxRecDepth 65536 in
theorem w_runnable : about1.curStatus? = some .runnable := by decide +kernel
set_option maxRecDepth 65536 in
theorem w_alone : about1.alone = true := by decide +kernel
set_option maxRecDepth 65536 in
theorem w_named : about1.methodNamed? x = some theMethod := by decide +kernel
set_option maxRecDepth 65536 in
theorem w_hears : about1.hears theMethod below0 = true := by decide +kernel
set_option maxRecDepth 65536 in
theorem w_ripe : about1.ripe theMethod args0 below0 = true := by decide +kernel
theorem w_running : about1.status = .running := rfl
set_option maxRecDepth 65536 in
theorem w_room : about1.hasRoom e0.platform room_1 = true :=
  launch0.hasRoom_least _ room_1 (by decide +kernel) (by decide +kernel) (by decide +kernel) (by decide +kernel) (by decide +kernel) (by decide +kernel)
theorem allAtoms_all (ts : List Jvm.Cond) (a : Array Jvm.Value) (st : Jvm.State) : (allAtoms ts).before a st = ts.all (fun c => c.before a st) := by
  induction ts with
  | nil => rfl
  | cons c t ih =>
    show (Jvm.Cond.and c (allAtoms t)).before a st = _
    rw [Jvm.Cond.before_and, ih, List.all_cons]
def words1 : List Jvm.Cond := Jvm.Cond.code x code maxLocals ret :: tables_1
/-- a 'code' word, met by the world's own term for the bytes: nothing is compared byte by byte -/
theorem code_word {y : MethodName} {bytes : ByteArray} {mx : Nat} {rt : Option FieldType} {a : Array Value} {s : State} {m : MethodId} {meth : Method} {c : Code} (h1 : s.methodNamed? y = some m) (h2 : s.vm.method? m = some meth) (h3 : meth.code = some c) (h4 : c.code = bytes)
    (h5 : (c.maxLocals == mx && c.exceptionTable.isEmpty && decide (c.maxStack ≤ mostOperands) && decide (meth.sig.returnType = rt) && !meth.locks && decide (parseMethodDescriptor y.desc = some meth.sig)) = true) : (Jvm.Cond.code y bytes mx rt).before a s = true := by
  simp only [Bool.and_eq_true, beq_iff_eq, Bool.not_eq_true', decide_eq_true_eq] at h5
  obtain ⟨⟨⟨⟨⟨g1, g2⟩, g3⟩, g4⟩, g5⟩, g6⟩ := h5
  simp [Cond.before, Cond.holds, Cond.value, h1, h2, h3, h4, g1, g2, g3, g4, g5, g6]
def isCode : Jvm.Cond → Bool
  | .code _ _ _ _ => true
  | _ => false
theorem all_split {L : List Jvm.Cond} {P : Jvm.Cond → Bool} (h1 : L.all (fun c => isCode c || P c) = true) (h2 : ∀ c ∈ L.filter isCode, P c = true) : L.all P = true := by
  refine List.all_eq_true.mpr fun c hc => ?_
  have h := List.all_eq_true.mp h1 c hc
  rcases Bool.eq_false_or_eq_true (isCode c) with hi | hi
  · exact h2 c (List.mem_filter.mpr ⟨hc, hi⟩)
  · simpa [hi] using h
set_option maxRecDepth 65536 in
theorem w_c0 : (Jvm.Cond.code x code maxLocals ret).before args0 about1 = true := code_word (m := ⟨1, 1⟩) (meth := k1m1) (c := k1c1) (by decide +kernel) rfl rfl rfl (by decide +kernel)
set_option maxRecDepth 65536 in
theorem w_c1 : (Jvm.Cond.code ({ cls := "java/lang/Math", name := "max", desc := "(II)I" } : Jvm.MethodName) jdk_29_method_65_code (2 : Nat) (Option.some Jvm.ClassFile.FieldType.int)).before args0 about1 = true := code_word (m := ⟨2, 1⟩) (meth := k2m1) (c := k2c1) (by decide +kernel) rfl rfl rfl (by decide +kernel)
set_option maxRecDepth 65536 in
theorem w_c2 : (Jvm.Cond.code ({ cls := "com/example/ramification/ramification/model/StrahlerOrders", name := "<init>", desc := "([I[DLjava/util/Optional;)V" } : Jvm.MethodName) prog_88_method_1_code (5 : Nat) (Option.none : Option Jvm.ClassFile.FieldType)).before args0 about1 = true := code_word (m := ⟨3, 0⟩) (meth := k3m0) (c := k3c0) (by decide +kernel) rfl rfl rfl (by decide +kernel)
set_option maxRecDepth 65536 in
theorem w_c3 : (Jvm.Cond.code ({ cls := "java/lang/Object", name := "<init>", desc := "()V" } : Jvm.MethodName) object_method_1_code (1 : Nat) (Option.none : Option Jvm.ClassFile.FieldType)).before args0 about1 = true := code_word (m := ⟨0, 0⟩) (meth := k0m0) (c := k0c0) (by decide +kernel) rfl rfl rfl (by decide +kernel)
set_option maxRecDepth 65536 in
theorem w_c4 : (Jvm.Cond.code ({ cls := "com/example/ramification/ramification/model/StrahlerOrders", name := "getBifurcationRatio", desc := "(I)D" } : Jvm.MethodName) prog_88_method_6_code (2 : Nat) (Option.some Jvm.ClassFile.FieldType.double)).before args0 about1 = true := code_word (m := ⟨3, 1⟩) (meth := k3m1) (c := k3c1) (by decide +kernel) rfl rfl rfl (by decide +kernel)
def codes1 : List Jvm.Cond := [Jvm.Cond.code x code maxLocals ret, Jvm.Cond.code ({ cls := "java/lang/Math", name := "max", desc := "(II)I" } : Jvm.MethodName) jdk_29_method_65_code (2 : Nat) (Option.some Jvm.ClassFile.FieldType.int), Jvm.Cond.code ({ cls := "com/example/ramification/ramification/model/StrahlerOrders", name := "<init>", desc := "([I[DLjava/util/Optional;)V" } : Jvm.MethodName) prog_88_method_1_code (5 : Nat) (Option.none : Option Jvm.ClassFile.FieldType), Jvm.Cond.code ({ cls := "java/lang/Object", name := "<init>", desc := "()V" } : Jvm.MethodName) object_method_1_code (1 : Nat) (Option.none : Option Jvm.ClassFile.FieldType), Jvm.Cond.code ({ cls := "com/example/ramification/ramification/model/StrahlerOrders", name := "getBifurcationRatio", desc := "(I)D" } : Jvm.MethodName) prog_88_method_6_code (2 : Nat) (Option.some Jvm.ClassFile.FieldType.double)]
set_option maxRecDepth 65536 in
theorem codes_eq : words1.filter isCode = codes1 := rfl
theorem w_codes : ∀ c ∈ words1.filter isCode, c.before args0 about1 = true := by
  rw [codes_eq]
  intro c hc
  simp only [codes1, List.mem_cons, List.not_mem_nil, or_false] at hc
  rcases hc with rfl | rfl | rfl | rfl | rfl
  · exact w_c0
  · exact w_c1
  · exact w_c2
  · exact w_c3
  · exact w_c4
set_option maxRecDepth 65536 in
theorem w_t1 : (words1.take 24).all (fun c => isCode c || c.before args0 about1) = true := by decide +kernel
set_option maxRecDepth 65536 in
theorem w_t2 : (words1.drop 24).all (fun c => isCode c || c.before args0 about1) = true := by decide +kernel
theorem w_tables : (allAtoms (Jvm.Cond.code x code maxLocals ret :: tables_1)).before args0 about1 = true := by
  rw [allAtoms_all]
  show words1.all (fun c => c.before args0 about1) = true
  refine all_split ?_ w_codes
  rw [← List.take_append_drop 24 words1, List.all_append, w_t1, w_t2]
  rfl
set_option maxRecDepth 65536 in
theorem w_case : (Jvm.Cond.and given_1 narrow_1).before args0 about1 = true := by decide +kernel
theorem w_applies : (headSpec (Jvm.Cond.code x code maxLocals ret :: tables_1) room_1).applies x e0.platform about1 = true :=
  (Spec.applies_iff w_frames).mpr ⟨w_running, w_runnable, w_alone, w_named, w_hears, w_ripe, w_room, w_tables⟩
set_option maxRecDepth 65536 in
theorem atStart : AtStart classFile x code maxLocals ret World_1 tables_1 room_1 Calls_1 rest_1 Pre_1 launch0 p0 e0 about1 theMethod args0 below0 :=
  ⟨lists_1, trivial, launch0.admits_env _ _ _, launch0.least_env, fairChoices_fair.cas, fairChoices_fair.clock, w_frames, w_args, w_heap, w_applies, trivial, trivial, w_case⟩
end start1
theorem witness_1 : WitnessClaimed_1 := ⟨start1.p0, start1.e0, start1.about1, start1.theMethod, start1.args0, start1.below0, start1.atStart⟩
end Jvm.Pilot.@@N@@
