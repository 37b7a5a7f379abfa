import JvmDerived
import JvmDerived.Pilot.@@N@@Statement
import JvmDerived.Pilot.@@N@@Code
set_option linter.unusedVariables false
set_option linter.unusedSimpArgs false
namespace Jvm.Pilot.@@N@@
open Jvm Jvm.ClassFile Sem Op Lib Jvm.Free Jvm.Stand Jvm.LawKit Jvm.RoadKit Bundle Jvm.Pilot.@@N@@.Jvm.D
section OwnKit
variable {p : Program} {l : Launch} {e : Env} {R : Room} {s : State} {m : MethodId} {args : Array Value} {below : List Frame} {meth : Method} {c : Code} {T : State} {locs : List Loc} {cells slots : Nat}
theorem own_retI (X : Stand p l e R s m args below meth c T locs cells slots) (hx : p.tables.exec = Jvm.exec) {pc : Nat} {Ls : Array Slot} {z : Int32} {rest : List Value} (hret : meth.sig.returnType = some .int) (hd : decode c.code pc = .ok (.ireturn, 1)) {fs : List Frame}
    (hl : ∀ (f : JFrame) (acts : List Action), f.method = m → f.locked = none → f.entered = [] → (doReturn e (T.setTop f) acts (some (.int z))).1 = T.setFrames fs) : Steps p.tables e below (T.setTop (mkF m pc Ls (.int z :: rest))) (T.setFrames fs) := by
  have hm' : T.vm.method? m = some meth := X.method'
  have hn : narrow .int (.int z) = .int z := rfl
  show Steps p.tables e below (T.setTop { method := m, pc := pc, locals := Ls, stack := _ :: rest, locked := none }) _
  jvm_step X.here [X.here.top, hx, hd, hm', hret, hn]
  first | (intro acts; rw [hl _ acts rfl rfl rfl]) | rw [hl _ _ rfl rfl rfl]
  exact Steps.refl _
theorem own_retJ (X : Stand p l e R s m args below meth c T locs cells slots) (hx : p.tables.exec = Jvm.exec) {pc : Nat} {Ls : Array Slot} {z : Int64} {rest : List Value} (hret : meth.sig.returnType = some .long) (hd : decode c.code pc = .ok (.lreturn, 1)) {fs : List Frame}
    (hl : ∀ (f : JFrame) (acts : List Action), f.method = m → f.locked = none → f.entered = [] → (doReturn e (T.setTop f) acts (some (.long z))).1 = T.setFrames fs) : Steps p.tables e below (T.setTop (mkF m pc Ls (.long z :: rest))) (T.setFrames fs) := by
  have hm' : T.vm.method? m = some meth := X.method'
  have hn : narrow .long (.long z) = .long z := rfl
  show Steps p.tables e below (T.setTop { method := m, pc := pc, locals := Ls, stack := _ :: rest, locked := none }) _
  jvm_step X.here [X.here.top, hx, hd, hm', hret, hn]
  first | (intro acts; rw [hl _ acts rfl rfl rfl]) | rw [hl _ _ rfl rfl rfl]
  exact Steps.refl _
theorem own_retA (X : Stand p l e R s m args below meth c T locs cells slots) (hx : p.tables.exec = Jvm.exec) {pc : Nat} {Ls : Array Slot} {w : Value} {t : FieldType} {rest : List Value} (hret : meth.sig.returnType = some t) (ht : t.isReference = true) (hw : w.isRef = true) (hd : decode c.code pc = .ok (.areturn, 1)) {fs : List Frame}
    (hl : ∀ (f : JFrame) (acts : List Action), f.method = m → f.locked = none → f.entered = [] → (doReturn e (T.setTop f) acts (some w)).1 = T.setFrames fs) : Steps p.tables e below (T.setTop (mkF m pc Ls (w :: rest))) (T.setFrames fs) :=
  retOut X hx hret (by cases t <;> first | (cases ht; done) | (cases w <;> first | rfl | (cases hw; done))) (Or.inr (Or.inr (Or.inr (Or.inr ⟨rfl, ht, hw⟩)))) hd hl
/-- the run from S ends, returned, as Q says -/
def OwnR (p : Program) (e : Env) (below : List Frame) (s : State) (Q : Option Value → Heap → List Loc → Prop) (kc ks : Nat) (S : State) : Prop :=
  ∃ s₂ o, Steps p.tables e below S s₂ ∧ s₂.status = .running ∧ Ended s₂ below o ∧ ∃ v L, o = .returned v ∧ Q v s₂.heap L ∧ FrameEnd s o s₂ L kc ks
theorem OwnR.of {Q : Option Value → Heap → List Loc → Prop} {kc ks : Nat} {S S' : State} (k : ∀ t, Steps p.tables e below S' t → Steps p.tables e below S t) (h : OwnR p e below s Q kc ks S') : OwnR p e below s Q kc ks S := by
  obtain ⟨a, o, h1, h2⟩ := h
  exact ⟨a, o, k a h1, h2⟩
theorem own_leafI (X : Stand p l e R s m args below meth c T locs cells slots) (hx : p.tables.exec = Jvm.exec) (hlk : meth.locks = false) (hret : meth.sig.returnType = some .int) {Q : Option Value → Heap → List Loc → Prop} {kc ks pc : Nat} {Ls : Array Slot} {z : Int32} {rest : List Value} (hd : decode c.code pc = .ok (.ireturn, 1)) (hk : cells ≤ kc) (hs : slots ≤ ks) (hQ : Q (some (.int z)) T.heap locs) :
    OwnR p e below s Q kc ks (T.setTop (mkF m pc Ls (.int z :: rest))) := by
  obtain ⟨fs, hr, hrun, hended, hW, hsame⟩ := X.leave (v := some (.int z)) (fun h => by rw [hret] at h; cases h) hlk
  exact ⟨_, _, own_retI X hx hret hd hr, hrun, hended, _, _, rfl, hQ, ⟨_, rfl⟩, hW, hsame.mono hk hs⟩
theorem own_leafN (X : Stand p l e R s m args below meth c T locs cells slots) (hx : p.tables.exec = Jvm.exec) (hlk : meth.locks = false) {t : FieldType} (hret : meth.sig.returnType = some t) (ht : t = .boolean ∨ t = .byte ∨ t = .char ∨ t = .short) {Q : Option Value → Heap → List Loc → Prop} {kc ks pc : Nat} {Ls : Array Slot} {z z' : Int32} {rest : List Value} (hd : decode c.code pc = .ok (.ireturn, 1)) (hz : nar t z = z') (hk : cells ≤ kc) (hs : slots ≤ ks) (hQ : Q (some (.int z')) T.heap locs) :
    OwnR p e below s Q kc ks (T.setTop (mkF m pc Ls (.int z :: rest))) := by
  subst hz
  obtain ⟨fs, hr, hrun, hended, hW, hsame⟩ := X.leave (v := some (.int (nar t z))) (fun h => by rw [hret] at h; cases h) hlk
  exact ⟨_, _, retN X hx hret ht hd hr, hrun, hended, _, _, rfl, hQ, ⟨_, rfl⟩, hW, hsame.mono hk hs⟩
theorem own_leafJ (X : Stand p l e R s m args below meth c T locs cells slots) (hx : p.tables.exec = Jvm.exec) (hlk : meth.locks = false) (hret : meth.sig.returnType = some .long) {Q : Option Value → Heap → List Loc → Prop} {kc ks pc : Nat} {Ls : Array Slot} {z : Int64} {rest : List Value} (hd : decode c.code pc = .ok (.lreturn, 1)) (hk : cells ≤ kc) (hs : slots ≤ ks) (hQ : Q (some (.long z)) T.heap locs) :
    OwnR p e below s Q kc ks (T.setTop (mkF m pc Ls (.long z :: rest))) := by
  obtain ⟨fs, hr, hrun, hended, hW, hsame⟩ := X.leave (v := some (.long z)) (fun h => by rw [hret] at h; cases h) hlk
  exact ⟨_, _, own_retJ X hx hret hd hr, hrun, hended, _, _, rfl, hQ, ⟨_, rfl⟩, hW, hsame.mono hk hs⟩
theorem own_leafA (X : Stand p l e R s m args below meth c T locs cells slots) (hx : p.tables.exec = Jvm.exec) (hlk : meth.locks = false) {t : FieldType} (hret : meth.sig.returnType = some t) (ht : t.isReference = true) {Q : Option Value → Heap → List Loc → Prop} {kc ks pc : Nat} {Ls : Array Slot} {w : Value} (hw : w.isRef = true) {rest : List Value} (hd : decode c.code pc = .ok (.areturn, 1)) (hk : cells ≤ kc) (hs : slots ≤ ks) (hQ : Q (some w) T.heap locs) :
    OwnR p e below s Q kc ks (T.setTop (mkF m pc Ls (w :: rest))) := by
  obtain ⟨fs, hr, hrun, hended, hW, hsame⟩ := X.leave (v := some w) (fun h => by rw [hret] at h; cases h) hlk
  exact ⟨_, _, own_retA X hx hret ht hw hd hr, hrun, hended, _, _, rfl, hQ, ⟨_, rfl⟩, hW, hsame.mono hk hs⟩
theorem own_leafV (X : Stand p l e R s m args below meth c T locs cells slots) (hx : p.tables.exec = Jvm.exec) (hlk : meth.locks = false) (hret : meth.sig.returnType = none) {Q : Option Value → Heap → List Loc → Prop} {kc ks pc : Nat} {Ls : Array Slot} (hd : decode c.code pc = .ok (.return_, 1)) (hk : cells ≤ kc) (hs : slots ≤ ks) (hQ : Q none T.heap locs) :
    OwnR p e below s Q kc ks (T.setTop (mkF m pc Ls [])) := by
  obtain ⟨fs, hr, hrun, hended, hW, hsame⟩ := X.leave (v := none) (fun _ => rfl) hlk
  exact ⟨_, _, X.returnOut hx hret hd hr, hrun, hended, _, _, rfl, hQ, ⟨_, rfl⟩, hW, hsame.mono hk hs⟩
theorem own_sta {Z : State} {h h' : Heap} {C n d : String} {v : Value} (F : Sta Z h C n d v) (K : Keep h h' []) : Sta Z h' C n d v := by
  obtain ⟨cf, i, k, f, st, cell, h1, h2, h3, h4, h5, r⟩ := F
  exact ⟨cf, i, k, f, st, cell, h1, h2, h3, h4, K.2.1 _ _ h5 nin0, r⟩
theorem own_arr {Z : State} {h h' : Heap} {a : Addr} {c : Cell} {ty : FieldType} {ws : List Addr} (A : Arr Z h a c ty) (K : Keep h h' ws) (q : a ∉ ws) : Arr Z h' a c ty := ⟨K.2.1 _ _ A.1 q, A.2⟩
theorem own_lclt (a b : Int64) : lcmpW a b < 0 ↔ a < b := by
  obtain ⟨h1, h2, h3⟩ := c_lcmp a b
  have e1 := @Int64.lt_iff_toInt_lt a b
  have e2 := @Int32.lt_iff_toInt_lt (lcmpW a b) 0
  have e0 : (0 : Int32).toInt = 0 := by decide
  rw [e1, e2, e0]; omega
theorem own_lcgt (a b : Int64) : 0 < lcmpW a b ↔ b < a := by
  obtain ⟨h1, h2, h3⟩ := c_lcmp a b
  have e1 := @Int64.lt_iff_toInt_lt b a
  have e2 := @Int32.lt_iff_toInt_lt 0 (lcmpW a b)
  have e0 : (0 : Int32).toInt = 0 := by decide
  rw [e1, e2, e0]; omega
theorem own_lceq (a b : Int64) : lcmpW a b = 0 ↔ a = b := by
  obtain ⟨h1, h2, h3⟩ := c_lcmp a b
  have e0 : (0 : Int32).toInt = 0 := by decide
  rw [← Int64.toInt_inj, ← Int32.toInt_inj, e0]; omega
end OwnKit
def own_max (x y : Int64) : Int64 := if x < y then y else x
def own_min (x y : Int64) : Int64 := if y < x then y else x
def own_ov (p l o q : Int64) : Int32 := if 0 < l then (if 0 < q then (if o < p + l then (if p < o + q then 1 else 0) else 0) else 0) else 0
theorem own_law (p l o q : Int64) (hp : 0 ≤ p.toInt ∧ p.toInt < 4611686018427387904) (hl : 0 ≤ l.toInt ∧ l.toInt < 4611686018427387904) (ho : -4611686018427387904 ≤ o.toInt ∧ o.toInt < 4611686018427387904) (hq : -4611686018427387904 ≤ q.toInt ∧ q.toInt < 4611686018427387904) :
    own_ov p l o q = if own_max p o < own_min (p + l) (o + q) then 1 else 0 := by
  have s1 : (p + l).toInt = p.toInt + l.toInt := by
    have e := c_ladd p l; have b := Int64.le_toInt (p + l); have b' := Int64.toInt_lt (p + l); omega
  have s2 : (o + q).toInt = o.toInt + q.toInt := by
    have e := c_ladd o q; have b := Int64.le_toInt (o + q); have b' := Int64.toInt_lt (o + q); omega
  have z : (0 : Int64).toInt = 0 := by decide
  by_cases h1 : p < o <;> by_cases h2 : (o + q) < (p + l) <;> simp only [own_max, own_min, h1, h2, if_true, if_false] <;> simp only [own_ov, Int64.lt_iff_toInt_lt, s1, s2, z] at * <;> (repeat' split) <;> first | rfl | (exfalso; omega)
theorem pn_java_lang_Record : plainName "java/lang/Record" = true := by first | (simp [plainName, overriddenIn]; done) | decide +kernel
theorem ef_rm2 (m : MethodId) (x0 : Addr) : entryFrame m #[(.ref x0)] 1 = mkF m 0 #[.val (.ref x0)] [] := by first | (simp [entryFrame, mkF, argsToLocals, Value.category]; done) | rfl
theorem d2_0 : decode jdk_30_method_1_code 0 = .ok (.aload_n 0, 1) := by decide +kernel
theorem d2_1 : decode jdk_30_method_1_code 1 = .ok (.invokespecial 1, 3) := by decide +kernel
theorem d2_4 : decode jdk_30_method_1_code 4 = .ok (.return_, 1) := by decide +kernel
def Q2 (Z : State)  (h0 : Heap) (n0 : Nat) (v : Option Value) (h : Heap) (L : List Loc) : Prop := v = none ∧ Fr n0 L ∧ h = h0
set_option maxRecDepth 65536 in
set_option maxHeartbeats 40000000 in
theorem rm2 (l : Launch) (Z : State) (a0 : Array Value) (hw : ∀ d ∈ tables_1, d.before a0 Z = true) (ws : List Jvm.Cond) (a1 : Addr) (h0 : Heap) (n0 : Nat) (Z0 : n0 ≤ h0.size) :
    MetFree l (⟨"java/lang/Record", "<init>", "()V"⟩ : MethodName) (head1 (Jvm.Cond.code (⟨"java/lang/Record", "<init>", "()V"⟩ : MethodName) jdk_30_method_1_code 1 none :: ws) ({ frames := 1, cells := 0, slots := 0, locals := 12 } : Room)) (fun a U => a = #[(.ref a1)] ∧ Z.Warmed39 U.vm ∧ U.heap = h0) (fun _ _ _ _ _ => True) (fun _ U o U' => ∃ v L, o = .returned v ∧ Q2 Z  h0 n0 v U'.heap L ∧ FrameEnd U o U' L ({ frames := 1, cells := 0, slots := 0, locals := 12 } : Room).cells ({ frames := 1, cells := 0, slots := 0, locals := 12 } : Room).slots) := by
  refine MetFree.of_bodySF (plainFor_of_name pn_java_lang_Record) hisR ?_
  intro p e s m args below meth c s₁ Bd hml0 hP hK
  obtain ⟨rfl, hZ, hh⟩ := hP
  have hx := Bd.exec
  have hby := Bd.bytes
  have hlk := BodyLoose.notSynchronized Bd
  have hml : c.maxLocals = 1 := hml0
  have hown : s.vm.findClass "java/lang/Record" = some m.cls := findClass_of_methodNamed Bd.named
  have hnm := (name_of_methodNamed Bd.named Bd.method).1
  have X0 : Stand p l e ({ frames := 1, cells := 0, slots := 0, locals := 12 } : Room) s m #[(.ref a1)] below meth c s₁ [] 0 0 := Stand.of_body Bd
  have e0 : s₁.heap = h0 := by rw [← hh, Bd.state]; rfl
  have N0 := Fr.nil n0
  refine OwnR.of (s := s) (Q := Q2 Z  h0 n0) (fun t k => castTop (ef_rm2 m a1) k) ?_
  show OwnR _ _ _ _ _ _ _ (s₁.setTop (mkF m 0 #[.val (.ref a1)] []))
  refine OwnR.of (fun _ hr => XS.aloadN X0.here hx rfl (hb hby d2_0) rfl rfl hr) ?_
  show OwnR _ _ _ _ _ _ _ (s₁.setTop (mkF m 1 #[.val (.ref a1)] [(.ref a1)]))
  obtain ⟨T2, X2, e2, st2⟩ := initO X0 hx hZ hown (hw _ (List.mem_of_getElem? (i := 12) rfl)) (hw _ (List.mem_of_getElem? (i := 13) rfl)) (hw _ (List.mem_of_getElem? (i := 14) rfl)) e0 (g := (mkF m 1 #[.val (.ref a1)] [(.ref a1)])) rfl (by rw [hml]; rfl) rfl (hb hby d2_1) (by decide) (W := 0) (by show 2 * 0 + _ ≤ _; exact Nat.le_of_eq rfl) (by decide)
  refine OwnR.of (st2) ?_
  show OwnR _ _ _ _ _ _ _ (T2.setTop (mkF m 4 #[.val (.ref a1)] []))
  refine own_leafV X2 hx hlk Bd.returns (hb hby d2_4) (by decide) (by decide) ?_
  show Q2 Z  h0 n0 _ T2.heap _
  rw [show T2.heap = h0 from e2]
  refine ⟨rfl, N0, rfl⟩
theorem pn_com_example_bittern_bittern_volume_BlockDevice_Range : plainName "com/example/bittern/bittern/volume/BlockDevice$Range" = true := by first | (simp [plainName, overriddenIn]; done) | decide +kernel
theorem ef_rm1 (m : MethodId) (x0 : Addr) (x1 : Int64) (x2 : Int64) : entryFrame m #[(.ref x0), (.long x1), (.long x2)] 5 = mkF m 0 #[.val (.ref x0), .val (.long x1), .second, .val (.long x2), .second] [] := by first | (simp [entryFrame, mkF, argsToLocals, Value.category]; done) | rfl
theorem d1_0 : decode prog_7_method_1_code 0 = .ok (.aload_n 0, 1) := by decide +kernel
theorem d1_1 : decode prog_7_method_1_code 1 = .ok (.invokespecial 1, 3) := by decide +kernel
theorem pd___V : parseMethodDescriptor "()V" = some ⟨[], none⟩ := by decide +kernel
theorem d1_4 : decode prog_7_method_1_code 4 = .ok (.lload_n 1, 1) := by decide +kernel
theorem d1_5 : decode prog_7_method_1_code 5 = .ok (.lconst 0, 1) := by decide +kernel
theorem d1_6 : decode prog_7_method_1_code 6 = .ok (.lcmp, 1) := by decide +kernel
theorem d1_7 : decode prog_7_method_1_code 7 = .ok (.ifCond .lt 9, 3) := by decide +kernel
theorem d1_10 : decode prog_7_method_1_code 10 = .ok (.lload_n 3, 1) := by decide +kernel
theorem d1_11 : decode prog_7_method_1_code 11 = .ok (.lconst 0, 1) := by decide +kernel
theorem d1_12 : decode prog_7_method_1_code 12 = .ok (.lcmp, 1) := by decide +kernel
theorem d1_13 : decode prog_7_method_1_code 13 = .ok (.ifCond .ge 18, 3) := by decide +kernel
theorem d1_31 : decode prog_7_method_1_code 31 = .ok (.aload_n 0, 1) := by decide +kernel
theorem d1_32 : decode prog_7_method_1_code 32 = .ok (.lload_n 1, 1) := by decide +kernel
theorem d1_33 : decode prog_7_method_1_code 33 = .ok (.putfield 16, 3) := by decide +kernel
theorem d1_36 : decode prog_7_method_1_code 36 = .ok (.aload_n 0, 1) := by decide +kernel
theorem d1_37 : decode prog_7_method_1_code 37 = .ok (.lload_n 3, 1) := by decide +kernel
theorem d1_38 : decode prog_7_method_1_code 38 = .ok (.putfield 22, 3) := by decide +kernel
theorem d1_41 : decode prog_7_method_1_code 41 = .ok (.return_, 1) := by decide +kernel
def Q1 (Z : State) (a1 : Addr) (q2 : Int64) (q3 : Int64) (h0 : Heap) (n0 : Nat) (v : Option Value) (h : Heap) (L : List Loc) : Prop := v = none ∧ Fr n0 L ∧ Keep h0 h [a1] ∧ Exa Z h a1 "com/example/bittern/bittern/volume/BlockDevice$Range" ∧ Fld Z h a1 "com/example/bittern/bittern/volume/BlockDevice$Range" "position" "J" (.long q2) ∧ Fld Z h a1 "com/example/bittern/bittern/volume/BlockDevice$Range" "length" "J" (.long q3)
set_option maxRecDepth 65536 in
set_option maxHeartbeats 40000000 in
theorem rm1 (l : Launch) (Z : State) (a0 : Array Value) (hw : ∀ d ∈ tables_1, d.before a0 Z = true) (ws : List Jvm.Cond) (a1 : Addr) (q2 : Int64) (q3 : Int64) (h0 : Heap) (n0 : Nat) (Z0 : n0 ≤ h0.size) (E_a1 : Exa Z h0 a1 "com/example/bittern/bittern/volume/BlockDevice$Range") (F_position_a1 : Fld Z h0 a1 "com/example/bittern/bittern/volume/BlockDevice$Range" "position" "J" (.long (0 : Int64))) (F_length_a1 : Fld Z h0 a1 "com/example/bittern/bittern/volume/BlockDevice$Range" "length" "J" (.long (0 : Int64))) (g_a1 : n0 ≤ a1) (hz2 : ¬ (q2 < (0 : Int64))) (hz3 : ¬ (q3 < (0 : Int64))) :
    MetFree l (⟨"com/example/bittern/bittern/volume/BlockDevice$Range", "<init>", "(JJ)V"⟩ : MethodName) (head1 (Jvm.Cond.code (⟨"com/example/bittern/bittern/volume/BlockDevice$Range", "<init>", "(JJ)V"⟩ : MethodName) prog_7_method_1_code 5 none :: ws) ({ frames := 2, cells := 0, slots := 0, locals := 24 } : Room)) (fun a U => a = #[(.ref a1), (.long q2), (.long q3)] ∧ Z.Warmed39 U.vm ∧ U.heap = h0) (fun _ _ _ _ _ => True) (fun _ U o U' => ∃ v L, o = .returned v ∧ Q1 Z a1 q2 q3 h0 n0 v U'.heap L ∧ FrameEnd U o U' L ({ frames := 2, cells := 0, slots := 0, locals := 24 } : Room).cells ({ frames := 2, cells := 0, slots := 0, locals := 24 } : Room).slots) := by
  refine MetFree.of_bodySF (plainFor_of_name pn_com_example_bittern_bittern_volume_BlockDevice_Range) hisR ?_
  intro p e s m args below meth c s₁ Bd hml0 hP hK
  obtain ⟨rfl, hZ, hh⟩ := hP
  have hx := Bd.exec
  have hby := Bd.bytes
  have hlk := BodyLoose.notSynchronized Bd
  have hml : c.maxLocals = 5 := hml0
  have hown : s.vm.findClass "com/example/bittern/bittern/volume/BlockDevice$Range" = some m.cls := findClass_of_methodNamed Bd.named
  have hnm := (name_of_methodNamed Bd.named Bd.method).1
  have X0 : Stand p l e ({ frames := 2, cells := 0, slots := 0, locals := 24 } : Room) s m #[(.ref a1), (.long q2), (.long q3)] below meth c s₁ [] 0 0 := Stand.of_body Bd
  have e0 : s₁.heap = h0 := by rw [← hh, Bd.state]; rfl
  have N0 := Fr.nil n0
  refine OwnR.of (s := s) (Q := Q1 Z a1 q2 q3 h0 n0) (fun t k => castTop (ef_rm1 m a1 q2 q3) k) ?_
  show OwnR _ _ _ _ _ _ _ (s₁.setTop (mkF m 0 #[.val (.ref a1), .val (.long q2), .second, .val (.long q3), .second] []))
  refine OwnR.of (fun _ hr => XS.aloadN X0.here hx rfl (hb hby d1_0) rfl rfl hr) ?_
  show OwnR _ _ _ _ _ _ _ (s₁.setTop (mkF m 1 #[.val (.ref a1), .val (.long q2), .second, .val (.long q3), .second] [(.ref a1)]))
  obtain ⟨_, _, ⟨T1, L1, kc1, ns1⟩, -, X1, ⟨Lc1, hQ1, l1, y1, z1⟩, st1⟩ := X0.specialBack hx (y := (⟨"java/lang/Record", "<init>", "()V"⟩ : MethodName)) rfl hown (mvT hZ (hw _ (List.mem_of_getElem? (i := 7) rfl))) (mvT hZ (hw _ (List.mem_of_getElem? (i := 8) rfl))) (mvT hZ (hw _ (List.mem_of_getElem? (i := 11) rfl))) (by decide) (backOf (W := 0) (rm2 l Z a0 hw [] a1 h0 n0 (Nat.le_trans Z0 (Keep.refl h0 [a1]).1) ) hZ (hw _ (List.mem_of_getElem? (i := 11) rfl)) (hw _ (List.mem_of_getElem? (i := 10) rfl)) (by decide) (by decide)) (g := (mkF m 1 #[.val (.ref a1), .val (.long q2), .second, .val (.long q3), .second] [(.ref a1)])) rfl (by rw [hml]; rfl) (Steps.refl _) (a := a1) (argsL := []) (rest := []) (lenOf pd___V rfl) rfl (by show 2 * 0 + _ ≤ _; exact Nat.le_of_eq rfl) (hb hby d1_1) (fun _ _ => ⟨rfl, e0, (by decide : 0 + 0 ≤ _), (by decide : 0 + 0 ≤ _)⟩)
  dsimp only [Pt.U, Pt.locs, Pt.cells, Pt.slots] at X1 l1 y1 z1 st1 hQ1
  subst l1 y1 z1
  obtain ⟨rfl, N1q, e1⟩ := hQ1
  have N1 := Fr.app N0 N1q
  refine OwnR.of (fun _ hr => st1.trans hr) ?_
  show OwnR _ _ _ _ _ _ _ (T1.setTop (mkF m 4 #[.val (.ref a1), .val (.long q2), .second, .val (.long q3), .second] []))
  refine OwnR.of (fun _ hr => XS.lloadN X1.here hx rfl (hb hby d1_4) rfl hr) ?_
  show OwnR _ _ _ _ _ _ _ (T1.setTop (mkF m 5 #[.val (.ref a1), .val (.long q2), .second, .val (.long q3), .second] [(.long q2)]))
  refine OwnR.of (fun _ hr => XS.lconst X1.here hx rfl (hb hby d1_5) hr) ?_
  show OwnR _ _ _ _ _ _ _ (T1.setTop (mkF m 6 #[.val (.ref a1), .val (.long q2), .second, .val (.long q3), .second] [(.long (0 : Int64)), (.long q2)]))
  refine OwnR.of (fun _ hr => XS.lcmp X1.here hx rfl (hb hby d1_6) rfl hr) ?_
  show OwnR _ _ _ _ _ _ _ (T1.setTop (mkF m 7 #[.val (.ref a1), .val (.long q2), .second, .val (.long q3), .second] [(.int (lcmpW q2 (0 : Int64)))]))
  refine OwnR.of (fun _ hr => XS.ifNo X1.here hx rfl (hb hby d1_7) rfl ((if0 _ _).trans (flt ((not_congr (own_lclt _ _)).mpr hz2)).1) hr) ?_
  show OwnR _ _ _ _ _ _ _ (T1.setTop (mkF m 10 #[.val (.ref a1), .val (.long q2), .second, .val (.long q3), .second] []))
  refine OwnR.of (fun _ hr => XS.lloadN X1.here hx rfl (hb hby d1_10) rfl hr) ?_
  show OwnR _ _ _ _ _ _ _ (T1.setTop (mkF m 11 #[.val (.ref a1), .val (.long q2), .second, .val (.long q3), .second] [(.long q3)]))
  refine OwnR.of (fun _ hr => XS.lconst X1.here hx rfl (hb hby d1_11) hr) ?_
  show OwnR _ _ _ _ _ _ _ (T1.setTop (mkF m 12 #[.val (.ref a1), .val (.long q2), .second, .val (.long q3), .second] [(.long (0 : Int64)), (.long q3)]))
  refine OwnR.of (fun _ hr => XS.lcmp X1.here hx rfl (hb hby d1_12) rfl hr) ?_
  show OwnR _ _ _ _ _ _ _ (T1.setTop (mkF m 13 #[.val (.ref a1), .val (.long q2), .second, .val (.long q3), .second] [(.int (lcmpW q3 (0 : Int64)))]))
  refine OwnR.of (fun _ hr => XS.ifYes X1.here hx rfl (pc0 := 13) (pc' := 31) rfl (hb hby d1_13) rfl ((if0 _ _).trans (flt ((not_congr (own_lclt _ _)).mpr hz3)).2.1) (by decide) (by decide) hr) ?_
  show OwnR _ _ _ _ _ _ _ (T1.setTop (mkF m 31 #[.val (.ref a1), .val (.long q2), .second, .val (.long q3), .second] []))
  refine OwnR.of (fun _ hr => XS.aloadN X1.here hx rfl (hb hby d1_31) rfl rfl hr) ?_
  show OwnR _ _ _ _ _ _ _ (T1.setTop (mkF m 32 #[.val (.ref a1), .val (.long q2), .second, .val (.long q3), .second] [(.ref a1)]))
  refine OwnR.of (fun _ hr => XS.lloadN X1.here hx rfl (hb hby d1_32) rfl hr) ?_
  show OwnR _ _ _ _ _ _ _ (T1.setTop (mkF m 33 #[.val (.ref a1), .val (.long q2), .second, .val (.long q3), .second] [(.long q2), (.ref a1)]))
  obtain ⟨T2, h2, X2, e2, W2, st2⟩ := putF X1 hx hZ hown (host := "") (Or.inl (hw _ (List.mem_of_getElem? (i := 15) rfl))) Via.refl e1 F_position_a1 E_a1 (Or.inr ⟨(hw _ (List.mem_of_getElem? (i := 16) rfl)), rfl, hnm⟩) (hw _ (List.mem_of_getElem? (i := 2) rfl)) (ty := .long) (by decide) rfl rfl (g := (mkF m 33 #[.val (.ref a1), .val (.long q2), .second, .val (.long q3), .second] [(.long q2), (.ref a1)])) rfl rfl (hb hby d1_33)
  refine OwnR.of (st2) ?_
  have F2 := Fld.same W2 F_position_a1
  have K2 : Keep h0 h2 [a1] := Keep.wr (Keep.refl h0 [a1]) W2 (Or.inl (List.mem_of_getElem? (i := 0) rfl))
  have N2 := Fr.snoc X2 N1 g_a1
  show OwnR _ _ _ _ _ _ _ (T2.setTop (mkF m 36 #[.val (.ref a1), .val (.long q2), .second, .val (.long q3), .second] []))
  refine OwnR.of (fun _ hr => XS.aloadN X2.here hx rfl (hb hby d1_36) rfl rfl hr) ?_
  show OwnR _ _ _ _ _ _ _ (T2.setTop (mkF m 37 #[.val (.ref a1), .val (.long q2), .second, .val (.long q3), .second] [(.ref a1)]))
  refine OwnR.of (fun _ hr => XS.lloadN X2.here hx rfl (hb hby d1_37) rfl hr) ?_
  show OwnR _ _ _ _ _ _ _ (T2.setTop (mkF m 38 #[.val (.ref a1), .val (.long q2), .second, .val (.long q3), .second] [(.long q3), (.ref a1)]))
  obtain ⟨T3, h3, X3, e3, W3, st3⟩ := putF X2 hx hZ hown (host := "") (Or.inl (hw _ (List.mem_of_getElem? (i := 17) rfl))) Via.refl e2 (Fld.other W2 F_length_a1 (Or.inr (slot_ne (Or.inr (hw _ (List.mem_of_getElem? (i := 18) rfl))) (Or.inr (hw _ (List.mem_of_getElem? (i := 16) rfl))) (by decide) (t := .long) (t' := .long) (by decide) (by decide)))) (Exa.keep E_a1 K2) (Or.inr ⟨(hw _ (List.mem_of_getElem? (i := 18) rfl)), rfl, hnm⟩) (hw _ (List.mem_of_getElem? (i := 2) rfl)) (ty := .long) (by decide) rfl rfl (g := (mkF m 38 #[.val (.ref a1), .val (.long q2), .second, .val (.long q3), .second] [(.long q3), (.ref a1)])) rfl rfl (hb hby d1_38)
  refine OwnR.of (st3) ?_
  have F3 := Fld.same W3 (Fld.other W2 F_length_a1 (Or.inr (slot_ne (Or.inr (hw _ (List.mem_of_getElem? (i := 18) rfl))) (Or.inr (hw _ (List.mem_of_getElem? (i := 16) rfl))) (by decide) (t := .long) (t' := .long) (by decide) (by decide))))
  have K3 : Keep h0 h3 [a1] := Keep.wr K2 W3 (Or.inl (List.mem_of_getElem? (i := 0) rfl))
  have N3 := Fr.snoc X3 N2 g_a1
  show OwnR _ _ _ _ _ _ _ (T3.setTop (mkF m 41 #[.val (.ref a1), .val (.long q2), .second, .val (.long q3), .second] []))
  refine own_leafV X3 hx hlk Bd.returns (hb hby d1_41) (by decide) (by decide) ?_
  show Q1 Z a1 q2 q3 h0 n0 _ T3.heap _
  rw [show T3.heap = h3 from e3]
  refine ⟨rfl, N3, ⟨K3, (Exa.keep E_a1 K3), (Fld.other W3 F2 (Or.inr (slot_ne (Or.inr (hw _ (List.mem_of_getElem? (i := 16) rfl))) (Or.inr (hw _ (List.mem_of_getElem? (i := 18) rfl))) (by decide) (t := .long) (t' := .long) (by decide) (by decide)))), F3⟩⟩
theorem ef_rm4 (m : MethodId) (x0 : Int64) (x1 : Int64) : entryFrame m #[(.long x0), (.long x1)] 4 = mkF m 0 #[.val (.long x0), .second, .val (.long x1), .second] [] := by first | (simp [entryFrame, mkF, argsToLocals, Value.category]; done) | rfl
theorem d4_0 : decode jdk_29_method_66_code 0 = .ok (.lload_n 0, 1) := by decide +kernel
theorem d4_1 : decode jdk_29_method_66_code 1 = .ok (.lload_n 2, 1) := by decide +kernel
theorem d4_2 : decode jdk_29_method_66_code 2 = .ok (.lcmp, 1) := by decide +kernel
theorem d4_3 : decode jdk_29_method_66_code 3 = .ok (.ifCond .lt 7, 3) := by decide +kernel
theorem d4_10 : decode jdk_29_method_66_code 10 = .ok (.lload_n 2, 1) := by decide +kernel
theorem d4_11 : decode jdk_29_method_66_code 11 = .ok (.lreturn, 1) := by decide +kernel
theorem d4_6 : decode jdk_29_method_66_code 6 = .ok (.lload_n 0, 1) := by decide +kernel
theorem d4_7 : decode jdk_29_method_66_code 7 = .ok (.goto 4, 3) := by decide +kernel
def Q4 (Z : State) (q1 : Int64) (q2 : Int64) (h0 : Heap) (n0 : Nat) (v : Option Value) (h : Heap) (L : List Loc) : Prop := v = some (.long (own_max q1 q2)) ∧ Fr n0 L ∧ h = h0
set_option maxRecDepth 65536 in
set_option maxHeartbeats 40000000 in
theorem rm4 (l : Launch) (Z : State) (a0 : Array Value) (hw : ∀ d ∈ tables_1, d.before a0 Z = true) (ws : List Jvm.Cond) (q1 : Int64) (q2 : Int64) (h0 : Heap) (n0 : Nat) (Z0 : n0 ≤ h0.size) :
    MetFree l (⟨"java/lang/Math", "max", "(JJ)J"⟩ : MethodName) (head1 (Jvm.Cond.code (⟨"java/lang/Math", "max", "(JJ)J"⟩ : MethodName) jdk_29_method_66_code 4 (some .long) :: ws) ({ frames := 0, cells := 0, slots := 0, locals := 0 } : Room)) (fun a U => a = #[(.long q1), (.long q2)] ∧ Z.Warmed39 U.vm ∧ U.heap = h0) (fun _ _ _ _ _ => True) (fun _ U o U' => ∃ v L, o = .returned v ∧ Q4 Z q1 q2 h0 n0 v U'.heap L ∧ FrameEnd U o U' L ({ frames := 0, cells := 0, slots := 0, locals := 0 } : Room).cells ({ frames := 0, cells := 0, slots := 0, locals := 0 } : Room).slots) := by
  refine MetFree.of_bodySF (Jvm.Free.JP.mathPlain rfl (by decide +kernel)) hisR ?_
  intro p e s m args below meth c s₁ Bd hml0 hP hK
  obtain ⟨rfl, hZ, hh⟩ := hP
  have hx := Bd.exec
  have hby := Bd.bytes
  have hlk := BodyLoose.notSynchronized Bd
  have hml : c.maxLocals = 4 := hml0
  have hown : s.vm.findClass "java/lang/Math" = some m.cls := findClass_of_methodNamed Bd.named
  have hnm := (name_of_methodNamed Bd.named Bd.method).1
  have X0 : Stand p l e ({ frames := 0, cells := 0, slots := 0, locals := 0 } : Room) s m #[(.long q1), (.long q2)] below meth c s₁ [] 0 0 := Stand.of_body Bd
  have e0 : s₁.heap = h0 := by rw [← hh, Bd.state]; rfl
  have N0 := Fr.nil n0
  refine OwnR.of (s := s) (Q := Q4 Z q1 q2 h0 n0) (fun t k => castTop (ef_rm4 m q1 q2) k) ?_
  show OwnR _ _ _ _ _ _ _ (s₁.setTop (mkF m 0 #[.val (.long q1), .second, .val (.long q2), .second] []))
  refine OwnR.of (fun _ hr => XS.lloadN X0.here hx rfl (hb hby d4_0) rfl hr) ?_
  show OwnR _ _ _ _ _ _ _ (s₁.setTop (mkF m 1 #[.val (.long q1), .second, .val (.long q2), .second] [(.long q1)]))
  refine OwnR.of (fun _ hr => XS.lloadN X0.here hx rfl (hb hby d4_1) rfl hr) ?_
  show OwnR _ _ _ _ _ _ _ (s₁.setTop (mkF m 2 #[.val (.long q1), .second, .val (.long q2), .second] [(.long q2), (.long q1)]))
  refine OwnR.of (fun _ hr => XS.lcmp X0.here hx rfl (hb hby d4_2) rfl hr) ?_
  show OwnR _ _ _ _ _ _ _ (s₁.setTop (mkF m 3 #[.val (.long q1), .second, .val (.long q2), .second] [(.int (lcmpW q1 q2))]))
  by_cases hc3_3 : q1 < q2
  · skip
    refine OwnR.of (fun _ hr => XS.ifYes X0.here hx rfl (pc0 := 3) (pc' := 10) rfl (hb hby d4_3) rfl ((if0 _ _).trans (tlt ((own_lclt _ _).mpr hc3_3)).1) (by decide) (by decide) hr) ?_
    show OwnR _ _ _ _ _ _ _ (s₁.setTop (mkF m 10 #[.val (.long q1), .second, .val (.long q2), .second] []))
    refine OwnR.of (fun _ hr => XS.lloadN X0.here hx rfl (hb hby d4_10) rfl hr) ?_
    show OwnR _ _ _ _ _ _ _ (s₁.setTop (mkF m 11 #[.val (.long q1), .second, .val (.long q2), .second] [(.long q2)]))
    refine own_leafJ X0 hx hlk Bd.returns (hb hby d4_11) (by decide) (by decide) ?_
    show Q4 Z q1 q2 h0 n0 _ s₁.heap _
    rw [show s₁.heap = h0 from e0]
    refine ⟨?_, N0, rfl⟩
    show (some (.long q2) : Option Value) = some (.long (own_max q1 q2))
    simp only [own_max, if_pos hc3_3]
  · skip
    refine OwnR.of (fun _ hr => XS.ifNo X0.here hx rfl (hb hby d4_3) rfl ((if0 _ _).trans (flt ((not_congr (own_lclt _ _)).mpr hc3_3)).1) hr) ?_
    show OwnR _ _ _ _ _ _ _ (s₁.setTop (mkF m 6 #[.val (.long q1), .second, .val (.long q2), .second] []))
    refine OwnR.of (fun _ hr => XS.lloadN X0.here hx rfl (hb hby d4_6) rfl hr) ?_
    show OwnR _ _ _ _ _ _ _ (s₁.setTop (mkF m 7 #[.val (.long q1), .second, .val (.long q2), .second] [(.long q1)]))
    refine OwnR.of (fun _ hr => XS.goto X0.here hx rfl (pc0 := 7) (pc' := 11) rfl (hb hby d4_7) (by decide) (by decide) hr) ?_
    show OwnR _ _ _ _ _ _ _ (s₁.setTop (mkF m 11 #[.val (.long q1), .second, .val (.long q2), .second] [(.long q1)]))
    refine own_leafJ X0 hx hlk Bd.returns (hb hby d4_11) (by decide) (by decide) ?_
    show Q4 Z q1 q2 h0 n0 _ s₁.heap _
    rw [show s₁.heap = h0 from e0]
    refine ⟨?_, N0, rfl⟩
    show (some (.long q1) : Option Value) = some (.long (own_max q1 q2))
    simp only [own_max, if_neg hc3_3]
theorem ef_rm5 (m : MethodId) (x0 : Int64) (x1 : Int64) : entryFrame m #[(.long x0), (.long x1)] 4 = mkF m 0 #[.val (.long x0), .second, .val (.long x1), .second] [] := by first | (simp [entryFrame, mkF, argsToLocals, Value.category]; done) | rfl
theorem d5_0 : decode jdk_29_method_70_code 0 = .ok (.lload_n 0, 1) := by decide +kernel
theorem d5_1 : decode jdk_29_method_70_code 1 = .ok (.lload_n 2, 1) := by decide +kernel
theorem d5_2 : decode jdk_29_method_70_code 2 = .ok (.lcmp, 1) := by decide +kernel
theorem d5_3 : decode jdk_29_method_70_code 3 = .ok (.ifCond .gt 7, 3) := by decide +kernel
theorem d5_10 : decode jdk_29_method_70_code 10 = .ok (.lload_n 2, 1) := by decide +kernel
theorem d5_11 : decode jdk_29_method_70_code 11 = .ok (.lreturn, 1) := by decide +kernel
theorem d5_6 : decode jdk_29_method_70_code 6 = .ok (.lload_n 0, 1) := by decide +kernel
theorem d5_7 : decode jdk_29_method_70_code 7 = .ok (.goto 4, 3) := by decide +kernel
def Q5 (Z : State) (q1 : Int64) (q2 : Int64) (h0 : Heap) (n0 : Nat) (v : Option Value) (h : Heap) (L : List Loc) : Prop := v = some (.long (own_min q1 q2)) ∧ Fr n0 L ∧ h = h0
set_option maxRecDepth 65536 in
set_option maxHeartbeats 40000000 in
theorem rm5 (l : Launch) (Z : State) (a0 : Array Value) (hw : ∀ d ∈ tables_1, d.before a0 Z = true) (ws : List Jvm.Cond) (q1 : Int64) (q2 : Int64) (h0 : Heap) (n0 : Nat) (Z0 : n0 ≤ h0.size) :
    MetFree l (⟨"java/lang/Math", "min", "(JJ)J"⟩ : MethodName) (head1 (Jvm.Cond.code (⟨"java/lang/Math", "min", "(JJ)J"⟩ : MethodName) jdk_29_method_70_code 4 (some .long) :: ws) ({ frames := 0, cells := 0, slots := 0, locals := 0 } : Room)) (fun a U => a = #[(.long q1), (.long q2)] ∧ Z.Warmed39 U.vm ∧ U.heap = h0) (fun _ _ _ _ _ => True) (fun _ U o U' => ∃ v L, o = .returned v ∧ Q5 Z q1 q2 h0 n0 v U'.heap L ∧ FrameEnd U o U' L ({ frames := 0, cells := 0, slots := 0, locals := 0 } : Room).cells ({ frames := 0, cells := 0, slots := 0, locals := 0 } : Room).slots) := by
  refine MetFree.of_bodySF (Jvm.Free.JP.mathPlain rfl (by decide +kernel)) hisR ?_
  intro p e s m args below meth c s₁ Bd hml0 hP hK
  obtain ⟨rfl, hZ, hh⟩ := hP
  have hx := Bd.exec
  have hby := Bd.bytes
  have hlk := BodyLoose.notSynchronized Bd
  have hml : c.maxLocals = 4 := hml0
  have hown : s.vm.findClass "java/lang/Math" = some m.cls := findClass_of_methodNamed Bd.named
  have hnm := (name_of_methodNamed Bd.named Bd.method).1
  have X0 : Stand p l e ({ frames := 0, cells := 0, slots := 0, locals := 0 } : Room) s m #[(.long q1), (.long q2)] below meth c s₁ [] 0 0 := Stand.of_body Bd
  have e0 : s₁.heap = h0 := by rw [← hh, Bd.state]; rfl
  have N0 := Fr.nil n0
  refine OwnR.of (s := s) (Q := Q5 Z q1 q2 h0 n0) (fun t k => castTop (ef_rm5 m q1 q2) k) ?_
  show OwnR _ _ _ _ _ _ _ (s₁.setTop (mkF m 0 #[.val (.long q1), .second, .val (.long q2), .second] []))
  refine OwnR.of (fun _ hr => XS.lloadN X0.here hx rfl (hb hby d5_0) rfl hr) ?_
  show OwnR _ _ _ _ _ _ _ (s₁.setTop (mkF m 1 #[.val (.long q1), .second, .val (.long q2), .second] [(.long q1)]))
  refine OwnR.of (fun _ hr => XS.lloadN X0.here hx rfl (hb hby d5_1) rfl hr) ?_
  show OwnR _ _ _ _ _ _ _ (s₁.setTop (mkF m 2 #[.val (.long q1), .second, .val (.long q2), .second] [(.long q2), (.long q1)]))
  refine OwnR.of (fun _ hr => XS.lcmp X0.here hx rfl (hb hby d5_2) rfl hr) ?_
  show OwnR _ _ _ _ _ _ _ (s₁.setTop (mkF m 3 #[.val (.long q1), .second, .val (.long q2), .second] [(.int (lcmpW q1 q2))]))
  by_cases hc3_3 : q2 < q1
  · skip
    refine OwnR.of (fun _ hr => XS.ifYes X0.here hx rfl (pc0 := 3) (pc' := 10) rfl (hb hby d5_3) rfl ((if0 _ _).trans (tlt ((own_lcgt _ _).mpr hc3_3)).2.2.1) (by decide) (by decide) hr) ?_
    show OwnR _ _ _ _ _ _ _ (s₁.setTop (mkF m 10 #[.val (.long q1), .second, .val (.long q2), .second] []))
    refine OwnR.of (fun _ hr => XS.lloadN X0.here hx rfl (hb hby d5_10) rfl hr) ?_
    show OwnR _ _ _ _ _ _ _ (s₁.setTop (mkF m 11 #[.val (.long q1), .second, .val (.long q2), .second] [(.long q2)]))
    refine own_leafJ X0 hx hlk Bd.returns (hb hby d5_11) (by decide) (by decide) ?_
    show Q5 Z q1 q2 h0 n0 _ s₁.heap _
    rw [show s₁.heap = h0 from e0]
    refine ⟨?_, N0, rfl⟩
    show (some (.long q2) : Option Value) = some (.long (own_min q1 q2))
    simp only [own_min, if_pos hc3_3]
  · skip
    refine OwnR.of (fun _ hr => XS.ifNo X0.here hx rfl (hb hby d5_3) rfl ((if0 _ _).trans (flt ((not_congr (own_lcgt _ _)).mpr hc3_3)).2.2.1) hr) ?_
    show OwnR _ _ _ _ _ _ _ (s₁.setTop (mkF m 6 #[.val (.long q1), .second, .val (.long q2), .second] []))
    refine OwnR.of (fun _ hr => XS.lloadN X0.here hx rfl (hb hby d5_6) rfl hr) ?_
    show OwnR _ _ _ _ _ _ _ (s₁.setTop (mkF m 7 #[.val (.long q1), .second, .val (.long q2), .second] [(.long q1)]))
    refine OwnR.of (fun _ hr => XS.goto X0.here hx rfl (pc0 := 7) (pc' := 11) rfl (hb hby d5_7) (by decide) (by decide) hr) ?_
    show OwnR _ _ _ _ _ _ _ (s₁.setTop (mkF m 11 #[.val (.long q1), .second, .val (.long q2), .second] [(.long q1)]))
    refine own_leafJ X0 hx hlk Bd.returns (hb hby d5_11) (by decide) (by decide) ?_
    show Q5 Z q1 q2 h0 n0 _ s₁.heap _
    rw [show s₁.heap = h0 from e0]
    refine ⟨?_, N0, rfl⟩
    show (some (.long q1) : Option Value) = some (.long (own_min q1 q2))
    simp only [own_min, if_neg hc3_3]
theorem ef_rm6 (m : MethodId) (x0 : Addr) (x1 : Int64) (x2 : Int64) : entryFrame m #[(.ref x0), (.long x1), (.long x2)] 5 = mkF m 0 #[.val (.ref x0), .val (.long x1), .second, .val (.long x2), .second] [] := by first | (simp [entryFrame, mkF, argsToLocals, Value.category]; done) | rfl
theorem d6_0 : decode prog_7_method_2_code 0 = .ok (.aload_n 0, 1) := by decide +kernel
theorem d6_1 : decode prog_7_method_2_code 1 = .ok (.getfield 22, 3) := by decide +kernel
theorem d6_4 : decode prog_7_method_2_code 4 = .ok (.lconst 0, 1) := by decide +kernel
theorem d6_5 : decode prog_7_method_2_code 5 = .ok (.lcmp, 1) := by decide +kernel
theorem d6_6 : decode prog_7_method_2_code 6 = .ok (.ifCond .le 38, 3) := by decide +kernel
theorem d6_9 : decode prog_7_method_2_code 9 = .ok (.lload_n 3, 1) := by decide +kernel
theorem d6_10 : decode prog_7_method_2_code 10 = .ok (.lconst 0, 1) := by decide +kernel
theorem d6_11 : decode prog_7_method_2_code 11 = .ok (.lcmp, 1) := by decide +kernel
theorem d6_12 : decode prog_7_method_2_code 12 = .ok (.ifCond .le 32, 3) := by decide +kernel
theorem d6_15 : decode prog_7_method_2_code 15 = .ok (.lload_n 1, 1) := by decide +kernel
theorem d6_16 : decode prog_7_method_2_code 16 = .ok (.aload_n 0, 1) := by decide +kernel
theorem d6_17 : decode prog_7_method_2_code 17 = .ok (.getfield 16, 3) := by decide +kernel
theorem d6_20 : decode prog_7_method_2_code 20 = .ok (.aload_n 0, 1) := by decide +kernel
theorem d6_21 : decode prog_7_method_2_code 21 = .ok (.getfield 22, 3) := by decide +kernel
theorem d6_24 : decode prog_7_method_2_code 24 = .ok (.ladd, 1) := by decide +kernel
theorem d6_25 : decode prog_7_method_2_code 25 = .ok (.lcmp, 1) := by decide +kernel
theorem d6_26 : decode prog_7_method_2_code 26 = .ok (.ifCond .ge 18, 3) := by decide +kernel
theorem d6_29 : decode prog_7_method_2_code 29 = .ok (.aload_n 0, 1) := by decide +kernel
theorem d6_30 : decode prog_7_method_2_code 30 = .ok (.getfield 16, 3) := by decide +kernel
theorem d6_33 : decode prog_7_method_2_code 33 = .ok (.lload_n 1, 1) := by decide +kernel
theorem d6_34 : decode prog_7_method_2_code 34 = .ok (.lload_n 3, 1) := by decide +kernel
theorem d6_35 : decode prog_7_method_2_code 35 = .ok (.ladd, 1) := by decide +kernel
theorem d6_36 : decode prog_7_method_2_code 36 = .ok (.lcmp, 1) := by decide +kernel
theorem d6_37 : decode prog_7_method_2_code 37 = .ok (.ifCond .ge 7, 3) := by decide +kernel
theorem d6_40 : decode prog_7_method_2_code 40 = .ok (.iconst 1, 1) := by decide +kernel
theorem d6_41 : decode prog_7_method_2_code 41 = .ok (.goto 4, 3) := by decide +kernel
theorem d6_45 : decode prog_7_method_2_code 45 = .ok (.ireturn, 1) := by decide +kernel
theorem d6_44 : decode prog_7_method_2_code 44 = .ok (.iconst 0, 1) := by decide +kernel
def Q6 (Z : State) (q2 : Int64) (q3 : Int64) (x1 : Int64) (x2 : Int64) (h0 : Heap) (n0 : Nat) (v : Option Value) (h : Heap) (L : List Loc) : Prop := v = some (.int (own_ov x1 x2 q2 q3)) ∧ Fr n0 L ∧ h = h0
set_option maxRecDepth 65536 in
set_option maxHeartbeats 40000000 in
theorem rm6 (l : Launch) (Z : State) (a0 : Array Value) (hw : ∀ d ∈ tables_1, d.before a0 Z = true) (ws : List Jvm.Cond) (a1 : Addr) (q2 : Int64) (q3 : Int64) (x1 x2 : Int64) (h0 : Heap) (n0 : Nat) (Z0 : n0 ≤ h0.size) (E_a1 : Exa Z h0 a1 "com/example/bittern/bittern/volume/BlockDevice$Range") (F_position_a1 : Fld Z h0 a1 "com/example/bittern/bittern/volume/BlockDevice$Range" "position" "J" (.long x1)) (F_length_a1 : Fld Z h0 a1 "com/example/bittern/bittern/volume/BlockDevice$Range" "length" "J" (.long x2)) :
    MetFree l (⟨"com/example/bittern/bittern/volume/BlockDevice$Range", "overlaps", "(JJ)Z"⟩ : MethodName) (head1 (Jvm.Cond.code (⟨"com/example/bittern/bittern/volume/BlockDevice$Range", "overlaps", "(JJ)Z"⟩ : MethodName) prog_7_method_2_code 5 (some .boolean) :: ws) ({ frames := 0, cells := 0, slots := 0, locals := 0 } : Room)) (fun a U => a = #[(.ref a1), (.long q2), (.long q3)] ∧ Z.Warmed39 U.vm ∧ U.heap = h0) (fun _ _ _ _ _ => True) (fun _ U o U' => ∃ v L, o = .returned v ∧ Q6 Z q2 q3 x1 x2 h0 n0 v U'.heap L ∧ FrameEnd U o U' L ({ frames := 0, cells := 0, slots := 0, locals := 0 } : Room).cells ({ frames := 0, cells := 0, slots := 0, locals := 0 } : Room).slots) := by
  refine MetFree.of_bodySF (plainFor_of_name pn_com_example_bittern_bittern_volume_BlockDevice_Range) hisR ?_
  intro p e s m args below meth c s₁ Bd hml0 hP hK
  obtain ⟨rfl, hZ, hh⟩ := hP
  have hx := Bd.exec
  have hby := Bd.bytes
  have hlk := BodyLoose.notSynchronized Bd
  have hml : c.maxLocals = 5 := hml0
  have hown : s.vm.findClass "com/example/bittern/bittern/volume/BlockDevice$Range" = some m.cls := findClass_of_methodNamed Bd.named
  have hnm := (name_of_methodNamed Bd.named Bd.method).1
  have X0 : Stand p l e ({ frames := 0, cells := 0, slots := 0, locals := 0 } : Room) s m #[(.ref a1), (.long q2), (.long q3)] below meth c s₁ [] 0 0 := Stand.of_body Bd
  have e0 : s₁.heap = h0 := by rw [← hh, Bd.state]; rfl
  have N0 := Fr.nil n0
  refine OwnR.of (s := s) (Q := Q6 Z q2 q3 x1 x2 h0 n0) (fun t k => castTop (ef_rm6 m a1 q2 q3) k) ?_
  show OwnR _ _ _ _ _ _ _ (s₁.setTop (mkF m 0 #[.val (.ref a1), .val (.long q2), .second, .val (.long q3), .second] []))
  refine OwnR.of (fun _ hr => XS.aloadN X0.here hx rfl (hb hby d6_0) rfl rfl hr) ?_
  show OwnR _ _ _ _ _ _ _ (s₁.setTop (mkF m 1 #[.val (.ref a1), .val (.long q2), .second, .val (.long q3), .second] [(.ref a1)]))
  obtain ⟨T1, X1, e1, st1⟩ := getF X0 hx hZ hown (host := "") (Or.inl (hw _ (List.mem_of_getElem? (i := 17) rfl))) Via.refl e0 F_length_a1 (g := (mkF m 1 #[.val (.ref a1), .val (.long q2), .second, .val (.long q3), .second] [(.ref a1)])) rfl rfl (hb hby d6_1)
  refine OwnR.of (st1) ?_
  show OwnR _ _ _ _ _ _ _ (T1.setTop (mkF m 4 #[.val (.ref a1), .val (.long q2), .second, .val (.long q3), .second] [(.long x2)]))
  refine OwnR.of (fun _ hr => XS.lconst X1.here hx rfl (hb hby d6_4) hr) ?_
  show OwnR _ _ _ _ _ _ _ (T1.setTop (mkF m 5 #[.val (.ref a1), .val (.long q2), .second, .val (.long q3), .second] [(.long (0 : Int64)), (.long x2)]))
  refine OwnR.of (fun _ hr => XS.lcmp X1.here hx rfl (hb hby d6_5) rfl hr) ?_
  show OwnR _ _ _ _ _ _ _ (T1.setTop (mkF m 6 #[.val (.ref a1), .val (.long q2), .second, .val (.long q3), .second] [(.int (lcmpW x2 (0 : Int64)))]))
  by_cases hc6_2 : (0 : Int64) < x2
  · skip
    refine OwnR.of (fun _ hr => XS.ifNo X1.here hx rfl (hb hby d6_6) rfl ((if0 _ _).trans (tlt ((own_lcgt _ _).mpr hc6_2)).2.2.2) hr) ?_
    show OwnR _ _ _ _ _ _ _ (T1.setTop (mkF m 9 #[.val (.ref a1), .val (.long q2), .second, .val (.long q3), .second] []))
    refine OwnR.of (fun _ hr => XS.lloadN X1.here hx rfl (hb hby d6_9) rfl hr) ?_
    show OwnR _ _ _ _ _ _ _ (T1.setTop (mkF m 10 #[.val (.ref a1), .val (.long q2), .second, .val (.long q3), .second] [(.long q3)]))
    refine OwnR.of (fun _ hr => XS.lconst X1.here hx rfl (hb hby d6_10) hr) ?_
    show OwnR _ _ _ _ _ _ _ (T1.setTop (mkF m 11 #[.val (.ref a1), .val (.long q2), .second, .val (.long q3), .second] [(.long (0 : Int64)), (.long q3)]))
    refine OwnR.of (fun _ hr => XS.lcmp X1.here hx rfl (hb hby d6_11) rfl hr) ?_
    show OwnR _ _ _ _ _ _ _ (T1.setTop (mkF m 12 #[.val (.ref a1), .val (.long q2), .second, .val (.long q3), .second] [(.int (lcmpW q3 (0 : Int64)))]))
    by_cases hc12_3 : (0 : Int64) < q3
    · skip
      refine OwnR.of (fun _ hr => XS.ifNo X1.here hx rfl (hb hby d6_12) rfl ((if0 _ _).trans (tlt ((own_lcgt _ _).mpr hc12_3)).2.2.2) hr) ?_
      show OwnR _ _ _ _ _ _ _ (T1.setTop (mkF m 15 #[.val (.ref a1), .val (.long q2), .second, .val (.long q3), .second] []))
      refine OwnR.of (fun _ hr => XS.lloadN X1.here hx rfl (hb hby d6_15) rfl hr) ?_
      show OwnR _ _ _ _ _ _ _ (T1.setTop (mkF m 16 #[.val (.ref a1), .val (.long q2), .second, .val (.long q3), .second] [(.long q2)]))
      refine OwnR.of (fun _ hr => XS.aloadN X1.here hx rfl (hb hby d6_16) rfl rfl hr) ?_
      show OwnR _ _ _ _ _ _ _ (T1.setTop (mkF m 17 #[.val (.ref a1), .val (.long q2), .second, .val (.long q3), .second] [(.ref a1), (.long q2)]))
      obtain ⟨T4, X4, e4, st4⟩ := getF X1 hx hZ hown (host := "") (Or.inl (hw _ (List.mem_of_getElem? (i := 15) rfl))) Via.refl e1 F_position_a1 (g := (mkF m 17 #[.val (.ref a1), .val (.long q2), .second, .val (.long q3), .second] [(.ref a1), (.long q2)])) rfl rfl (hb hby d6_17)
      refine OwnR.of (st4) ?_
      show OwnR _ _ _ _ _ _ _ (T4.setTop (mkF m 20 #[.val (.ref a1), .val (.long q2), .second, .val (.long q3), .second] [(.long x1), (.long q2)]))
      refine OwnR.of (fun _ hr => XS.aloadN X4.here hx rfl (hb hby d6_20) rfl rfl hr) ?_
      show OwnR _ _ _ _ _ _ _ (T4.setTop (mkF m 21 #[.val (.ref a1), .val (.long q2), .second, .val (.long q3), .second] [(.ref a1), (.long x1), (.long q2)]))
      obtain ⟨T5, X5, e5, st5⟩ := getF X4 hx hZ hown (host := "") (Or.inl (hw _ (List.mem_of_getElem? (i := 17) rfl))) Via.refl e4 F_length_a1 (g := (mkF m 21 #[.val (.ref a1), .val (.long q2), .second, .val (.long q3), .second] [(.ref a1), (.long x1), (.long q2)])) rfl rfl (hb hby d6_21)
      refine OwnR.of (st5) ?_
      show OwnR _ _ _ _ _ _ _ (T5.setTop (mkF m 24 #[.val (.ref a1), .val (.long q2), .second, .val (.long q3), .second] [(.long x2), (.long x1), (.long q2)]))
      refine OwnR.of (fun _ hr => XS.ladd X5.here hx rfl (hb hby d6_24) rfl hr) ?_
      show OwnR _ _ _ _ _ _ _ (T5.setTop (mkF m 25 #[.val (.ref a1), .val (.long q2), .second, .val (.long q3), .second] [(.long (x1 + x2)), (.long q2)]))
      refine OwnR.of (fun _ hr => XS.lcmp X5.here hx rfl (hb hby d6_25) rfl hr) ?_
      show OwnR _ _ _ _ _ _ _ (T5.setTop (mkF m 26 #[.val (.ref a1), .val (.long q2), .second, .val (.long q3), .second] [(.int (lcmpW q2 (x1 + x2)))]))
      by_cases hc26_6 : q2 < (x1 + x2)
      · skip
        refine OwnR.of (fun _ hr => XS.ifNo X5.here hx rfl (hb hby d6_26) rfl ((if0 _ _).trans (tlt ((own_lclt _ _).mpr hc26_6)).2.1) hr) ?_
        show OwnR _ _ _ _ _ _ _ (T5.setTop (mkF m 29 #[.val (.ref a1), .val (.long q2), .second, .val (.long q3), .second] []))
        refine OwnR.of (fun _ hr => XS.aloadN X5.here hx rfl (hb hby d6_29) rfl rfl hr) ?_
        show OwnR _ _ _ _ _ _ _ (T5.setTop (mkF m 30 #[.val (.ref a1), .val (.long q2), .second, .val (.long q3), .second] [(.ref a1)]))
        obtain ⟨T7, X7, e7, st7⟩ := getF X5 hx hZ hown (host := "") (Or.inl (hw _ (List.mem_of_getElem? (i := 15) rfl))) Via.refl e5 F_position_a1 (g := (mkF m 30 #[.val (.ref a1), .val (.long q2), .second, .val (.long q3), .second] [(.ref a1)])) rfl rfl (hb hby d6_30)
        refine OwnR.of (st7) ?_
        show OwnR _ _ _ _ _ _ _ (T7.setTop (mkF m 33 #[.val (.ref a1), .val (.long q2), .second, .val (.long q3), .second] [(.long x1)]))
        refine OwnR.of (fun _ hr => XS.lloadN X7.here hx rfl (hb hby d6_33) rfl hr) ?_
        show OwnR _ _ _ _ _ _ _ (T7.setTop (mkF m 34 #[.val (.ref a1), .val (.long q2), .second, .val (.long q3), .second] [(.long q2), (.long x1)]))
        refine OwnR.of (fun _ hr => XS.lloadN X7.here hx rfl (hb hby d6_34) rfl hr) ?_
        show OwnR _ _ _ _ _ _ _ (T7.setTop (mkF m 35 #[.val (.ref a1), .val (.long q2), .second, .val (.long q3), .second] [(.long q3), (.long q2), (.long x1)]))
        refine OwnR.of (fun _ hr => XS.ladd X7.here hx rfl (hb hby d6_35) rfl hr) ?_
        show OwnR _ _ _ _ _ _ _ (T7.setTop (mkF m 36 #[.val (.ref a1), .val (.long q2), .second, .val (.long q3), .second] [(.long (q2 + q3)), (.long x1)]))
        refine OwnR.of (fun _ hr => XS.lcmp X7.here hx rfl (hb hby d6_36) rfl hr) ?_
        show OwnR _ _ _ _ _ _ _ (T7.setTop (mkF m 37 #[.val (.ref a1), .val (.long q2), .second, .val (.long q3), .second] [(.int (lcmpW x1 (q2 + q3)))]))
        by_cases hc37_8 : x1 < (q2 + q3)
        · skip
          refine OwnR.of (fun _ hr => XS.ifNo X7.here hx rfl (hb hby d6_37) rfl ((if0 _ _).trans (tlt ((own_lclt _ _).mpr hc37_8)).2.1) hr) ?_
          show OwnR _ _ _ _ _ _ _ (T7.setTop (mkF m 40 #[.val (.ref a1), .val (.long q2), .second, .val (.long q3), .second] []))
          refine OwnR.of (fun _ hr => XS.iconst X7.here hx rfl (hb hby d6_40) hr) ?_
          show OwnR _ _ _ _ _ _ _ (T7.setTop (mkF m 41 #[.val (.ref a1), .val (.long q2), .second, .val (.long q3), .second] [(.int (1 : Int32))]))
          refine OwnR.of (fun _ hr => XS.goto X7.here hx rfl (pc0 := 41) (pc' := 45) rfl (hb hby d6_41) (by decide) (by decide) hr) ?_
          show OwnR _ _ _ _ _ _ _ (T7.setTop (mkF m 45 #[.val (.ref a1), .val (.long q2), .second, .val (.long q3), .second] [(.int (1 : Int32))]))
          refine own_leafN X7 hx hlk (t := .boolean) Bd.returns (by simp) (hb hby d6_45) (z' := (1 : Int32)) rfl (by decide) (by decide) ?_
          show Q6 Z q2 q3 x1 x2 h0 n0 _ T7.heap _
          rw [show T7.heap = h0 from e7]
          refine ⟨?_, N0, rfl⟩
          show (some (.int (1 : Int32)) : Option Value) = some (.int (own_ov x1 x2 q2 q3))
          simp only [own_ov, if_pos hc6_2, if_pos hc12_3, if_pos hc26_6, if_pos hc37_8]
        · skip
          refine OwnR.of (fun _ hr => XS.ifYes X7.here hx rfl (pc0 := 37) (pc' := 44) rfl (hb hby d6_37) rfl ((if0 _ _).trans (flt ((not_congr (own_lclt _ _)).mpr hc37_8)).2.1) (by decide) (by decide) hr) ?_
          show OwnR _ _ _ _ _ _ _ (T7.setTop (mkF m 44 #[.val (.ref a1), .val (.long q2), .second, .val (.long q3), .second] []))
          refine OwnR.of (fun _ hr => XS.iconst X7.here hx rfl (hb hby d6_44) hr) ?_
          show OwnR _ _ _ _ _ _ _ (T7.setTop (mkF m 45 #[.val (.ref a1), .val (.long q2), .second, .val (.long q3), .second] [(.int (0 : Int32))]))
          refine own_leafN X7 hx hlk (t := .boolean) Bd.returns (by simp) (hb hby d6_45) (z' := (0 : Int32)) rfl (by decide) (by decide) ?_
          show Q6 Z q2 q3 x1 x2 h0 n0 _ T7.heap _
          rw [show T7.heap = h0 from e7]
          refine ⟨?_, N0, rfl⟩
          show (some (.int (0 : Int32)) : Option Value) = some (.int (own_ov x1 x2 q2 q3))
          simp only [own_ov, if_pos hc6_2, if_pos hc12_3, if_pos hc26_6, if_neg hc37_8]
      · skip
        refine OwnR.of (fun _ hr => XS.ifYes X5.here hx rfl (pc0 := 26) (pc' := 44) rfl (hb hby d6_26) rfl ((if0 _ _).trans (flt ((not_congr (own_lclt _ _)).mpr hc26_6)).2.1) (by decide) (by decide) hr) ?_
        show OwnR _ _ _ _ _ _ _ (T5.setTop (mkF m 44 #[.val (.ref a1), .val (.long q2), .second, .val (.long q3), .second] []))
        refine OwnR.of (fun _ hr => XS.iconst X5.here hx rfl (hb hby d6_44) hr) ?_
        show OwnR _ _ _ _ _ _ _ (T5.setTop (mkF m 45 #[.val (.ref a1), .val (.long q2), .second, .val (.long q3), .second] [(.int (0 : Int32))]))
        refine own_leafN X5 hx hlk (t := .boolean) Bd.returns (by simp) (hb hby d6_45) (z' := (0 : Int32)) rfl (by decide) (by decide) ?_
        show Q6 Z q2 q3 x1 x2 h0 n0 _ T5.heap _
        rw [show T5.heap = h0 from e5]
        refine ⟨?_, N0, rfl⟩
        show (some (.int (0 : Int32)) : Option Value) = some (.int (own_ov x1 x2 q2 q3))
        simp only [own_ov, if_pos hc6_2, if_pos hc12_3, if_neg hc26_6]
    · skip
      refine OwnR.of (fun _ hr => XS.ifYes X1.here hx rfl (pc0 := 12) (pc' := 44) rfl (hb hby d6_12) rfl ((if0 _ _).trans (flt ((not_congr (own_lcgt _ _)).mpr hc12_3)).2.2.2) (by decide) (by decide) hr) ?_
      show OwnR _ _ _ _ _ _ _ (T1.setTop (mkF m 44 #[.val (.ref a1), .val (.long q2), .second, .val (.long q3), .second] []))
      refine OwnR.of (fun _ hr => XS.iconst X1.here hx rfl (hb hby d6_44) hr) ?_
      show OwnR _ _ _ _ _ _ _ (T1.setTop (mkF m 45 #[.val (.ref a1), .val (.long q2), .second, .val (.long q3), .second] [(.int (0 : Int32))]))
      refine own_leafN X1 hx hlk (t := .boolean) Bd.returns (by simp) (hb hby d6_45) (z' := (0 : Int32)) rfl (by decide) (by decide) ?_
      show Q6 Z q2 q3 x1 x2 h0 n0 _ T1.heap _
      rw [show T1.heap = h0 from e1]
      refine ⟨?_, N0, rfl⟩
      show (some (.int (0 : Int32)) : Option Value) = some (.int (own_ov x1 x2 q2 q3))
      simp only [own_ov, if_pos hc6_2, if_neg hc12_3]
  · skip
    refine OwnR.of (fun _ hr => XS.ifYes X1.here hx rfl (pc0 := 6) (pc' := 44) rfl (hb hby d6_6) rfl ((if0 _ _).trans (flt ((not_congr (own_lcgt _ _)).mpr hc6_2)).2.2.2) (by decide) (by decide) hr) ?_
    show OwnR _ _ _ _ _ _ _ (T1.setTop (mkF m 44 #[.val (.ref a1), .val (.long q2), .second, .val (.long q3), .second] []))
    refine OwnR.of (fun _ hr => XS.iconst X1.here hx rfl (hb hby d6_44) hr) ?_
    show OwnR _ _ _ _ _ _ _ (T1.setTop (mkF m 45 #[.val (.ref a1), .val (.long q2), .second, .val (.long q3), .second] [(.int (0 : Int32))]))
    refine own_leafN X1 hx hlk (t := .boolean) Bd.returns (by simp) (hb hby d6_45) (z' := (0 : Int32)) rfl (by decide) (by decide) ?_
    show Q6 Z q2 q3 x1 x2 h0 n0 _ T1.heap _
    rw [show T1.heap = h0 from e1]
    refine ⟨?_, N0, rfl⟩
    show (some (.int (0 : Int32)) : Option Value) = some (.int (own_ov x1 x2 q2 q3))
    simp only [own_ov, if_neg hc6_2]
theorem pn_com_example_bittern_bittern_volume_RangeOverlapsPinLaw : plainName "com/example/bittern/bittern/volume/RangeOverlapsPinLaw" = true := by first | (simp [plainName, overriddenIn]; done) | decide +kernel
theorem ef_rm0 (m : MethodId) (x0 : Int64) (x1 : Int64) (x2 : Int64) (x3 : Int64) : entryFrame m #[(.long x0), (.long x1), (.long x2), (.long x3)] maxLocals = mkF m 0 #[.val (.long x0), .second, .val (.long x1), .second, .val (.long x2), .second, .val (.long x3), .second, .unset, .unset, .unset, .unset, .unset, .unset, .unset, .unset, .unset, .unset, .unset, .unset, .unset, .unset] [] := by first | (simp [entryFrame, mkF, argsToLocals, Value.category, maxLocals]; done) | rfl
theorem pd__JJ_V : parseMethodDescriptor "(JJ)V" = some ⟨[.long, .long], none⟩ := by decide +kernel
theorem pd__JJ_J : parseMethodDescriptor "(JJ)J" = some ⟨[.long, .long], some .long⟩ := by decide +kernel
theorem pd__JJ_Z : parseMethodDescriptor "(JJ)Z" = some ⟨[.long, .long], some .boolean⟩ := by decide +kernel
def Q0 (Z : State)  (h0 : Heap) (n0 : Nat) (v : Option Value) (h : Heap) (L : List Loc) : Prop := v = some (.int (1 : Int32)) ∧ Fr n0 L
set_option maxRecDepth 65536 in
set_option maxHeartbeats 40000000 in
theorem rm0 (l : Launch) (Z : State) (a0 : Array Value) (hw : ∀ d ∈ tables_1, d.before a0 Z = true) (ws : List Jvm.Cond) (q1 : Int64) (q2 : Int64) (q3 : Int64) (q4 : Int64) (h0 : Heap) (n0 : Nat) (Z0 : n0 ≤ h0.size) :
    MetFree l x (head1 (Jvm.Cond.code x code maxLocals ret :: ws) room_1) (fun a U => a = #[(.long q1), (.long q2), (.long q3), (.long q4)] ∧ Z.Warmed39 U.vm ∧ U.heap = h0) (fun _ _ _ _ _ => True) (fun _ U o U' => ∃ v L, o = .returned v ∧ Q0 Z  h0 n0 v U'.heap L ∧ FrameEnd U o U' L 16 128) := by
  refine MetFree.of_bodySF (plainFor_of_name pn_com_example_bittern_bittern_volume_RangeOverlapsPinLaw) hisR ?_
  intro p e s m args below meth c s₁ Bd hml0 hP hK
  obtain ⟨rfl, hZ, hh⟩ := hP
  have hx := Bd.exec
  have hby := Bd.bytes
  have hlk := BodyLoose.notSynchronized Bd
  have hml : c.maxLocals = 22 := hml0
  have hown : s.vm.findClass "com/example/bittern/bittern/volume/RangeOverlapsPinLaw" = some m.cls := findClass_of_methodNamed Bd.named
  have hnm := (name_of_methodNamed Bd.named Bd.method).1
  have X0 : Stand p l e room_1 s m #[(.long q1), (.long q2), (.long q3), (.long q4)] below meth c s₁ [] 0 0 := Stand.of_body Bd
  have e0 : s₁.heap = h0 := by rw [← hh, Bd.state]; rfl
  have N0 := Fr.nil n0
  refine OwnR.of (s := s) (Q := Q0 Z  h0 n0) (fun t k => castTop (ef_rm0 m q1 q2 q3 q4) k) ?_
  show OwnR _ _ _ _ _ _ _ (s₁.setTop (mkF m 0 #[.val (.long q1), .second, .val (.long q2), .second, .val (.long q3), .second, .val (.long q4), .second, .unset, .unset, .unset, .unset, .unset, .unset, .unset, .unset, .unset, .unset, .unset, .unset, .unset, .unset] []))
  refine OwnR.of (fun _ hr => XS.lloadN X0.here hx rfl (hb hby at_0) rfl hr) ?_
  show OwnR _ _ _ _ _ _ _ (s₁.setTop (mkF m 1 #[.val (.long q1), .second, .val (.long q2), .second, .val (.long q3), .second, .val (.long q4), .second, .unset, .unset, .unset, .unset, .unset, .unset, .unset, .unset, .unset, .unset, .unset, .unset, .unset, .unset] [(.long q1)]))
  refine OwnR.of (X0.ldc2Long hx hown (mvT hZ (hw _ (List.mem_of_getElem? (i := 0) rfl))) (g := (mkF m 1 #[.val (.long q1), .second, .val (.long q2), .second, .val (.long q3), .second, .val (.long q4), .second, .unset, .unset, .unset, .unset, .unset, .unset, .unset, .unset, .unset, .unset, .unset, .unset, .unset, .unset] [(.long q1)])) rfl (hb hby at_1)) ?_
  show OwnR _ _ _ _ _ _ _ (s₁.setTop (mkF m 4 #[.val (.long q1), .second, .val (.long q2), .second, .val (.long q3), .second, .val (.long q4), .second, .unset, .unset, .unset, .unset, .unset, .unset, .unset, .unset, .unset, .unset, .unset, .unset, .unset, .unset] [(.long (4611686018427387903 : Int64)), (.long q1)]))
  refine OwnR.of (fun _ hr => XS.land X0.here hx rfl (hb hby at_4) rfl hr) ?_
  show OwnR _ _ _ _ _ _ _ (s₁.setTop (mkF m 5 #[.val (.long q1), .second, .val (.long q2), .second, .val (.long q3), .second, .val (.long q4), .second, .unset, .unset, .unset, .unset, .unset, .unset, .unset, .unset, .unset, .unset, .unset, .unset, .unset, .unset] [(.long (q1 &&& (4611686018427387903 : Int64)))]))
  refine OwnR.of (fun _ hr => XS.lstore X0.here hx rfl (hb hby at_5) rfl (l' := #[.val (.long q1), .second, .val (.long q2), .second, .val (.long q3), .second, .val (.long q4), .second, .val (.long (q1 &&& (4611686018427387903 : Int64))), .second, .unset, .unset, .unset, .unset, .unset, .unset, .unset, .unset, .unset, .unset, .unset, .unset]) rfl hr) ?_
  show OwnR _ _ _ _ _ _ _ (s₁.setTop (mkF m 7 #[.val (.long q1), .second, .val (.long q2), .second, .val (.long q3), .second, .val (.long q4), .second, .val (.long (q1 &&& (4611686018427387903 : Int64))), .second, .unset, .unset, .unset, .unset, .unset, .unset, .unset, .unset, .unset, .unset, .unset, .unset] []))
  obtain ⟨vp, hvp⟩ : ∃ z : Int64, z = (q1 &&& (4611686018427387903 : Int64)) := ⟨_, rfl⟩
  rw [← hvp]
  show OwnR _ _ _ _ _ _ _ (s₁.setTop (mkF m 7 #[.val (.long q1), .second, .val (.long q2), .second, .val (.long q3), .second, .val (.long q4), .second, .val (.long vp), .second, .unset, .unset, .unset, .unset, .unset, .unset, .unset, .unset, .unset, .unset, .unset, .unset] []))
  have bvp : 0 ≤ vp.toInt ∧ vp.toInt < 4611686018427387904 := by
    have q := c_maskL q1 4611686018427387903 62 (by decide) (by decide)
    rw [← hvp] at q
    have e : ((2 ^ 62 : Nat) : Int) = 4611686018427387904 := by decide
    rw [e] at q
    omega
  refine OwnR.of (fun _ hr => XS.lloadN X0.here hx rfl (hb hby at_7) rfl hr) ?_
  show OwnR _ _ _ _ _ _ _ (s₁.setTop (mkF m 8 #[.val (.long q1), .second, .val (.long q2), .second, .val (.long q3), .second, .val (.long q4), .second, .val (.long vp), .second, .unset, .unset, .unset, .unset, .unset, .unset, .unset, .unset, .unset, .unset, .unset, .unset] [(.long q2)]))
  refine OwnR.of (X0.ldc2Long hx hown (mvT hZ (hw _ (List.mem_of_getElem? (i := 0) rfl))) (g := (mkF m 8 #[.val (.long q1), .second, .val (.long q2), .second, .val (.long q3), .second, .val (.long q4), .second, .val (.long vp), .second, .unset, .unset, .unset, .unset, .unset, .unset, .unset, .unset, .unset, .unset, .unset, .unset] [(.long q2)])) rfl (hb hby at_8)) ?_
  show OwnR _ _ _ _ _ _ _ (s₁.setTop (mkF m 11 #[.val (.long q1), .second, .val (.long q2), .second, .val (.long q3), .second, .val (.long q4), .second, .val (.long vp), .second, .unset, .unset, .unset, .unset, .unset, .unset, .unset, .unset, .unset, .unset, .unset, .unset] [(.long (4611686018427387903 : Int64)), (.long q2)]))
  refine OwnR.of (fun _ hr => XS.land X0.here hx rfl (hb hby at_11) rfl hr) ?_
  show OwnR _ _ _ _ _ _ _ (s₁.setTop (mkF m 12 #[.val (.long q1), .second, .val (.long q2), .second, .val (.long q3), .second, .val (.long q4), .second, .val (.long vp), .second, .unset, .unset, .unset, .unset, .unset, .unset, .unset, .unset, .unset, .unset, .unset, .unset] [(.long (q2 &&& (4611686018427387903 : Int64)))]))
  refine OwnR.of (fun _ hr => XS.lstore X0.here hx rfl (hb hby at_12) rfl (l' := #[.val (.long q1), .second, .val (.long q2), .second, .val (.long q3), .second, .val (.long q4), .second, .val (.long vp), .second, .val (.long (q2 &&& (4611686018427387903 : Int64))), .second, .unset, .unset, .unset, .unset, .unset, .unset, .unset, .unset, .unset, .unset]) rfl hr) ?_
  show OwnR _ _ _ _ _ _ _ (s₁.setTop (mkF m 14 #[.val (.long q1), .second, .val (.long q2), .second, .val (.long q3), .second, .val (.long q4), .second, .val (.long vp), .second, .val (.long (q2 &&& (4611686018427387903 : Int64))), .second, .unset, .unset, .unset, .unset, .unset, .unset, .unset, .unset, .unset, .unset] []))
  obtain ⟨vl, hvl⟩ : ∃ z : Int64, z = (q2 &&& (4611686018427387903 : Int64)) := ⟨_, rfl⟩
  rw [← hvl]
  show OwnR _ _ _ _ _ _ _ (s₁.setTop (mkF m 14 #[.val (.long q1), .second, .val (.long q2), .second, .val (.long q3), .second, .val (.long q4), .second, .val (.long vp), .second, .val (.long vl), .second, .unset, .unset, .unset, .unset, .unset, .unset, .unset, .unset, .unset, .unset] []))
  have bvl : 0 ≤ vl.toInt ∧ vl.toInt < 4611686018427387904 := by
    have q := c_maskL q2 4611686018427387903 62 (by decide) (by decide)
    rw [← hvl] at q
    have e : ((2 ^ 62 : Nat) : Int) = 4611686018427387904 := by decide
    rw [e] at q
    omega
  refine OwnR.of (fun _ hr => XS.lload X0.here hx rfl (hb hby at_14) rfl hr) ?_
  show OwnR _ _ _ _ _ _ _ (s₁.setTop (mkF m 16 #[.val (.long q1), .second, .val (.long q2), .second, .val (.long q3), .second, .val (.long q4), .second, .val (.long vp), .second, .val (.long vl), .second, .unset, .unset, .unset, .unset, .unset, .unset, .unset, .unset, .unset, .unset] [(.long q3)]))
  refine OwnR.of (fun _ hr => XS.iconst X0.here hx rfl (hb hby at_16) hr) ?_
  show OwnR _ _ _ _ _ _ _ (s₁.setTop (mkF m 17 #[.val (.long q1), .second, .val (.long q2), .second, .val (.long q3), .second, .val (.long q4), .second, .val (.long vp), .second, .val (.long vl), .second, .unset, .unset, .unset, .unset, .unset, .unset, .unset, .unset, .unset, .unset] [(.int (1 : Int32)), (.long q3)]))
  refine OwnR.of (fun _ hr => XS.lshr X0.here hx rfl (hb hby at_17) rfl hr) ?_
  show OwnR _ _ _ _ _ _ _ (s₁.setTop (mkF m 18 #[.val (.long q1), .second, .val (.long q2), .second, .val (.long q3), .second, .val (.long q4), .second, .val (.long vp), .second, .val (.long vl), .second, .unset, .unset, .unset, .unset, .unset, .unset, .unset, .unset, .unset, .unset] [(.long (q3 >>> ((1 : Int32) &&& 0x3f).toInt64))]))
  refine OwnR.of (fun _ hr => XS.lstore X0.here hx rfl (hb hby at_18) rfl (l' := #[.val (.long q1), .second, .val (.long q2), .second, .val (.long q3), .second, .val (.long q4), .second, .val (.long vp), .second, .val (.long vl), .second, .val (.long (q3 >>> ((1 : Int32) &&& 0x3f).toInt64)), .second, .unset, .unset, .unset, .unset, .unset, .unset, .unset, .unset]) rfl hr) ?_
  show OwnR _ _ _ _ _ _ _ (s₁.setTop (mkF m 20 #[.val (.long q1), .second, .val (.long q2), .second, .val (.long q3), .second, .val (.long q4), .second, .val (.long vp), .second, .val (.long vl), .second, .val (.long (q3 >>> ((1 : Int32) &&& 0x3f).toInt64)), .second, .unset, .unset, .unset, .unset, .unset, .unset, .unset, .unset] []))
  obtain ⟨vo, hvo⟩ : ∃ z : Int64, z = (q3 >>> ((1 : Int32) &&& 0x3f).toInt64) := ⟨_, rfl⟩
  rw [← hvo]
  show OwnR _ _ _ _ _ _ _ (s₁.setTop (mkF m 20 #[.val (.long q1), .second, .val (.long q2), .second, .val (.long q3), .second, .val (.long q4), .second, .val (.long vp), .second, .val (.long vl), .second, .val (.long vo), .second, .unset, .unset, .unset, .unset, .unset, .unset, .unset, .unset] []))
  have bvo : -4611686018427387904 ≤ vo.toInt ∧ vo.toInt < 4611686018427387904 := by
    have q := c_lshr q3 1 1 (by decide)
    rw [← hvo] at q
    have e : ((2 ^ 1 : Nat) : Int) = 2 := by decide
    rw [e] at q
    have b := Int64.le_toInt q3; have b' := Int64.toInt_lt q3
    omega
  refine OwnR.of (fun _ hr => XS.lload X0.here hx rfl (hb hby at_20) rfl hr) ?_
  show OwnR _ _ _ _ _ _ _ (s₁.setTop (mkF m 22 #[.val (.long q1), .second, .val (.long q2), .second, .val (.long q3), .second, .val (.long q4), .second, .val (.long vp), .second, .val (.long vl), .second, .val (.long vo), .second, .unset, .unset, .unset, .unset, .unset, .unset, .unset, .unset] [(.long q4)]))
  refine OwnR.of (fun _ hr => XS.iconst X0.here hx rfl (hb hby at_22) hr) ?_
  show OwnR _ _ _ _ _ _ _ (s₁.setTop (mkF m 23 #[.val (.long q1), .second, .val (.long q2), .second, .val (.long q3), .second, .val (.long q4), .second, .val (.long vp), .second, .val (.long vl), .second, .val (.long vo), .second, .unset, .unset, .unset, .unset, .unset, .unset, .unset, .unset] [(.int (1 : Int32)), (.long q4)]))
  refine OwnR.of (fun _ hr => XS.lshr X0.here hx rfl (hb hby at_23) rfl hr) ?_
  show OwnR _ _ _ _ _ _ _ (s₁.setTop (mkF m 24 #[.val (.long q1), .second, .val (.long q2), .second, .val (.long q3), .second, .val (.long q4), .second, .val (.long vp), .second, .val (.long vl), .second, .val (.long vo), .second, .unset, .unset, .unset, .unset, .unset, .unset, .unset, .unset] [(.long (q4 >>> ((1 : Int32) &&& 0x3f).toInt64))]))
  refine OwnR.of (fun _ hr => XS.lstore X0.here hx rfl (hb hby at_24) rfl (l' := #[.val (.long q1), .second, .val (.long q2), .second, .val (.long q3), .second, .val (.long q4), .second, .val (.long vp), .second, .val (.long vl), .second, .val (.long vo), .second, .val (.long (q4 >>> ((1 : Int32) &&& 0x3f).toInt64)), .second, .unset, .unset, .unset, .unset, .unset, .unset]) rfl hr) ?_
  show OwnR _ _ _ _ _ _ _ (s₁.setTop (mkF m 26 #[.val (.long q1), .second, .val (.long q2), .second, .val (.long q3), .second, .val (.long q4), .second, .val (.long vp), .second, .val (.long vl), .second, .val (.long vo), .second, .val (.long (q4 >>> ((1 : Int32) &&& 0x3f).toInt64)), .second, .unset, .unset, .unset, .unset, .unset, .unset] []))
  obtain ⟨vq, hvq⟩ : ∃ z : Int64, z = (q4 >>> ((1 : Int32) &&& 0x3f).toInt64) := ⟨_, rfl⟩
  rw [← hvq]
  show OwnR _ _ _ _ _ _ _ (s₁.setTop (mkF m 26 #[.val (.long q1), .second, .val (.long q2), .second, .val (.long q3), .second, .val (.long q4), .second, .val (.long vp), .second, .val (.long vl), .second, .val (.long vo), .second, .val (.long vq), .second, .unset, .unset, .unset, .unset, .unset, .unset] []))
  have bvq : -4611686018427387904 ≤ vq.toInt ∧ vq.toInt < 4611686018427387904 := by
    have q := c_lshr q4 1 1 (by decide)
    rw [← hvq] at q
    have e : ((2 ^ 1 : Nat) : Int) = 2 := by decide
    rw [e] at q
    have b := Int64.le_toInt q4; have b' := Int64.toInt_lt q4
    omega
  obtain ⟨T5, h5, X5, e5, E5, A5, D5, -, st5⟩ := newO X0 hx hZ hown (hw _ (List.mem_of_getElem? (i := 1) rfl)) (hw _ (List.mem_of_getElem? (i := 2) rfl)) (hw _ (List.mem_of_getElem? (i := 3) rfl)) e0 (g := (mkF m 26 #[.val (.long q1), .second, .val (.long q2), .second, .val (.long q3), .second, .val (.long q4), .second, .val (.long vp), .second, .val (.long vl), .second, .val (.long vo), .second, .val (.long vq), .second, .unset, .unset, .unset, .unset, .unset, .unset] [])) rfl (hb hby at_26) (by decide) (by decide)
  obtain ⟨b5, g5⟩ : ∃ z, z = h0.size := ⟨_, rfl⟩
  rw [← g5] at A5 D5 st5
  refine OwnR.of (st5) ?_
  have gn_b5 : n0 ≤ b5 := Nat.le_trans (Nat.le_trans Z0 (Keep.refl h0 []).1) (Nat.le_of_eq g5.symm)
  have sz_b5 : h0.size ≤ b5 := Nat.le_trans (Keep.refl h0 []).1 (Nat.le_of_eq g5.symm)
  have K5 : Keep h0 h5 [] := Keep.ext (Keep.refl h0 []) E5
  have F_position_b5 : Fld Z h5 b5 "com/example/bittern/bittern/volume/BlockDevice$Range" "position" "J" (.long (0 : Int64)) := D5 (Or.inr (hw _ (List.mem_of_getElem? (i := 16) rfl))) (ty := .long) (by decide)
  have F_length_b5 : Fld Z h5 b5 "com/example/bittern/bittern/volume/BlockDevice$Range" "length" "J" (.long (0 : Int64)) := D5 (Or.inr (hw _ (List.mem_of_getElem? (i := 18) rfl))) (ty := .long) (by decide)
  show OwnR _ _ _ _ _ _ _ (T5.setTop (mkF m 29 #[.val (.long q1), .second, .val (.long q2), .second, .val (.long q3), .second, .val (.long q4), .second, .val (.long vp), .second, .val (.long vl), .second, .val (.long vo), .second, .val (.long vq), .second, .unset, .unset, .unset, .unset, .unset, .unset] [(.ref b5)]))
  refine OwnR.of (fun _ hr => XS.dup X5.here hx rfl (hb hby at_29) rfl rfl hr) ?_
  show OwnR _ _ _ _ _ _ _ (T5.setTop (mkF m 30 #[.val (.long q1), .second, .val (.long q2), .second, .val (.long q3), .second, .val (.long q4), .second, .val (.long vp), .second, .val (.long vl), .second, .val (.long vo), .second, .val (.long vq), .second, .unset, .unset, .unset, .unset, .unset, .unset] [(.ref b5), (.ref b5)]))
  refine OwnR.of (fun _ hr => XS.lload X5.here hx rfl (hb hby at_30) rfl hr) ?_
  show OwnR _ _ _ _ _ _ _ (T5.setTop (mkF m 32 #[.val (.long q1), .second, .val (.long q2), .second, .val (.long q3), .second, .val (.long q4), .second, .val (.long vp), .second, .val (.long vl), .second, .val (.long vo), .second, .val (.long vq), .second, .unset, .unset, .unset, .unset, .unset, .unset] [(.long vp), (.ref b5), (.ref b5)]))
  refine OwnR.of (fun _ hr => XS.lload X5.here hx rfl (hb hby at_32) rfl hr) ?_
  show OwnR _ _ _ _ _ _ _ (T5.setTop (mkF m 34 #[.val (.long q1), .second, .val (.long q2), .second, .val (.long q3), .second, .val (.long q4), .second, .val (.long vp), .second, .val (.long vl), .second, .val (.long vo), .second, .val (.long vq), .second, .unset, .unset, .unset, .unset, .unset, .unset] [(.long vl), (.long vp), (.ref b5), (.ref b5)]))
  obtain ⟨_, _, ⟨T6, L6, kc6, ns6⟩, -, X6, ⟨Lc6, hQ6, l6, y6, z6⟩, st6⟩ := X5.specialBack hx (y := (⟨"com/example/bittern/bittern/volume/BlockDevice$Range", "<init>", "(JJ)V"⟩ : MethodName)) rfl hown (mvT hZ (hw _ (List.mem_of_getElem? (i := 4) rfl))) (mvT hZ (hw _ (List.mem_of_getElem? (i := 5) rfl))) (mvT hZ (hw _ (List.mem_of_getElem? (i := 6) rfl))) (by decide) (backOf (W := 1) (rm1 l Z a0 hw [] b5 vp vl h5 n0 (Nat.le_trans Z0 K5.1) A5 F_position_b5 F_length_b5 gn_b5 (fun q => by rw [Int64.lt_iff_toInt_lt] at q; have e : (0 : Int64).toInt = 0 := (by decide); omega) (fun q => by rw [Int64.lt_iff_toInt_lt] at q; have e : (0 : Int64).toInt = 0 := (by decide); omega)) hZ (hw _ (List.mem_of_getElem? (i := 6) rfl)) (hw _ (List.mem_of_getElem? (i := 3) rfl)) (by decide) (by decide)) (g := (mkF m 34 #[.val (.long q1), .second, .val (.long q2), .second, .val (.long q3), .second, .val (.long q4), .second, .val (.long vp), .second, .val (.long vl), .second, .val (.long vo), .second, .val (.long vq), .second, .unset, .unset, .unset, .unset, .unset, .unset] [(.long vl), (.long vp), (.ref b5), (.ref b5)])) rfl (by rw [hml]; rfl) (Steps.refl _) (a := b5) (argsL := [(.long vp), (.long vl)]) (rest := [(.ref b5)]) (lenOf pd__JJ_V rfl) rfl (by show 2 * 0 + _ ≤ _; exact Nat.le_of_eq rfl) (hb hby at_34) (fun _ _ => ⟨rfl, e5, (by decide : 1 + 0 ≤ _), (by decide : 2 + 0 ≤ _)⟩)
  dsimp only [Pt.U, Pt.locs, Pt.cells, Pt.slots] at X6 l6 y6 z6 st6 hQ6
  subst l6 y6 z6
  obtain ⟨rfl, N6q, P6_0, P6_1, P6_2, P6_3⟩ := hQ6
  have K6 : Keep h0 T6.heap [] := Keep.trans K5 P6_0 (allS (Or.inr sz_b5) all0)
  have N6 := Fr.app N0 N6q
  refine OwnR.of (fun _ hr => st6.trans hr) ?_
  show OwnR _ _ _ _ _ _ _ (T6.setTop (mkF m 37 #[.val (.long q1), .second, .val (.long q2), .second, .val (.long q3), .second, .val (.long q4), .second, .val (.long vp), .second, .val (.long vl), .second, .val (.long vo), .second, .val (.long vq), .second, .unset, .unset, .unset, .unset, .unset, .unset] [(.ref b5)]))
  refine OwnR.of (fun _ hr => XS.astore X6.here hx rfl (hb hby at_37) rfl rfl (l' := #[.val (.long q1), .second, .val (.long q2), .second, .val (.long q3), .second, .val (.long q4), .second, .val (.long vp), .second, .val (.long vl), .second, .val (.long vo), .second, .val (.long vq), .second, .val (.ref b5), .unset, .unset, .unset, .unset, .unset]) rfl hr) ?_
  show OwnR _ _ _ _ _ _ _ (T6.setTop (mkF m 39 #[.val (.long q1), .second, .val (.long q2), .second, .val (.long q3), .second, .val (.long q4), .second, .val (.long vp), .second, .val (.long vl), .second, .val (.long vo), .second, .val (.long vq), .second, .val (.ref b5), .unset, .unset, .unset, .unset, .unset] []))
  refine OwnR.of (fun _ hr => XS.lload X6.here hx rfl (hb hby at_39) rfl hr) ?_
  show OwnR _ _ _ _ _ _ _ (T6.setTop (mkF m 41 #[.val (.long q1), .second, .val (.long q2), .second, .val (.long q3), .second, .val (.long q4), .second, .val (.long vp), .second, .val (.long vl), .second, .val (.long vo), .second, .val (.long vq), .second, .val (.ref b5), .unset, .unset, .unset, .unset, .unset] [(.long vp)]))
  refine OwnR.of (fun _ hr => XS.lload X6.here hx rfl (hb hby at_41) rfl hr) ?_
  show OwnR _ _ _ _ _ _ _ (T6.setTop (mkF m 43 #[.val (.long q1), .second, .val (.long q2), .second, .val (.long q3), .second, .val (.long q4), .second, .val (.long vp), .second, .val (.long vl), .second, .val (.long vo), .second, .val (.long vq), .second, .val (.ref b5), .unset, .unset, .unset, .unset, .unset] [(.long vo), (.long vp)]))
  obtain ⟨_, _, ⟨T7, L7, kc7, ns7⟩, -, X7, ⟨Lc7, hQ7, l7, y7, z7⟩, st7⟩ := Jvm.LawKit.callS X6 hx (y := (⟨"java/lang/Math", "max", "(JJ)J"⟩ : MethodName)) hown (mvT hZ (hw _ (List.mem_of_getElem? (i := 19) rfl))) (mvT hZ (hw _ (List.mem_of_getElem? (i := 20) rfl))) (mvT hZ (hw _ (List.mem_of_getElem? (i := 21) rfl))) (mvT hZ (hw _ (List.mem_of_getElem? (i := 22) rfl))) (by decide) (backOf (W := 0) (rm4 l Z a0 hw [] vp vo (T6.heap) n0 (Nat.le_trans Z0 K6.1) ) hZ (hw _ (List.mem_of_getElem? (i := 22) rfl)) (hw _ (List.mem_of_getElem? (i := 21) rfl)) (by decide) (by decide)) (g := (mkF m 43 #[.val (.long q1), .second, .val (.long q2), .second, .val (.long q3), .second, .val (.long q4), .second, .val (.long vp), .second, .val (.long vl), .second, .val (.long vo), .second, .val (.long vq), .second, .val (.ref b5), .unset, .unset, .unset, .unset, .unset] [(.long vo), (.long vp)])) rfl (by rw [hml]; rfl) (argsL := [(.long vp), (.long vo)]) (rest := []) (lenOf pd__JJ_J rfl) rfl (by show 2 * 0 + _ ≤ _; exact Nat.le_of_eq rfl) (hb hby at_43) (fun _ _ => ⟨rfl, rfl, (by decide : 1 + 0 ≤ _), (by decide : 2 + 0 ≤ _)⟩)
  dsimp only [Pt.U, Pt.locs, Pt.cells, Pt.slots] at X7 l7 y7 z7 st7 hQ7
  subst l7 y7 z7
  obtain ⟨rfl, N7q, e7⟩ := hQ7
  have N7 := Fr.app N6 N7q
  refine OwnR.of (st7) ?_
  show OwnR _ _ _ _ _ _ _ (T7.setTop (mkF m 46 #[.val (.long q1), .second, .val (.long q2), .second, .val (.long q3), .second, .val (.long q4), .second, .val (.long vp), .second, .val (.long vl), .second, .val (.long vo), .second, .val (.long vq), .second, .val (.ref b5), .unset, .unset, .unset, .unset, .unset] [(.long (own_max vp vo))]))
  refine OwnR.of (fun _ hr => XS.lstore X7.here hx rfl (hb hby at_46) rfl (l' := #[.val (.long q1), .second, .val (.long q2), .second, .val (.long q3), .second, .val (.long q4), .second, .val (.long vp), .second, .val (.long vl), .second, .val (.long vo), .second, .val (.long vq), .second, .val (.ref b5), .val (.long (own_max vp vo)), .second, .unset, .unset, .unset]) rfl hr) ?_
  show OwnR _ _ _ _ _ _ _ (T7.setTop (mkF m 48 #[.val (.long q1), .second, .val (.long q2), .second, .val (.long q3), .second, .val (.long q4), .second, .val (.long vp), .second, .val (.long vl), .second, .val (.long vo), .second, .val (.long vq), .second, .val (.ref b5), .val (.long (own_max vp vo)), .second, .unset, .unset, .unset] []))
  refine OwnR.of (fun _ hr => XS.lload X7.here hx rfl (hb hby at_48) rfl hr) ?_
  show OwnR _ _ _ _ _ _ _ (T7.setTop (mkF m 50 #[.val (.long q1), .second, .val (.long q2), .second, .val (.long q3), .second, .val (.long q4), .second, .val (.long vp), .second, .val (.long vl), .second, .val (.long vo), .second, .val (.long vq), .second, .val (.ref b5), .val (.long (own_max vp vo)), .second, .unset, .unset, .unset] [(.long vp)]))
  refine OwnR.of (fun _ hr => XS.lload X7.here hx rfl (hb hby at_50) rfl hr) ?_
  show OwnR _ _ _ _ _ _ _ (T7.setTop (mkF m 52 #[.val (.long q1), .second, .val (.long q2), .second, .val (.long q3), .second, .val (.long q4), .second, .val (.long vp), .second, .val (.long vl), .second, .val (.long vo), .second, .val (.long vq), .second, .val (.ref b5), .val (.long (own_max vp vo)), .second, .unset, .unset, .unset] [(.long vl), (.long vp)]))
  refine OwnR.of (fun _ hr => XS.ladd X7.here hx rfl (hb hby at_52) rfl hr) ?_
  show OwnR _ _ _ _ _ _ _ (T7.setTop (mkF m 53 #[.val (.long q1), .second, .val (.long q2), .second, .val (.long q3), .second, .val (.long q4), .second, .val (.long vp), .second, .val (.long vl), .second, .val (.long vo), .second, .val (.long vq), .second, .val (.ref b5), .val (.long (own_max vp vo)), .second, .unset, .unset, .unset] [(.long (vp + vl))]))
  refine OwnR.of (fun _ hr => XS.lload X7.here hx rfl (hb hby at_53) rfl hr) ?_
  show OwnR _ _ _ _ _ _ _ (T7.setTop (mkF m 55 #[.val (.long q1), .second, .val (.long q2), .second, .val (.long q3), .second, .val (.long q4), .second, .val (.long vp), .second, .val (.long vl), .second, .val (.long vo), .second, .val (.long vq), .second, .val (.ref b5), .val (.long (own_max vp vo)), .second, .unset, .unset, .unset] [(.long vo), (.long (vp + vl))]))
  refine OwnR.of (fun _ hr => XS.lload X7.here hx rfl (hb hby at_55) rfl hr) ?_
  show OwnR _ _ _ _ _ _ _ (T7.setTop (mkF m 57 #[.val (.long q1), .second, .val (.long q2), .second, .val (.long q3), .second, .val (.long q4), .second, .val (.long vp), .second, .val (.long vl), .second, .val (.long vo), .second, .val (.long vq), .second, .val (.ref b5), .val (.long (own_max vp vo)), .second, .unset, .unset, .unset] [(.long vq), (.long vo), (.long (vp + vl))]))
  refine OwnR.of (fun _ hr => XS.ladd X7.here hx rfl (hb hby at_57) rfl hr) ?_
  show OwnR _ _ _ _ _ _ _ (T7.setTop (mkF m 58 #[.val (.long q1), .second, .val (.long q2), .second, .val (.long q3), .second, .val (.long q4), .second, .val (.long vp), .second, .val (.long vl), .second, .val (.long vo), .second, .val (.long vq), .second, .val (.ref b5), .val (.long (own_max vp vo)), .second, .unset, .unset, .unset] [(.long (vo + vq)), (.long (vp + vl))]))
  obtain ⟨_, _, ⟨T8, L8, kc8, ns8⟩, -, X8, ⟨Lc8, hQ8, l8, y8, z8⟩, st8⟩ := Jvm.LawKit.callS X7 hx (y := (⟨"java/lang/Math", "min", "(JJ)J"⟩ : MethodName)) hown (mvT hZ (hw _ (List.mem_of_getElem? (i := 23) rfl))) (mvT hZ (hw _ (List.mem_of_getElem? (i := 24) rfl))) (mvT hZ (hw _ (List.mem_of_getElem? (i := 21) rfl))) (mvT hZ (hw _ (List.mem_of_getElem? (i := 25) rfl))) (by decide) (backOf (W := 0) (rm5 l Z a0 hw [] (vp + vl) (vo + vq) (T6.heap) n0 (Nat.le_trans Z0 K6.1) ) hZ (hw _ (List.mem_of_getElem? (i := 25) rfl)) (hw _ (List.mem_of_getElem? (i := 21) rfl)) (by decide) (by decide)) (g := (mkF m 58 #[.val (.long q1), .second, .val (.long q2), .second, .val (.long q3), .second, .val (.long q4), .second, .val (.long vp), .second, .val (.long vl), .second, .val (.long vo), .second, .val (.long vq), .second, .val (.ref b5), .val (.long (own_max vp vo)), .second, .unset, .unset, .unset] [(.long (vo + vq)), (.long (vp + vl))])) rfl (by rw [hml]; rfl) (argsL := [(.long (vp + vl)), (.long (vo + vq))]) (rest := []) (lenOf pd__JJ_J rfl) rfl (by show 2 * 0 + _ ≤ _; exact Nat.le_of_eq rfl) (hb hby at_58) (fun _ _ => ⟨rfl, e7, (by decide : 1 + 0 ≤ _), (by decide : 2 + 0 ≤ _)⟩)
  dsimp only [Pt.U, Pt.locs, Pt.cells, Pt.slots] at X8 l8 y8 z8 st8 hQ8
  subst l8 y8 z8
  obtain ⟨rfl, N8q, e8⟩ := hQ8
  have N8 := Fr.app N7 N8q
  refine OwnR.of (st8) ?_
  show OwnR _ _ _ _ _ _ _ (T8.setTop (mkF m 61 #[.val (.long q1), .second, .val (.long q2), .second, .val (.long q3), .second, .val (.long q4), .second, .val (.long vp), .second, .val (.long vl), .second, .val (.long vo), .second, .val (.long vq), .second, .val (.ref b5), .val (.long (own_max vp vo)), .second, .unset, .unset, .unset] [(.long (own_min (vp + vl) (vo + vq)))]))
  refine OwnR.of (fun _ hr => XS.lstore X8.here hx rfl (hb hby at_61) rfl (l' := #[.val (.long q1), .second, .val (.long q2), .second, .val (.long q3), .second, .val (.long q4), .second, .val (.long vp), .second, .val (.long vl), .second, .val (.long vo), .second, .val (.long vq), .second, .val (.ref b5), .val (.long (own_max vp vo)), .second, .val (.long (own_min (vp + vl) (vo + vq))), .second, .unset]) rfl hr) ?_
  show OwnR _ _ _ _ _ _ _ (T8.setTop (mkF m 63 #[.val (.long q1), .second, .val (.long q2), .second, .val (.long q3), .second, .val (.long q4), .second, .val (.long vp), .second, .val (.long vl), .second, .val (.long vo), .second, .val (.long vq), .second, .val (.ref b5), .val (.long (own_max vp vo)), .second, .val (.long (own_min (vp + vl) (vo + vq))), .second, .unset] []))
  refine OwnR.of (fun _ hr => XS.lload X8.here hx rfl (hb hby at_63) rfl hr) ?_
  show OwnR _ _ _ _ _ _ _ (T8.setTop (mkF m 65 #[.val (.long q1), .second, .val (.long q2), .second, .val (.long q3), .second, .val (.long q4), .second, .val (.long vp), .second, .val (.long vl), .second, .val (.long vo), .second, .val (.long vq), .second, .val (.ref b5), .val (.long (own_max vp vo)), .second, .val (.long (own_min (vp + vl) (vo + vq))), .second, .unset] [(.long (own_max vp vo))]))
  refine OwnR.of (fun _ hr => XS.lload X8.here hx rfl (hb hby at_65) rfl hr) ?_
  show OwnR _ _ _ _ _ _ _ (T8.setTop (mkF m 67 #[.val (.long q1), .second, .val (.long q2), .second, .val (.long q3), .second, .val (.long q4), .second, .val (.long vp), .second, .val (.long vl), .second, .val (.long vo), .second, .val (.long vq), .second, .val (.ref b5), .val (.long (own_max vp vo)), .second, .val (.long (own_min (vp + vl) (vo + vq))), .second, .unset] [(.long (own_min (vp + vl) (vo + vq))), (.long (own_max vp vo))]))
  refine OwnR.of (fun _ hr => XS.lcmp X8.here hx rfl (hb hby at_67) rfl hr) ?_
  show OwnR _ _ _ _ _ _ _ (T8.setTop (mkF m 68 #[.val (.long q1), .second, .val (.long q2), .second, .val (.long q3), .second, .val (.long q4), .second, .val (.long vp), .second, .val (.long vl), .second, .val (.long vo), .second, .val (.long vq), .second, .val (.ref b5), .val (.long (own_max vp vo)), .second, .val (.long (own_min (vp + vl) (vo + vq))), .second, .unset] [(.int (lcmpW (own_max vp vo) (own_min (vp + vl) (vo + vq))))]))
  obtain ⟨v9, hv9⟩ : ∃ z : Int32, z = (if (own_max vp vo) < (own_min (vp + vl) (vo + vq)) then (1 : Int32) else (0 : Int32)) := ⟨_, rfl⟩
  suffices J76_10 : OwnR p e below s (Q0 Z  h0 n0) 16 128 (T8.setTop (mkF m 76 #[.val (.long q1), .second, .val (.long q2), .second, .val (.long q3), .second, .val (.long q4), .second, .val (.long vp), .second, .val (.long vl), .second, .val (.long vo), .second, .val (.long vq), .second, .val (.ref b5), .val (.long (own_max vp vo)), .second, .val (.long (own_min (vp + vl) (vo + vq))), .second, .unset] [(.int v9)])) by
    by_cases hc68_11 : (own_max vp vo) < (own_min (vp + vl) (vo + vq))
    · skip
      refine OwnR.of (fun _ hr => XS.ifNo X8.here hx rfl (hb hby at_68) rfl ((if0 _ _).trans (tlt ((own_lclt _ _).mpr hc68_11)).2.1) hr) ?_
      show OwnR _ _ _ _ _ _ _ (T8.setTop (mkF m 71 #[.val (.long q1), .second, .val (.long q2), .second, .val (.long q3), .second, .val (.long q4), .second, .val (.long vp), .second, .val (.long vl), .second, .val (.long vo), .second, .val (.long vq), .second, .val (.ref b5), .val (.long (own_max vp vo)), .second, .val (.long (own_min (vp + vl) (vo + vq))), .second, .unset] []))
      refine OwnR.of (fun _ hr => XS.iconst X8.here hx rfl (hb hby at_71) hr) ?_
      show OwnR _ _ _ _ _ _ _ (T8.setTop (mkF m 72 #[.val (.long q1), .second, .val (.long q2), .second, .val (.long q3), .second, .val (.long q4), .second, .val (.long vp), .second, .val (.long vl), .second, .val (.long vo), .second, .val (.long vq), .second, .val (.ref b5), .val (.long (own_max vp vo)), .second, .val (.long (own_min (vp + vl) (vo + vq))), .second, .unset] [(.int (1 : Int32))]))
      refine OwnR.of (fun _ hr => XS.goto X8.here hx rfl (pc0 := 72) (pc' := 76) rfl (hb hby at_72) (by decide) (by decide) hr) ?_
      show OwnR _ _ _ _ _ _ _ (T8.setTop (mkF m 76 #[.val (.long q1), .second, .val (.long q2), .second, .val (.long q3), .second, .val (.long q4), .second, .val (.long vp), .second, .val (.long vl), .second, .val (.long vo), .second, .val (.long vq), .second, .val (.ref b5), .val (.long (own_max vp vo)), .second, .val (.long (own_min (vp + vl) (vo + vq))), .second, .unset] [(.int (1 : Int32))]))
      simp only [if_pos hc68_11] at hv9
      subst hv9
      exact J76_10
    · skip
      refine OwnR.of (fun _ hr => XS.ifYes X8.here hx rfl (pc0 := 68) (pc' := 75) rfl (hb hby at_68) rfl ((if0 _ _).trans (flt ((not_congr (own_lclt _ _)).mpr hc68_11)).2.1) (by decide) (by decide) hr) ?_
      show OwnR _ _ _ _ _ _ _ (T8.setTop (mkF m 75 #[.val (.long q1), .second, .val (.long q2), .second, .val (.long q3), .second, .val (.long q4), .second, .val (.long vp), .second, .val (.long vl), .second, .val (.long vo), .second, .val (.long vq), .second, .val (.ref b5), .val (.long (own_max vp vo)), .second, .val (.long (own_min (vp + vl) (vo + vq))), .second, .unset] []))
      refine OwnR.of (fun _ hr => XS.iconst X8.here hx rfl (hb hby at_75) hr) ?_
      show OwnR _ _ _ _ _ _ _ (T8.setTop (mkF m 76 #[.val (.long q1), .second, .val (.long q2), .second, .val (.long q3), .second, .val (.long q4), .second, .val (.long vp), .second, .val (.long vl), .second, .val (.long vo), .second, .val (.long vq), .second, .val (.ref b5), .val (.long (own_max vp vo)), .second, .val (.long (own_min (vp + vl) (vo + vq))), .second, .unset] [(.int (0 : Int32))]))
      simp only [if_neg hc68_11] at hv9
      subst hv9
      exact J76_10
  refine OwnR.of (fun _ hr => XS.istore X8.here hx rfl (hb hby at_76) rfl (l' := #[.val (.long q1), .second, .val (.long q2), .second, .val (.long q3), .second, .val (.long q4), .second, .val (.long vp), .second, .val (.long vl), .second, .val (.long vo), .second, .val (.long vq), .second, .val (.ref b5), .val (.long (own_max vp vo)), .second, .val (.long (own_min (vp + vl) (vo + vq))), .second, .val (.int v9)]) rfl hr) ?_
  show OwnR _ _ _ _ _ _ _ (T8.setTop (mkF m 78 #[.val (.long q1), .second, .val (.long q2), .second, .val (.long q3), .second, .val (.long q4), .second, .val (.long vp), .second, .val (.long vl), .second, .val (.long vo), .second, .val (.long vq), .second, .val (.ref b5), .val (.long (own_max vp vo)), .second, .val (.long (own_min (vp + vl) (vo + vq))), .second, .val (.int v9)] []))
  refine OwnR.of (fun _ hr => XS.aload X8.here hx rfl (hb hby at_78) rfl rfl hr) ?_
  show OwnR _ _ _ _ _ _ _ (T8.setTop (mkF m 80 #[.val (.long q1), .second, .val (.long q2), .second, .val (.long q3), .second, .val (.long q4), .second, .val (.long vp), .second, .val (.long vl), .second, .val (.long vo), .second, .val (.long vq), .second, .val (.ref b5), .val (.long (own_max vp vo)), .second, .val (.long (own_min (vp + vl) (vo + vq))), .second, .val (.int v9)] [(.ref b5)]))
  refine OwnR.of (fun _ hr => XS.lload X8.here hx rfl (hb hby at_80) rfl hr) ?_
  show OwnR _ _ _ _ _ _ _ (T8.setTop (mkF m 82 #[.val (.long q1), .second, .val (.long q2), .second, .val (.long q3), .second, .val (.long q4), .second, .val (.long vp), .second, .val (.long vl), .second, .val (.long vo), .second, .val (.long vq), .second, .val (.ref b5), .val (.long (own_max vp vo)), .second, .val (.long (own_min (vp + vl) (vo + vq))), .second, .val (.int v9)] [(.long vo), (.ref b5)]))
  refine OwnR.of (fun _ hr => XS.lload X8.here hx rfl (hb hby at_82) rfl hr) ?_
  show OwnR _ _ _ _ _ _ _ (T8.setTop (mkF m 84 #[.val (.long q1), .second, .val (.long q2), .second, .val (.long q3), .second, .val (.long q4), .second, .val (.long vp), .second, .val (.long vl), .second, .val (.long vo), .second, .val (.long vq), .second, .val (.ref b5), .val (.long (own_max vp vo)), .second, .val (.long (own_min (vp + vl) (vo + vq))), .second, .val (.int v9)] [(.long vq), (.long vo), (.ref b5)]))
  obtain ⟨cq12, kq12, q12a, q12b, q12c⟩ := isOf hZ e8 P6_1
  obtain ⟨_, _, ⟨T12, L12, kc12, ns12⟩, -, X12, ⟨Lc12, hQ12, l12, y12, z12⟩, st12⟩ := X8.virtualBack hx (y := (⟨"com/example/bittern/bittern/volume/BlockDevice$Range", "overlaps", "(JJ)Z"⟩ : MethodName)) (z := (⟨"com/example/bittern/bittern/volume/BlockDevice$Range", "overlaps", "(JJ)Z"⟩ : MethodName)) hown (mvT hZ (hw _ (List.mem_of_getElem? (i := 26) rfl))) (mvT hZ (hw _ (List.mem_of_getElem? (i := 27) rfl))) (notFace_of_selects (args := #[]) (mvT hZ (hw _ (List.mem_of_getElem? (i := 29) rfl)))) (mvT hZ (hw _ (List.mem_of_getElem? (i := 29) rfl))) (mvT hZ (hw _ (List.mem_of_getElem? (i := 28) rfl))) (by decide) (backOf (W := 0) (rm6 l Z a0 hw [] b5 vo vq vp vl (T6.heap) n0 (Nat.le_trans Z0 K6.1) P6_1 P6_2 P6_3) hZ (hw _ (List.mem_of_getElem? (i := 30) rfl)) (hw _ (List.mem_of_getElem? (i := 3) rfl)) (by decide) (by decide)) q12a q12c (g := (mkF m 84 #[.val (.long q1), .second, .val (.long q2), .second, .val (.long q3), .second, .val (.long q4), .second, .val (.long vp), .second, .val (.long vl), .second, .val (.long vo), .second, .val (.long vq), .second, .val (.ref b5), .val (.long (own_max vp vo)), .second, .val (.long (own_min (vp + vl) (vo + vq))), .second, .val (.int v9)] [(.long vq), (.long vo), (.ref b5)])) rfl (by rw [hml]; rfl) (Steps.refl _) (argsL := [(.long vo), (.long vq)]) (rest := []) (lenOf pd__JJ_Z rfl) rfl (by show 2 * 0 + _ ≤ _; exact Nat.le_of_eq rfl) (hb hby at_84) (fun _ _ => ⟨rfl, e8, (by decide : 1 + 0 ≤ _), (by decide : 2 + 0 ≤ _)⟩)
  dsimp only [Pt.U, Pt.locs, Pt.cells, Pt.slots] at X12 l12 y12 z12 st12 hQ12
  subst l12 y12 z12
  obtain ⟨rfl, N12q, e12⟩ := hQ12
  have N12 := Fr.app N8 N12q
  refine OwnR.of (fun _ hr => st12.trans hr) ?_
  show OwnR _ _ _ _ _ _ _ (T12.setTop (mkF m 87 #[.val (.long q1), .second, .val (.long q2), .second, .val (.long q3), .second, .val (.long q4), .second, .val (.long vp), .second, .val (.long vl), .second, .val (.long vo), .second, .val (.long vq), .second, .val (.ref b5), .val (.long (own_max vp vo)), .second, .val (.long (own_min (vp + vl) (vo + vq))), .second, .val (.int v9)] [(.int (own_ov vp vl vo vq))]))
  refine OwnR.of (fun _ hr => XS.iload X12.here hx rfl (hb hby at_87) rfl hr) ?_
  show OwnR _ _ _ _ _ _ _ (T12.setTop (mkF m 89 #[.val (.long q1), .second, .val (.long q2), .second, .val (.long q3), .second, .val (.long q4), .second, .val (.long vp), .second, .val (.long vl), .second, .val (.long vo), .second, .val (.long vq), .second, .val (.ref b5), .val (.long (own_max vp vo)), .second, .val (.long (own_min (vp + vl) (vo + vq))), .second, .val (.int v9)] [(.int v9), (.int (own_ov vp vl vo vq))]))
  have hc89_13 : (own_ov vp vl vo vq) = v9 := by
    refine Classical.byContradiction fun hbad => ?_
    rw [hv9] at hbad
    exact hbad (own_law _ _ _ _ bvp bvl bvo bvq)
  refine OwnR.of (fun _ hr => XS.icmpNo X12.here hx rfl (hb hby at_89) rfl (teq hc89_13).2 hr) ?_
  show OwnR _ _ _ _ _ _ _ (T12.setTop (mkF m 92 #[.val (.long q1), .second, .val (.long q2), .second, .val (.long q3), .second, .val (.long q4), .second, .val (.long vp), .second, .val (.long vl), .second, .val (.long vo), .second, .val (.long vq), .second, .val (.ref b5), .val (.long (own_max vp vo)), .second, .val (.long (own_min (vp + vl) (vo + vq))), .second, .val (.int v9)] []))
  refine OwnR.of (fun _ hr => XS.iconst X12.here hx rfl (hb hby at_92) hr) ?_
  show OwnR _ _ _ _ _ _ _ (T12.setTop (mkF m 93 #[.val (.long q1), .second, .val (.long q2), .second, .val (.long q3), .second, .val (.long q4), .second, .val (.long vp), .second, .val (.long vl), .second, .val (.long vo), .second, .val (.long vq), .second, .val (.ref b5), .val (.long (own_max vp vo)), .second, .val (.long (own_min (vp + vl) (vo + vq))), .second, .val (.int v9)] [(.int (1 : Int32))]))
  refine OwnR.of (fun _ hr => XS.goto X12.here hx rfl (pc0 := 93) (pc' := 97) rfl (hb hby at_93) (by decide) (by decide) hr) ?_
  show OwnR _ _ _ _ _ _ _ (T12.setTop (mkF m 97 #[.val (.long q1), .second, .val (.long q2), .second, .val (.long q3), .second, .val (.long q4), .second, .val (.long vp), .second, .val (.long vl), .second, .val (.long vo), .second, .val (.long vq), .second, .val (.ref b5), .val (.long (own_max vp vo)), .second, .val (.long (own_min (vp + vl) (vo + vq))), .second, .val (.int v9)] [(.int (1 : Int32))]))
  refine own_leafN X12 hx hlk (t := .boolean) Bd.returns (by simp) (hb hby at_97) (z' := (1 : Int32)) rfl (by decide) (by decide) ?_
  show Q0 Z  h0 n0 _ T12.heap _
  rw [show T12.heap = T6.heap from e12]
  refine ⟨?_, N12⟩
  show (some (.int (1 : Int32)) : Option Value) = some (.int (1 : Int32))
  rfl
set_option maxRecDepth 65536 in
set_option maxHeartbeats 40000000 in
theorem comes_1 {Post : Tables → Env → Array Value → State → Outcome → State → Prop} (hpost : ∀ tb e args s v u, (limb_1_1.after args s (.returned v) u = true ∧ limb_1_2.after args s (.returned v) u = true ∧ True) → FrameEnd s (.returned v) u (Jvm.fieldLocs frame_1_writes args s ++ Jvm.arrayLocs frame_1_arrays args s ++ Jvm.staticLocs frame_1_statics s) 16 128 → Post tb e args s (.returned v) u) :
    ArmFor flags0 classFile x code maxLocals ret World_1 tables_1 room_1 Calls_1 rest_1 Pre_1 Post := by
  intro l hfl _ _ p e ha hc hk s m args below hf hA hF happ hP
  obtain ⟨hcalls, hrest, hpre⟩ := hP
  obtain ⟨-, -, -, hnamed, -, -, -, hat⟩ := (Spec.applies_iff hf).mp happ
  obtain ⟨hg, hn⟩ := and_e (Cond.before_iff.mp (show (Jvm.Cond.and given_1 narrow_1).before args s = true from hpre))
  obtain ⟨ga1, gb1⟩ := and_e hg
  obtain ⟨ga2, gb2⟩ := and_e gb1
  obtain ⟨ga3, gb3⟩ := and_e gb2
  obtain ⟨ga4, gb4⟩ := and_e gb3
  obtain ⟨w0, w1, w2, w3, rfl⟩ : ∃ w0 w1 w2 w3 : Value, args = #[w0, w1, w2, w3] := by
    have hs : args.size = 4 := by simpa [Cond.value, given_1] using ga1
    obtain ⟨L⟩ := args
    match L, hs with
    | [w0, w1, w2, w3], _ => exact ⟨w0, w1, w2, w3, rfl⟩
  have hw := fun d (hd : d ∈ tables_1) => atoms_spec (ws := Jvm.Cond.code x code maxLocals ret :: tables_1) hat d (List.mem_cons_of_mem _ hd)
  have hfit : Fit s := fun {y c} hc i hi => by
    obtain ⟨ha, rfl⟩ := Array.getElem?_eq_some_iff.mp hc
    have q := List.all_eq_true.mp ((Array.all_eq_true_iff_forall_mem.mp hF) _ (Array.getElem_mem ha)) i (List.mem_range.mpr hi)
    simpa [Array.getElem?_eq_getElem hi] using q
  obtain ⟨i0, ei0⟩ := isL_v ga2
  obtain rfl : w0 = (.long i0) := Option.some.inj ei0
  obtain ⟨i1, ei1⟩ := isL_v ga3
  obtain rfl : w1 = (.long i1) := Option.some.inj ei1
  obtain ⟨i2, ei2⟩ := isL_v ga4
  obtain rfl : w2 = (.long i2) := Option.some.inj ei2
  obtain ⟨i3, ei3⟩ := isL_v gb4
  obtain rfl : w3 = (.long i3) := Option.some.inj ei3
  obtain ⟨n, o, h1, h2, h3, _, L, rfl, ⟨rfl, N⟩, hq⟩ := rm0 l s _ hw tables_1 i0 i1 i2 i3 s.heap s.heap.size (Nat.le_refl _) p e ha hc hk s m _ below hf ((Spec.applies_iff_loose hf).mp happ).1 ⟨rfl, State.Warmed39.refl s, rfl⟩ trivial
  refine ⟨n, _, h1, h2, h3, hpost _ _ _ _ _ _ ⟨Cond.after_iff.mpr rfl, Cond.after_iff.mpr (eq_i res_at (Term.int_eval (1)) rfl), trivial⟩ ⟨hq.1, hq.2.1, (hq.2.2.sift fun y hy => Or.inr (N y hy)).mono (by decide) (by decide)⟩⟩
theorem main_1_1 : Claimed_1_1 := comes_1 fun _ _ _ _ _ _ h hF => ⟨h.1, hF⟩
theorem main_1_2 : Claimed_1_2 := comes_1 fun _ _ _ _ _ _ h hF => ⟨h.2.1, hF⟩
end Jvm.Pilot.@@N@@
namespace Jvm.Pilot.@@N@@
open Jvm Jvm.ClassFile Sem Op Lib Jvm.Free Jvm.Stand Jvm.Pilot.@@N@@.Jvm.D
/-! MADE BY PROGRAM (witnessworld.py) out of the Statement's table words and the real class files: 11 classes; the members and pool entries that the words name. The judged class is class 1, her method 1. -/
namespace start1
open Jvm.ClassFile
def u (s : String) : CpInfo := .utf8 (stringToUtf16 s)
/-- a pool by its gaps: so many unusable entries, then the entry; so many at the end -/
def gap : Nat → List CpInfo → List CpInfo
  | 0, r => r
  | n + 1, r => .unusable :: gap n r
def poolList (es : List (Nat × CpInfo)) (last : Nat) : List CpInfo := es.foldr (fun e r => gap e.1 (e.2 :: r)) (gap last [])
def pool (es : List (Nat × CpInfo)) (last : Nat) : Array CpInfo := ⟨poolList es last⟩
def fileOf (pool : Array CpInfo) (this : Nat) (attrs : Array Attribute := #[]) (ms : Array MethodInfo := #[]) (fl : Nat := 33) (sup : Nat := 0) (ifs : Array Nat := #[]) (fds : Array FieldInfo := #[]) : ClassFile where
  minorVersion := 0
  majorVersion := 65
  constantPool := pool
  accessFlags := fl
  thisClass := this
  superClass := sup
  interfaces := ifs
  fields := fds
  methods := ms
  attributes := attrs
def plain (name : String) (sup : Option ClassId) : Class where
  name := name
  kind := .ordinary
  loader := none
  accessFlags := 33
  super := sup
  interfaces := #[]
  cf := none
  fields := #[]
  methods := #[]
  instanceTypes := #[]
  staticTypes := #[]
  resolved := #[]
  callSites := []
  init := .initialized
  statics := none
  mirror := none

def pool0 : Array CpInfo := pool [(5, u "<init>"), (0, u "()V"), (1, .class_ 10), (1, u "java/lang/Object")] 113

def k0c0 : Code := { maxStack := 0, maxLocals := 1, code := object_method_1_code, exceptionTable := #[], attributes := #[] }
def k0m0 : Method := { name := "<init>", desc := "()V", sig := { parameters := [], returnType := none }, accessFlags := 1, code := some k0c0 }
/-- java/lang/Object -/
def k0 : Class := { plain "java/lang/Object" none with
  accessFlags := 33
  interfaces := #[]
  cf := some (fileOf pool0 8 #[] #[{ accessFlags := 1, nameIndex := 5, descriptorIndex := 6, attributes := #[] }] 33 0 #[] #[])
  fields := #[]
  methods := #[k0m0]
  instanceTypes := #[]
  staticTypes := #[]
  resolved := Array.replicate 124 none
  statics := none }

def pool1 : Array CpInfo := pool [(2, .class_ 4), (1, u "java/lang/Object"), (0, u "<init>"), (0, u "()V"), (0, .long 4611686018427387903), (1, .class_ 10), (0, u "com/example/bittern/bittern/volume/BlockDevice$Range"), (0, .methodref 9 12), (0, .nameAndType 5 13), (0, u "(JJ)V"), (0, .methodref 15 16), (0, .class_ 17), (0, .nameAndType 18 19), (0, u "java/lang/Math"), (0, u "max"), (0, u "(JJ)J"), (0, .methodref 15 21), (0, .nameAndType 22 19), (0, u "min"), (0, .methodref 9 24), (0, .nameAndType 25 26), (0, u "overlaps"), (0, u "(JJ)Z"), (0, .class_ 28), (0, u "com/example/bittern/bittern/volume/RangeOverlapsPinLaw"), (2, u "law"), (0, u "(JJJJ)Z")] 7

def k1m0 : Method := { name := "<init>", desc := "()V", sig := { parameters := [], returnType := none }, accessFlags := 2, code := none }
def k1c1 : Code := { maxStack := 6, maxLocals := 22, code := code, exceptionTable := #[], attributes := #[] }
def k1m1 : Method := { name := "law", desc := "(JJJJ)Z", sig := { parameters := [.long, .long, .long, .long], returnType := some .boolean }, accessFlags := 9, code := some k1c1 }
/-- com/example/bittern/bittern/volume/RangeOverlapsPinLaw -/
def k1 : Class := { plain "com/example/bittern/bittern/volume/RangeOverlapsPinLaw" (some 0) with
  accessFlags := 49
  interfaces := #[]
  cf := some (fileOf pool1 27 #[] #[{ accessFlags := 2, nameIndex := 5, descriptorIndex := 6, attributes := #[] }, { accessFlags := 9, nameIndex := 31, descriptorIndex := 32, attributes := #[] }] 49 2 #[] #[])
  fields := #[]
  methods := #[k1m0, k1m1]
  instanceTypes := #[]
  staticTypes := #[]
  resolved := Array.replicate 40 none
  statics := none }

def pool2 : Array CpInfo := pool [(1, .methodref 2 3), (0, .class_ 4), (0, .nameAndType 5 6), (0, u "java/lang/Object"), (0, u "<init>"), (0, u "()V"), (0, .class_ 8), (0, u "java/lang/Record")] 13

def k2c0 : Code := { maxStack := 1, maxLocals := 1, code := jdk_30_method_1_code, exceptionTable := #[], attributes := #[] }
def k2m0 : Method := { name := "<init>", desc := "()V", sig := { parameters := [], returnType := none }, accessFlags := 4, code := some k2c0 }
/-- java/lang/Record -/
def k2 : Class := { plain "java/lang/Record" (some 0) with
  accessFlags := 1057
  interfaces := #[]
  cf := some (fileOf pool2 7 #[] #[{ accessFlags := 4, nameIndex := 5, descriptorIndex := 6, attributes := #[] }] 1057 2 #[] #[])
  fields := #[]
  methods := #[k2m0]
  instanceTypes := #[]
  staticTypes := #[]
  resolved := Array.replicate 22 none
  statics := none }

def pool3 : Array CpInfo := pool [(1, .methodref 2 3), (0, .class_ 4), (0, .nameAndType 5 6), (0, u "java/lang/Record"), (0, u "<init>"), (0, u "()V"), (9, .fieldref 17 18), (0, .class_ 19), (0, .nameAndType 20 21), (0, u "com/example/bittern/bittern/volume/BlockDevice$Range"), (0, u "position"), (0, u "J"), (0, .fieldref 17 23), (0, .nameAndType 24 21), (0, u "length"), (14, u "(JJ)V"), (2, u "NONE"), (0, u "Lcom/example/bittern/bittern/volume/BlockDevice$Range;"), (4, u "overlaps"), (0, u "(JJ)Z"), (8, .class_ 59), (0, u "com/example/bittern/bittern/volume/BlockDevice")] 28

def k3c0 : Code := { maxStack := 6, maxLocals := 5, code := prog_7_method_1_code, exceptionTable := #[], attributes := #[] }
def k3m0 : Method := { name := "<init>", desc := "(JJ)V", sig := { parameters := [.long, .long], returnType := none }, accessFlags := 1, code := some k3c0 }
def k3c1 : Code := { maxStack := 6, maxLocals := 5, code := prog_7_method_2_code, exceptionTable := #[], attributes := #[] }
def k3m1 : Method := { name := "overlaps", desc := "(JJ)Z", sig := { parameters := [.long, .long], returnType := some .boolean }, accessFlags := 1, code := some k3c1 }
/-- com/example/bittern/bittern/volume/BlockDevice$Range -/
def k3 : Class := { plain "com/example/bittern/bittern/volume/BlockDevice$Range" (some 2) with
  accessFlags := 49
  interfaces := #[]
  cf := some (fileOf pool3 17 #[.nestHost 58] #[{ accessFlags := 1, nameIndex := 5, descriptorIndex := 39, attributes := #[] }, { accessFlags := 1, nameIndex := 48, descriptorIndex := 49, attributes := #[] }] 49 2 #[] #[{ accessFlags := 18, nameIndex := 20, descriptorIndex := 21, attributes := #[] }, { accessFlags := 18, nameIndex := 24, descriptorIndex := 21, attributes := #[] }, { accessFlags := 25, nameIndex := 42, descriptorIndex := 43, attributes := #[] }])
  fields := #[{ name := "position", type := .long, accessFlags := 18, slot := 0, constantValue := 0 }, { name := "length", type := .long, accessFlags := 18, slot := 1, constantValue := 0 }, { name := "NONE", type := (.object "com/example/bittern/bittern/volume/BlockDevice$Range"), accessFlags := 25, slot := 0, constantValue := 0 }]
  methods := #[k3m0, k3m1]
  instanceTypes := #[.long, .long]
  staticTypes := #[(.object "com/example/bittern/bittern/volume/BlockDevice$Range")]
  resolved := Array.replicate 88 none
  statics := none }

def pool4 : Array CpInfo := pool [(1, .class_ 2), (0, u "java/lang/Math"), (1, .class_ 6), (1, u "java/lang/Object"), (0, u "<init>"), (0, u "()V"), (89, .class_ 100), (1, u "java/lang/Math$RandomNumberGeneratorHolder"), (20, u "(JJ)J"), (50, u "negativeZeroFloatBits"), (0, u "J"), (2, u "negativeZeroDoubleBits"), (21, u "max"), (2, u "min"), (43, u "$assertionsDisabled"), (0, u "Z"), (91, u "twoToTheDoubleScaleDown"), (0, u "D"), (4, u "twoToTheDoubleScaleUp"), (9, u "E"), (3, u "PI"), (2, u "TAU"), (2, u "DEGREES_TO_RADIANS"), (0, u "RADIANS_TO_DEGREES")] 94

def k4m0 : Method := { name := "<init>", desc := "()V", sig := { parameters := [], returnType := none }, accessFlags := 2, code := none }
def k4c1 : Code := { maxStack := 4, maxLocals := 4, code := jdk_29_method_66_code, exceptionTable := #[], attributes := #[] }
def k4m1 : Method := { name := "max", desc := "(JJ)J", sig := { parameters := [.long, .long], returnType := some .long }, accessFlags := 9, code := some k4c1 }
def k4c2 : Code := { maxStack := 4, maxLocals := 4, code := jdk_29_method_70_code, exceptionTable := #[], attributes := #[] }
def k4m2 : Method := { name := "min", desc := "(JJ)J", sig := { parameters := [.long, .long], returnType := some .long }, accessFlags := 9, code := some k4c2 }
/-- java/lang/Math -/
def k4 : Class := { plain "java/lang/Math" (some 0) with
  accessFlags := 49
  interfaces := #[]
  cf := some (fileOf pool4 1 #[.nestMembers #[98]] #[{ accessFlags := 2, nameIndex := 7, descriptorIndex := 8, attributes := #[] }, { accessFlags := 9, nameIndex := 198, descriptorIndex := 121, attributes := #[] }, { accessFlags := 9, nameIndex := 201, descriptorIndex := 121, attributes := #[] }] 49 4 #[] #[{ accessFlags := 25, nameIndex := 354, descriptorIndex := 339, attributes := #[] }, { accessFlags := 25, nameIndex := 358, descriptorIndex := 339, attributes := #[] }, { accessFlags := 25, nameIndex := 361, descriptorIndex := 339, attributes := #[] }, { accessFlags := 26, nameIndex := 364, descriptorIndex := 339, attributes := #[] }, { accessFlags := 26, nameIndex := 365, descriptorIndex := 339, attributes := #[] }, { accessFlags := 26, nameIndex := 172, descriptorIndex := 173, attributes := #[] }, { accessFlags := 26, nameIndex := 176, descriptorIndex := 173, attributes := #[] }, { accessFlags := 8, nameIndex := 344, descriptorIndex := 339, attributes := #[] }, { accessFlags := 8, nameIndex := 338, descriptorIndex := 339, attributes := #[] }, { accessFlags := 4120, nameIndex := 245, descriptorIndex := 246, attributes := #[] }])
  fields := #[{ name := "E", type := .double, accessFlags := 25, slot := 0, constantValue := 0 }, { name := "PI", type := .double, accessFlags := 25, slot := 1, constantValue := 0 }, { name := "TAU", type := .double, accessFlags := 25, slot := 2, constantValue := 0 }, { name := "DEGREES_TO_RADIANS", type := .double, accessFlags := 26, slot := 3, constantValue := 0 }, { name := "RADIANS_TO_DEGREES", type := .double, accessFlags := 26, slot := 4, constantValue := 0 }, { name := "negativeZeroFloatBits", type := .long, accessFlags := 26, slot := 5, constantValue := 0 }, { name := "negativeZeroDoubleBits", type := .long, accessFlags := 26, slot := 6, constantValue := 0 }, { name := "twoToTheDoubleScaleUp", type := .double, accessFlags := 8, slot := 7, constantValue := 0 }, { name := "twoToTheDoubleScaleDown", type := .double, accessFlags := 8, slot := 8, constantValue := 0 }, { name := "$assertionsDisabled", type := .boolean, accessFlags := 4120, slot := 9, constantValue := 0 }]
  methods := #[k4m0, k4m1, k4m2]
  instanceTypes := #[]
  staticTypes := #[.double, .double, .double, .double, .double, .long, .long, .double, .double, .boolean]
  resolved := Array.replicate 460 none
  statics := none }

def pool5 : Array CpInfo := pool [(1, u "java/lang/Cloneable"), (0, .class_ 1), (0, u "java/lang/Object"), (0, .class_ 3)] 3

/-- java/lang/Cloneable -/
def k5 : Class := { plain "java/lang/Cloneable" (some 0) with
  accessFlags := 1537
  interfaces := #[]
  cf := some (fileOf pool5 2 #[] #[] 1537 4 #[] #[])
  fields := #[]
  methods := #[]
  instanceTypes := #[]
  staticTypes := #[]
  resolved := Array.replicate 8 none
  statics := none }

def pool6 : Array CpInfo := pool [(1, u "java/io/Serializable"), (0, .class_ 1), (0, u "java/lang/Object"), (0, .class_ 3)] 3

/-- java/io/Serializable -/
def k6 : Class := { plain "java/io/Serializable" (some 0) with
  accessFlags := 1537
  interfaces := #[]
  cf := some (fileOf pool6 2 #[] #[] 1537 4 #[] #[])
  fields := #[]
  methods := #[]
  instanceTypes := #[]
  staticTypes := #[]
  resolved := Array.replicate 8 none
  statics := none }

/-- the primitive byte -/
def k7 : Class := { plain "byte" none with kind := .primitive 'B', accessFlags := 0x411 }
/-- [B -/
def k8 : Class := { plain "[B" (some 0) with kind := .array 7 .byte, interfaces := #[5, 6], accessFlags := 1041 }

/-- the primitive int -/
def k9 : Class := { plain "int" none with kind := .primitive 'I', accessFlags := 0x411 }
/-- [I -/
def k10 : Class := { plain "[I" (some 0) with kind := .array 9 .int, interfaces := #[5, 6], accessFlags := 1041 }

def heap : Heap := #[]
def classes : Array Class := #[k0, k1, k2, k3, k4, k5, k6, k7, k8, k9, k10]
def interned : List (Array UInt16 × Addr) := []
def slotsUsed : Nat := 0
def theMethod : MethodId := ⟨1, 1⟩
def args0 : Array Value := #[.long 5, .long 7, .long 9, .long 3]
def aboutOver (below : List Frame) : State where
  vm := { classes := classes, interned := interned.toArray }
  heap := heap
  slotsUsed := slotsUsed
  threads := #[{ frames := .invoking theMethod args0 :: below }]
def below0 : List Frame := [.native { method := ⟨0, 0⟩, args := #[] }]
def about1 : State := aboutOver below0
def p0 : Program := .bare "" "" ""
def e0 : Env := launch0.env 0 0 0
theorem w_frames : about1.frames = Frame.invoking theMethod args0 :: below0 := rfl
set_option maxRecDepth 65536 in
theorem w_args : argsFit about1.vm theMethod args0 = true := by decide +kernel
set_option maxRecDepth 65536 in
theorem w_heap : heapFits about1 = true := by decide +kernel
set_option maxRecDepth 65536 in
theorem w_runnable : about1.curStatus? = some .runnable := by decide +kernel
set_option maxRecDepth 65536 in
theorem w_alone : about1.alone = true := by decide +kernel
set_option maxRecDepth 65536 in
theorem w_named : about1.methodNamed? x = some theMethod := by decide +kernel
set_option maxRecDepth 65536 in
theorem w_hears : about1.hears theMethod below0 = true := by decide +kernel
set_option maxRecDepth 65536 in
theorem w_ripe : about1.ripe theMethod args0 below0 = true := by decide +kernel
theorem w_running : about1.status = .running := rfl
set_option maxRecDepth 65536 in
theorem w_room : about1.hasRoom e0.platform room_1 = true :=
  launch0.hasRoom_least _ room_1 (by decide +kernel) (by decide +kernel) (by decide +kernel) (by decide +kernel) (by decide +kernel) (by decide +kernel)
theorem allAtoms_all (ts : List Jvm.Cond) (a : Array Jvm.Value) (st : Jvm.State) : (allAtoms ts).before a st = ts.all (fun c => c.before a st) := by
  induction ts with
  | nil => rfl
  | cons c t ih =>
    show (Jvm.Cond.and c (allAtoms t)).before a st = _
    rw [Jvm.Cond.before_and, ih, List.all_cons]
def words1 : List Jvm.Cond := Jvm.Cond.code x code maxLocals ret :: tables_1
/-- a 'code' word, met by the world's own term for the bytes: nothing is compared byte by byte -/
theorem code_word {y : MethodName} {bytes : ByteArray} {mx : Nat} {rt : Option FieldType} {a : Array Value} {s : State} {m : MethodId} {meth : Method} {c : Code} (h1 : s.methodNamed? y = some m) (h2 : s.vm.method? m = some meth) (h3 : meth.code = some c) (h4 : c.code = bytes)
    (h5 : (c.maxLocals == mx && c.exceptionTable.isEmpty && decide (c.maxStack ≤ mostOperands) && decide (meth.sig.returnType = rt) && !meth.locks && decide (parseMethodDescriptor y.desc = some meth.sig)) = true) : (Jvm.Cond.code y bytes mx rt).before a s = true := by
  simp only [Bool.and_eq_true, beq_iff_eq, Bool.not_eq_true', decide_eq_true_eq] at h5
  obtain ⟨⟨⟨⟨⟨g1, g2⟩, g3⟩, g4⟩, g5⟩, g6⟩ := h5
  simp [Cond.before, Cond.holds, Cond.value, h1, h2, h3, h4, g1, g2, g3, g4, g5, g6]
def isCode : Jvm.Cond → Bool
  | .code _ _ _ _ => true
  | _ => false
theorem all_split {L : List Jvm.Cond} {P : Jvm.Cond → Bool} (h1 : L.all (fun c => isCode c || P c) = true) (h2 : ∀ c ∈ L.filter isCode, P c = true) : L.all P = true := by
  refine List.all_eq_true.mpr fun c hc => ?_
  have h := List.all_eq_true.mp h1 c hc
  rcases Bool.eq_false_or_eq_true (isCode c) with hi | hi
  · exact h2 c (List.mem_filter.mpr ⟨hc, hi⟩)
  · simpa [hi] using h
set_option maxRecDepth 65536 in
theorem w_c0 : (Jvm.Cond.code x code maxLocals ret).before args0 about1 = true := code_word (m := ⟨1, 1⟩) (meth := k1m1) (c := k1c1) (by decide +kernel) rfl rfl rfl (by decide +kernel)
set_option maxRecDepth 65536 in
theorem w_c1 : (Jvm.Cond.code ({ cls := "com/example/bittern/bittern/volume/BlockDevice$Range", name := "<init>", desc := "(JJ)V" } : Jvm.MethodName) prog_7_method_1_code (5 : Nat) (Option.none : Option Jvm.ClassFile.FieldType)).before args0 about1 = true := code_word (m := ⟨3, 0⟩) (meth := k3m0) (c := k3c0) (by decide +kernel) rfl rfl rfl (by decide +kernel)
set_option maxRecDepth 65536 in
theorem w_c2 : (Jvm.Cond.code ({ cls := "java/lang/Record", name := "<init>", desc := "()V" } : Jvm.MethodName) jdk_30_method_1_code (1 : Nat) (Option.none : Option Jvm.ClassFile.FieldType)).before args0 about1 = true := code_word (m := ⟨2, 0⟩) (meth := k2m0) (c := k2c0) (by decide +kernel) rfl rfl rfl (by decide +kernel)
set_option maxRecDepth 65536 in
theorem w_c3 : (Jvm.Cond.code ({ cls := "java/lang/Object", name := "<init>", desc := "()V" } : Jvm.MethodName) object_method_1_code (1 : Nat) (Option.none : Option Jvm.ClassFile.FieldType)).before args0 about1 = true := code_word (m := ⟨0, 0⟩) (meth := k0m0) (c := k0c0) (by decide +kernel) rfl rfl rfl (by decide +kernel)
set_option maxRecDepth 65536 in
theorem w_c4 : (Jvm.Cond.code ({ cls := "java/lang/Math", name := "max", desc := "(JJ)J" } : Jvm.MethodName) jdk_29_method_66_code (4 : Nat) (Option.some Jvm.ClassFile.FieldType.long)).before args0 about1 = true := code_word (m := ⟨4, 1⟩) (meth := k4m1) (c := k4c1) (by decide +kernel) rfl rfl rfl (by decide +kernel)
set_option maxRecDepth 65536 in
theorem w_c5 : (Jvm.Cond.code ({ cls := "java/lang/Math", name := "min", desc := "(JJ)J" } : Jvm.MethodName) jdk_29_method_70_code (4 : Nat) (Option.some Jvm.ClassFile.FieldType.long)).before args0 about1 = true := code_word (m := ⟨4, 2⟩) (meth := k4m2) (c := k4c2) (by decide +kernel) rfl rfl rfl (by decide +kernel)
set_option maxRecDepth 65536 in
theorem w_c6 : (Jvm.Cond.code ({ cls := "com/example/bittern/bittern/volume/BlockDevice$Range", name := "overlaps", desc := "(JJ)Z" } : Jvm.MethodName) prog_7_method_2_code (5 : Nat) (Option.some Jvm.ClassFile.FieldType.boolean)).before args0 about1 = true := code_word (m := ⟨3, 1⟩) (meth := k3m1) (c := k3c1) (by decide +kernel) rfl rfl rfl (by decide +kernel)
def codes1 : List Jvm.Cond := [Jvm.Cond.code x code maxLocals ret, Jvm.Cond.code ({ cls := "com/example/bittern/bittern/volume/BlockDevice$Range", name := "<init>", desc := "(JJ)V" } : Jvm.MethodName) prog_7_method_1_code (5 : Nat) (Option.none : Option Jvm.ClassFile.FieldType), Jvm.Cond.code ({ cls := "java/lang/Record", name := "<init>", desc := "()V" } : Jvm.MethodName) jdk_30_method_1_code (1 : Nat) (Option.none : Option Jvm.ClassFile.FieldType), Jvm.Cond.code ({ cls := "java/lang/Object", name := "<init>", desc := "()V" } : Jvm.MethodName) object_method_1_code (1 : Nat) (Option.none : Option Jvm.ClassFile.FieldType), Jvm.Cond.code ({ cls := "java/lang/Math", name := "max", desc := "(JJ)J" } : Jvm.MethodName) jdk_29_method_66_code (4 : Nat) (Option.some Jvm.ClassFile.FieldType.long), Jvm.Cond.code ({ cls := "java/lang/Math", name := "min", desc := "(JJ)J" } : Jvm.MethodName) jdk_29_method_70_code (4 : Nat) (Option.some Jvm.ClassFile.FieldType.long), Jvm.Cond.code ({ cls := "com/example/bittern/bittern/volume/BlockDevice$Range", name := "overlaps", desc := "(JJ)Z" } : Jvm.MethodName) prog_7_method_2_code (5 : Nat) (Option.some Jvm.ClassFile.FieldType.boolean)]
set_option maxRecDepth 65536 in
theorem codes_eq : words1.filter isCode = codes1 := rfl
theorem w_codes : ∀ c ∈ words1.filter isCode, c.before args0 about1 = true := by
  rw [codes_eq]
  intro c hc
  simp only [codes1, List.mem_cons, List.not_mem_nil, or_false] at hc
  rcases hc with rfl | rfl | rfl | rfl | rfl | rfl | rfl
  · exact w_c0
  · exact w_c1
  · exact w_c2
  · exact w_c3
  · exact w_c4
  · exact w_c5
  · exact w_c6
set_option maxRecDepth 65536 in
theorem w_t1 : (words1.take 24).all (fun c => isCode c || c.before args0 about1) = true := by decide +kernel
set_option maxRecDepth 65536 in
theorem w_t2 : (words1.drop 24).all (fun c => isCode c || c.before args0 about1) = true := by decide +kernel
theorem w_tables : (allAtoms (Jvm.Cond.code x code maxLocals ret :: tables_1)).before args0 about1 = true := by
  rw [allAtoms_all]
  show words1.all (fun c => c.before args0 about1) = true
  refine all_split ?_ w_codes
  rw [← List.take_append_drop 24 words1, List.all_append, w_t1, w_t2]
  rfl
set_option maxRecDepth 65536 in
theorem w_case : (Jvm.Cond.and given_1 narrow_1).before args0 about1 = true := by decide +kernel
theorem w_applies : (headSpec (Jvm.Cond.code x code maxLocals ret :: tables_1) room_1).applies x e0.platform about1 = true :=
  (Spec.applies_iff w_frames).mpr ⟨w_running, w_runnable, w_alone, w_named, w_hears, w_ripe, w_room, w_tables⟩
theorem atStart : AtStart classFile x code maxLocals ret World_1 tables_1 room_1 Calls_1 rest_1 Pre_1 launch0 p0 e0 about1 theMethod args0 below0 :=
  ⟨lists_1, trivial, launch0.admits_env _ _ _, launch0.least_env, fairChoices_fair.cas, fairChoices_fair.clock, w_frames, w_args, w_heap, w_applies, trivial, trivial, w_case⟩
end start1
theorem witness_1 : WitnessClaimed_1 := ⟨start1.p0, start1.e0, start1.about1, start1.theMethod, start1.args0, start1.below0, start1.atStart⟩
end Jvm.Pilot.@@N@@
