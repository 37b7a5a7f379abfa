import JvmDerived
import JvmDerived.Pilot.@@N@@Statement
import JvmDerived.Pilot.@@N@@Code
set_option linter.unusedVariables false
set_option linter.unusedSimpArgs false
namespace Jvm.Pilot.@@N@@
open Jvm Jvm.ClassFile Sem Op Lib Jvm.Free Jvm.Stand Jvm.LawKit Jvm.RoadKit Bundle Jvm.Pilot.@@N@@.Jvm.D
section OwnKit
variable {p : Program} {l : Launch} {e : Env} {R : Room} {s : State} {m : MethodId} {args : Array Value} {below : List Frame} {meth : Method} {c : Code} {T : State} {locs : List Loc} {cells slots : Nat}
theorem own_retI (X : Stand p l e R s m args below meth c T locs cells slots) (hx : p.tables.exec = Jvm.exec) {pc : Nat} {Ls : Array Slot} {z : Int32} {rest : List Value} (hret : meth.sig.returnType = some .int) (hd : decode c.code pc = .ok (.ireturn, 1)) {fs : List Frame}
    (hl : ∀ (f : JFrame) (acts : List Action), f.method = m → f.locked = none → f.entered = [] → (doReturn e (T.setTop f) acts (some (.int z))).1 = T.setFrames fs) : Steps p.tables e below (T.setTop (mkF m pc Ls (.int z :: rest))) (T.setFrames fs) := by
  have hm' : T.vm.method? m = some meth := X.method'
  have hn : narrow .int (.int z) = .int z := rfl
  show Steps p.tables e below (T.setTop { method := m, pc := pc, locals := Ls, stack := _ :: rest, locked := none }) _
  jvm_step X.here [X.here.top, hx, hd, hm', hret, hn]
  first | (intro acts; rw [hl _ acts rfl rfl rfl]) | rw [hl _ _ rfl rfl rfl]
  exact Steps.refl _
theorem own_retJ (X : Stand p l e R s m args below meth c T locs cells slots) (hx : p.tables.exec = Jvm.exec) {pc : Nat} {Ls : Array Slot} {z : Int64} {rest : List Value} (hret : meth.sig.returnType = some .long) (hd : decode c.code pc = .ok (.lreturn, 1)) {fs : List Frame}
    (hl : ∀ (f : JFrame) (acts : List Action), f.method = m → f.locked = none → f.entered = [] → (doReturn e (T.setTop f) acts (some (.long z))).1 = T.setFrames fs) : Steps p.tables e below (T.setTop (mkF m pc Ls (.long z :: rest))) (T.setFrames fs) := by
  have hm' : T.vm.method? m = some meth := X.method'
  have hn : narrow .long (.long z) = .long z := rfl
  show Steps p.tables e below (T.setTop { method := m, pc := pc, locals := Ls, stack := _ :: rest, locked := none }) _
  jvm_step X.here [X.here.top, hx, hd, hm', hret, hn]
  first | (intro acts; rw [hl _ acts rfl rfl rfl]) | rw [hl _ _ rfl rfl rfl]
  exact Steps.refl _
theorem own_retA (X : Stand p l e R s m args below meth c T locs cells slots) (hx : p.tables.exec = Jvm.exec) {pc : Nat} {Ls : Array Slot} {w : Value} {t : FieldType} {rest : List Value} (hret : meth.sig.returnType = some t) (ht : t.isReference = true) (hw : w.isRef = true) (hd : decode c.code pc = .ok (.areturn, 1)) {fs : List Frame}
    (hl : ∀ (f : JFrame) (acts : List Action), f.method = m → f.locked = none → f.entered = [] → (doReturn e (T.setTop f) acts (some w)).1 = T.setFrames fs) : Steps p.tables e below (T.setTop (mkF m pc Ls (w :: rest))) (T.setFrames fs) :=
  retOut X hx hret (by cases t <;> first | (cases ht; done) | (cases w <;> first | rfl | (cases hw; done))) (Or.inr (Or.inr (Or.inr (Or.inr ⟨rfl, ht, hw⟩)))) hd hl
/-- the run from S ends, returned, as Q says -/
def OwnR (p : Program) (e : Env) (below : List Frame) (s : State) (Q : Option Value → Heap → List Loc → Prop) (kc ks : Nat) (S : State) : Prop :=
  ∃ s₂ o, Steps p.tables e below S s₂ ∧ s₂.status = .running ∧ Ended s₂ below o ∧ ∃ v L, o = .returned v ∧ Q v s₂.heap L ∧ FrameEnd s o s₂ L kc ks
theorem OwnR.of {Q : Option Value → Heap → List Loc → Prop} {kc ks : Nat} {S S' : State} (k : ∀ t, Steps p.tables e below S' t → Steps p.tables e below S t) (h : OwnR p e below s Q kc ks S') : OwnR p e below s Q kc ks S := by
  obtain ⟨a, o, h1, h2⟩ := h
  exact ⟨a, o, k a h1, h2⟩
theorem own_leafI (X : Stand p l e R s m args below meth c T locs cells slots) (hx : p.tables.exec = Jvm.exec) (hlk : meth.locks = false) (hret : meth.sig.returnType = some .int) {Q : Option Value → Heap → List Loc → Prop} {kc ks pc : Nat} {Ls : Array Slot} {z : Int32} {rest : List Value} (hd : decode c.code pc = .ok (.ireturn, 1)) (hk : cells ≤ kc) (hs : slots ≤ ks) (hQ : Q (some (.int z)) T.heap locs) :
    OwnR p e below s Q kc ks (T.setTop (mkF m pc Ls (.int z :: rest))) := by
  obtain ⟨fs, hr, hrun, hended, hW, hsame⟩ := X.leave (v := some (.int z)) (fun h => by rw [hret] at h; cases h) hlk
  exact ⟨_, _, own_retI X hx hret hd hr, hrun, hended, _, _, rfl, hQ, ⟨_, rfl⟩, hW, hsame.mono hk hs⟩
theorem own_leafN (X : Stand p l e R s m args below meth c T locs cells slots) (hx : p.tables.exec = Jvm.exec) (hlk : meth.locks = false) {t : FieldType} (hret : meth.sig.returnType = some t) (ht : t = .boolean ∨ t = .byte ∨ t = .char ∨ t = .short) {Q : Option Value → Heap → List Loc → Prop} {kc ks pc : Nat} {Ls : Array Slot} {z z' : Int32} {rest : List Value} (hd : decode c.code pc = .ok (.ireturn, 1)) (hz : nar t z = z') (hk : cells ≤ kc) (hs : slots ≤ ks) (hQ : Q (some (.int z')) T.heap locs) :
    OwnR p e below s Q kc ks (T.setTop (mkF m pc Ls (.int z :: rest))) := by
  subst hz
  obtain ⟨fs, hr, hrun, hended, hW, hsame⟩ := X.leave (v := some (.int (nar t z))) (fun h => by rw [hret] at h; cases h) hlk
  exact ⟨_, _, retN X hx hret ht hd hr, hrun, hended, _, _, rfl, hQ, ⟨_, rfl⟩, hW, hsame.mono hk hs⟩
theorem own_leafJ (X : Stand p l e R s m args below meth c T locs cells slots) (hx : p.tables.exec = Jvm.exec) (hlk : meth.locks = false) (hret : meth.sig.returnType = some .long) {Q : Option Value → Heap → List Loc → Prop} {kc ks pc : Nat} {Ls : Array Slot} {z : Int64} {rest : List Value} (hd : decode c.code pc = .ok (.lreturn, 1)) (hk : cells ≤ kc) (hs : slots ≤ ks) (hQ : Q (some (.long z)) T.heap locs) :
    OwnR p e below s Q kc ks (T.setTop (mkF m pc Ls (.long z :: rest))) := by
  obtain ⟨fs, hr, hrun, hended, hW, hsame⟩ := X.leave (v := some (.long z)) (fun h => by rw [hret] at h; cases h) hlk
  exact ⟨_, _, own_retJ X hx hret hd hr, hrun, hended, _, _, rfl, hQ, ⟨_, rfl⟩, hW, hsame.mono hk hs⟩
theorem own_leafA (X : Stand p l e R s m args below meth c T locs cells slots) (hx : p.tables.exec = Jvm.exec) (hlk : meth.locks = false) {t : FieldType} (hret : meth.sig.returnType = some t) (ht : t.isReference = true) {Q : Option Value → Heap → List Loc → Prop} {kc ks pc : Nat} {Ls : Array Slot} {w : Value} (hw : w.isRef = true) {rest : List Value} (hd : decode c.code pc = .ok (.areturn, 1)) (hk : cells ≤ kc) (hs : slots ≤ ks) (hQ : Q (some w) T.heap locs) :
    OwnR p e below s Q kc ks (T.setTop (mkF m pc Ls (w :: rest))) := by
  obtain ⟨fs, hr, hrun, hended, hW, hsame⟩ := X.leave (v := some w) (fun h => by rw [hret] at h; cases h) hlk
  exact ⟨_, _, own_retA X hx hret ht hw hd hr, hrun, hended, _, _, rfl, hQ, ⟨_, rfl⟩, hW, hsame.mono hk hs⟩
theorem own_leafV (X : Stand p l e R s m args below meth c T locs cells slots) (hx : p.tables.exec = Jvm.exec) (hlk : meth.locks = false) (hret : meth.sig.returnType = none) {Q : Option Value → Heap → List Loc → Prop} {kc ks pc : Nat} {Ls : Array Slot} (hd : decode c.code pc = .ok (.return_, 1)) (hk : cells ≤ kc) (hs : slots ≤ ks) (hQ : Q none T.heap locs) :
    OwnR p e below s Q kc ks (T.setTop (mkF m pc Ls [])) := by
  obtain ⟨fs, hr, hrun, hended, hW, hsame⟩ := X.leave (v := none) (fun _ => rfl) hlk
  exact ⟨_, _, X.returnOut hx hret hd hr, hrun, hended, _, _, rfl, hQ, ⟨_, rfl⟩, hW, hsame.mono hk hs⟩
theorem own_sta {Z : State} {h h' : Heap} {C n d : String} {v : Value} (F : Sta Z h C n d v) (K : Keep h h' []) : Sta Z h' C n d v := by
  obtain ⟨cf, i, k, f, st, cell, h1, h2, h3, h4, h5, r⟩ := F
  exact ⟨cf, i, k, f, st, cell, h1, h2, h3, h4, K.2.1 _ _ h5 nin0, r⟩
theorem own_arr {Z : State} {h h' : Heap} {a : Addr} {c : Cell} {ty : FieldType} {ws : List Addr} (A : Arr Z h a c ty) (K : Keep h h' ws) (q : a ∉ ws) : Arr Z h' a c ty := ⟨K.2.1 _ _ A.1 q, A.2⟩
theorem own_lclt (a b : Int64) : lcmpW a b < 0 ↔ a < b := by
  obtain ⟨h1, h2, h3⟩ := c_lcmp a b
  have e1 := @Int64.lt_iff_toInt_lt a b
  have e2 := @Int32.lt_iff_toInt_lt (lcmpW a b) 0
  have e0 : (0 : Int32).toInt = 0 := by decide
  rw [e1, e2, e0]; omega
theorem own_lcgt (a b : Int64) : 0 < lcmpW a b ↔ b < a := by
  obtain ⟨h1, h2, h3⟩ := c_lcmp a b
  have e1 := @Int64.lt_iff_toInt_lt b a
  have e2 := @Int32.lt_iff_toInt_lt 0 (lcmpW a b)
  have e0 : (0 : Int32).toInt = 0 := by decide
  rw [e1, e2, e0]; omega
theorem own_lceq (a b : Int64) : lcmpW a b = 0 ↔ a = b := by
  obtain ⟨h1, h2, h3⟩ := c_lcmp a b
  have e0 : (0 : Int32).toInt = 0 := by decide
  rw [← Int64.toInt_inj, ← Int32.toInt_inj, e0]; omega
end OwnKit
theorem own_eqi {args : Array Value} {Z : State} {t : Jvm.Term} {k : Int32} (h : (Jvm.Cond.eq t (Jvm.Term.int k)).value args Z none Z [] = some true) : t.eval args Z none [] Z = some (.int k) := by
  cases ht : t.eval args Z none [] Z with
  | none => simp [Jvm.Cond.value, ht] at h
  | some v => cases v <;> simp [Jvm.Cond.value, ht, Jvm.Term.eval] at h ⊢ <;> first | exact h | exact h.symm
theorem own_eql {args : Array Value} {Z : State} {t : Jvm.Term} {k : Int64} (h : (Jvm.Cond.eq t (Jvm.Term.long k)).value args Z none Z [] = some true) : t.eval args Z none [] Z = some (.long k) := by
  cases ht : t.eval args Z none [] Z with
  | none => simp [Jvm.Cond.value, ht] at h
  | some v => cases v <;> simp [Jvm.Cond.value, ht, Jvm.Term.eval] at h ⊢ <;> first | exact h | exact h.symm
def own_imax (x y : Int32) : Int32 := if x < y then y else x
def own_imin (x y : Int32) : Int32 := if y < x then y else x
theorem own_four (x : Int32) : (x &&& 3) + 1 = 1 ∨ (x &&& 3) + 1 = 2 ∨ (x &&& 3) + 1 = 3 ∨ (x &&& 3) + 1 = 4 := by
  have h := c_mask x 3 2 (by decide) (by decide)
  have q := c_iadd (x &&& 3) 1
  have e : ((2 ^ 2 : Nat) : Int) = 4 := by decide
  rw [e] at h
  have e1 : (1 : Int32).toInt = 1 := by decide
  have e2 : (2 : Int32).toInt = 2 := by decide
  have e3 : (3 : Int32).toInt = 3 := by decide
  have e4 : (4 : Int32).toInt = 4 := by decide
  have lo := Int32.le_toInt ((x &&& 3) + 1)
  have hi := Int32.toInt_lt ((x &&& 3) + 1)
  simp only [← Int32.toInt_inj, e1, e2, e3, e4]
  rw [e1] at q
  omega
theorem own_empty {Z : State} {h : Heap} {a : Addr} {c : Cell} (A : Arr Z h a c .int) (hs : c.slots.size = 0) : Arv Z h a c.cls .int (0 : Int32) [] (.int (0 : Int32)) :=
  ⟨c, A, rfl, by rw [hs]; rfl, by decide, fun i hi => by omega, fun i hi => by omega⟩
theorem own_len0 {args : Array Value} {Z : State} {t : Jvm.Term} {a : Addr} {c : Cell} (ev : t.eval args Z none [] Z = some (.ref a)) (A : Arr Z Z.heap a c .int) (h : (Jvm.Cond.eq (Jvm.Term.length t) (Jvm.Term.int 0)).value args Z none Z [] = some true) : c.slots.size = 0 := by
  have q := own_eqi h
  have hA := Arr.fin (Vm.Alike.refl _) A
  by_cases hl : c.slots.size < 2 ^ 31
  · rw [len_f ev hA hl] at q
    have q2 := Value.int.inj (Option.some.inj q)
    have S : c.slots.size = (0 : Int32).toNatClampNeg := by rw [← q2]; simp only [Int32.toNatClampNeg, len_toInt hl]; rfl
    exact S
  · simp [Jvm.Term.eval, ev, hA, hl] at q
theorem ef_rm4 (m : MethodId) (x0 : Int32) (x1 : Int32) : entryFrame m #[(.int x0), (.int x1)] 2 = mkF m 0 #[.val (.int x0), .val (.int x1)] [] := by first | (simp [entryFrame, mkF, argsToLocals, Value.category]; done) | rfl
theorem d4_0 : decode jdk_29_method_65_code 0 = .ok (.iload_n 0, 1) := by decide +kernel
theorem d4_1 : decode jdk_29_method_65_code 1 = .ok (.iload_n 1, 1) := by decide +kernel
theorem d4_2 : decode jdk_29_method_65_code 2 = .ok (.if_icmp .lt 7, 3) := by decide +kernel
theorem d4_9 : decode jdk_29_method_65_code 9 = .ok (.iload_n 1, 1) := by decide +kernel
theorem d4_10 : decode jdk_29_method_65_code 10 = .ok (.ireturn, 1) := by decide +kernel
theorem d4_5 : decode jdk_29_method_65_code 5 = .ok (.iload_n 0, 1) := by decide +kernel
theorem d4_6 : decode jdk_29_method_65_code 6 = .ok (.goto 4, 3) := by decide +kernel
def Q4 (Z : State) (p1 : Int32) (p2 : Int32) (h0 : Heap) (n0 : Nat) (v : Option Value) (h : Heap) (L : List Loc) : Prop := v = some (.int (own_imax p1 p2)) ∧ Fr n0 L ∧ h = h0
set_option maxRecDepth 65536 in
set_option maxHeartbeats 40000000 in
theorem rm4 (l : Launch) (Z : State) (a0 : Array Value) (hw : ∀ d ∈ tables_1, d.before a0 Z = true) (ws : List Jvm.Cond) (p1 : Int32) (p2 : Int32) (h0 : Heap) (n0 : Nat) (Z0 : n0 ≤ h0.size) :
    MetFree l (⟨"java/lang/Math", "max", "(II)I"⟩ : MethodName) (head1 (Jvm.Cond.code (⟨"java/lang/Math", "max", "(II)I"⟩ : MethodName) jdk_29_method_65_code 2 (some .int) :: ws) ({ frames := 0, cells := 0, slots := 0, locals := 0 } : Room)) (fun a U => a = #[(.int p1), (.int p2)] ∧ Z.Warmed39 U.vm ∧ U.heap = h0) (fun _ _ _ _ _ => True) (fun _ U o U' => ∃ v L, o = .returned v ∧ Q4 Z p1 p2 h0 n0 v U'.heap L ∧ FrameEnd U o U' L ({ frames := 0, cells := 0, slots := 0, locals := 0 } : Room).cells ({ frames := 0, cells := 0, slots := 0, locals := 0 } : Room).slots) := by
  refine MetFree.of_bodySF (Jvm.Free.JP.mathPlain rfl (by decide +kernel)) hisR ?_
  intro p e s m args below meth c s₁ Bd hml0 hP hK
  obtain ⟨rfl, hZ, hh⟩ := hP
  have hx := Bd.exec
  have hby := Bd.bytes
  have hlk := BodyLoose.notSynchronized Bd
  have hml : c.maxLocals = 2 := hml0
  have hown : s.vm.findClass "java/lang/Math" = some m.cls := findClass_of_methodNamed Bd.named
  have hnm := (name_of_methodNamed Bd.named Bd.method).1
  have X0 : Stand p l e ({ frames := 0, cells := 0, slots := 0, locals := 0 } : Room) s m #[(.int p1), (.int p2)] below meth c s₁ [] 0 0 := Stand.of_body Bd
  have e0 : s₁.heap = h0 := by rw [← hh, Bd.state]; rfl
  have N0 := Fr.nil n0
  refine OwnR.of (s := s) (Q := Q4 Z p1 p2 h0 n0) (fun t k => castTop (ef_rm4 m p1 p2) k) ?_
  show OwnR _ _ _ _ _ _ _ (s₁.setTop (mkF m 0 #[.val (.int p1), .val (.int p2)] []))
  refine OwnR.of (fun _ hr => XS.iloadN X0.here hx rfl (hb hby d4_0) rfl hr) ?_
  show OwnR _ _ _ _ _ _ _ (s₁.setTop (mkF m 1 #[.val (.int p1), .val (.int p2)] [(.int p1)]))
  refine OwnR.of (fun _ hr => XS.iloadN X0.here hx rfl (hb hby d4_1) rfl hr) ?_
  show OwnR _ _ _ _ _ _ _ (s₁.setTop (mkF m 2 #[.val (.int p1), .val (.int p2)] [(.int p2), (.int p1)]))
  by_cases hc2_3 : p1 < p2
  · skip
    refine OwnR.of (fun _ hr => XS.icmpYes X0.here hx rfl (pc0 := 2) (pc' := 9) rfl (hb hby d4_2) rfl (tlt hc2_3).1 (by decide) (by decide) hr) ?_
    show OwnR _ _ _ _ _ _ _ (s₁.setTop (mkF m 9 #[.val (.int p1), .val (.int p2)] []))
    refine OwnR.of (fun _ hr => XS.iloadN X0.here hx rfl (hb hby d4_9) rfl hr) ?_
    show OwnR _ _ _ _ _ _ _ (s₁.setTop (mkF m 10 #[.val (.int p1), .val (.int p2)] [(.int p2)]))
    refine own_leafI X0 hx hlk Bd.returns (hb hby d4_10) (by decide) (by decide) ?_
    show Q4 Z p1 p2 h0 n0 _ s₁.heap _
    rw [show s₁.heap = h0 from e0]
    refine ⟨?_, N0, rfl⟩
    show (some (.int p2) : Option Value) = some (.int (own_imax p1 p2))
    simp only [own_imax, if_pos hc2_3]
  · skip
    refine OwnR.of (fun _ hr => XS.icmpNo X0.here hx rfl (hb hby d4_2) rfl (flt hc2_3).1 hr) ?_
    show OwnR _ _ _ _ _ _ _ (s₁.setTop (mkF m 5 #[.val (.int p1), .val (.int p2)] []))
    refine OwnR.of (fun _ hr => XS.iloadN X0.here hx rfl (hb hby d4_5) rfl hr) ?_
    show OwnR _ _ _ _ _ _ _ (s₁.setTop (mkF m 6 #[.val (.int p1), .val (.int p2)] [(.int p1)]))
    refine OwnR.of (fun _ hr => XS.goto X0.here hx rfl (pc0 := 6) (pc' := 10) rfl (hb hby d4_6) (by decide) (by decide) hr) ?_
    show OwnR _ _ _ _ _ _ _ (s₁.setTop (mkF m 10 #[.val (.int p1), .val (.int p2)] [(.int p1)]))
    refine own_leafI X0 hx hlk Bd.returns (hb hby d4_10) (by decide) (by decide) ?_
    show Q4 Z p1 p2 h0 n0 _ s₁.heap _
    rw [show s₁.heap = h0 from e0]
    refine ⟨?_, N0, rfl⟩
    show (some (.int p1) : Option Value) = some (.int (own_imax p1 p2))
    simp only [own_imax, if_neg hc2_3]
theorem ef_rm6 (m : MethodId) (x0 : Int32) (x1 : Int32) : entryFrame m #[(.int x0), (.int x1)] 2 = mkF m 0 #[.val (.int x0), .val (.int x1)] [] := by first | (simp [entryFrame, mkF, argsToLocals, Value.category]; done) | rfl
theorem d6_0 : decode jdk_29_method_69_code 0 = .ok (.iload_n 0, 1) := by decide +kernel
theorem d6_1 : decode jdk_29_method_69_code 1 = .ok (.iload_n 1, 1) := by decide +kernel
theorem d6_2 : decode jdk_29_method_69_code 2 = .ok (.if_icmp .gt 7, 3) := by decide +kernel
theorem d6_9 : decode jdk_29_method_69_code 9 = .ok (.iload_n 1, 1) := by decide +kernel
theorem d6_10 : decode jdk_29_method_69_code 10 = .ok (.ireturn, 1) := by decide +kernel
theorem d6_5 : decode jdk_29_method_69_code 5 = .ok (.iload_n 0, 1) := by decide +kernel
theorem d6_6 : decode jdk_29_method_69_code 6 = .ok (.goto 4, 3) := by decide +kernel
def Q6 (Z : State) (p1 : Int32) (p2 : Int32) (h0 : Heap) (n0 : Nat) (v : Option Value) (h : Heap) (L : List Loc) : Prop := v = some (.int (own_imin p1 p2)) ∧ Fr n0 L ∧ h = h0
set_option maxRecDepth 65536 in
set_option maxHeartbeats 40000000 in
theorem rm6 (l : Launch) (Z : State) (a0 : Array Value) (hw : ∀ d ∈ tables_1, d.before a0 Z = true) (ws : List Jvm.Cond) (p1 : Int32) (p2 : Int32) (h0 : Heap) (n0 : Nat) (Z0 : n0 ≤ h0.size) :
    MetFree l (⟨"java/lang/Math", "min", "(II)I"⟩ : MethodName) (head1 (Jvm.Cond.code (⟨"java/lang/Math", "min", "(II)I"⟩ : MethodName) jdk_29_method_69_code 2 (some .int) :: ws) ({ frames := 0, cells := 0, slots := 0, locals := 0 } : Room)) (fun a U => a = #[(.int p1), (.int p2)] ∧ Z.Warmed39 U.vm ∧ U.heap = h0) (fun _ _ _ _ _ => True) (fun _ U o U' => ∃ v L, o = .returned v ∧ Q6 Z p1 p2 h0 n0 v U'.heap L ∧ FrameEnd U o U' L ({ frames := 0, cells := 0, slots := 0, locals := 0 } : Room).cells ({ frames := 0, cells := 0, slots := 0, locals := 0 } : Room).slots) := by
  refine MetFree.of_bodySF (Jvm.Free.JP.mathPlain rfl (by decide +kernel)) hisR ?_
  intro p e s m args below meth c s₁ Bd hml0 hP hK
  obtain ⟨rfl, hZ, hh⟩ := hP
  have hx := Bd.exec
  have hby := Bd.bytes
  have hlk := BodyLoose.notSynchronized Bd
  have hml : c.maxLocals = 2 := hml0
  have hown : s.vm.findClass "java/lang/Math" = some m.cls := findClass_of_methodNamed Bd.named
  have hnm := (name_of_methodNamed Bd.named Bd.method).1
  have X0 : Stand p l e ({ frames := 0, cells := 0, slots := 0, locals := 0 } : Room) s m #[(.int p1), (.int p2)] below meth c s₁ [] 0 0 := Stand.of_body Bd
  have e0 : s₁.heap = h0 := by rw [← hh, Bd.state]; rfl
  have N0 := Fr.nil n0
  refine OwnR.of (s := s) (Q := Q6 Z p1 p2 h0 n0) (fun t k => castTop (ef_rm6 m p1 p2) k) ?_
  show OwnR _ _ _ _ _ _ _ (s₁.setTop (mkF m 0 #[.val (.int p1), .val (.int p2)] []))
  refine OwnR.of (fun _ hr => XS.iloadN X0.here hx rfl (hb hby d6_0) rfl hr) ?_
  show OwnR _ _ _ _ _ _ _ (s₁.setTop (mkF m 1 #[.val (.int p1), .val (.int p2)] [(.int p1)]))
  refine OwnR.of (fun _ hr => XS.iloadN X0.here hx rfl (hb hby d6_1) rfl hr) ?_
  show OwnR _ _ _ _ _ _ _ (s₁.setTop (mkF m 2 #[.val (.int p1), .val (.int p2)] [(.int p2), (.int p1)]))
  by_cases hc2_3 : p2 < p1
  · skip
    refine OwnR.of (fun _ hr => XS.icmpYes X0.here hx rfl (pc0 := 2) (pc' := 9) rfl (hb hby d6_2) rfl (tlt hc2_3).2.2.1 (by decide) (by decide) hr) ?_
    show OwnR _ _ _ _ _ _ _ (s₁.setTop (mkF m 9 #[.val (.int p1), .val (.int p2)] []))
    refine OwnR.of (fun _ hr => XS.iloadN X0.here hx rfl (hb hby d6_9) rfl hr) ?_
    show OwnR _ _ _ _ _ _ _ (s₁.setTop (mkF m 10 #[.val (.int p1), .val (.int p2)] [(.int p2)]))
    refine own_leafI X0 hx hlk Bd.returns (hb hby d6_10) (by decide) (by decide) ?_
    show Q6 Z p1 p2 h0 n0 _ s₁.heap _
    rw [show s₁.heap = h0 from e0]
    refine ⟨?_, N0, rfl⟩
    show (some (.int p2) : Option Value) = some (.int (own_imin p1 p2))
    simp only [own_imin, if_pos hc2_3]
  · skip
    refine OwnR.of (fun _ hr => XS.icmpNo X0.here hx rfl (hb hby d6_2) rfl (flt hc2_3).2.2.1 hr) ?_
    show OwnR _ _ _ _ _ _ _ (s₁.setTop (mkF m 5 #[.val (.int p1), .val (.int p2)] []))
    refine OwnR.of (fun _ hr => XS.iloadN X0.here hx rfl (hb hby d6_5) rfl hr) ?_
    show OwnR _ _ _ _ _ _ _ (s₁.setTop (mkF m 6 #[.val (.int p1), .val (.int p2)] [(.int p1)]))
    refine OwnR.of (fun _ hr => XS.goto X0.here hx rfl (pc0 := 6) (pc' := 10) rfl (hb hby d6_6) (by decide) (by decide) hr) ?_
    show OwnR _ _ _ _ _ _ _ (s₁.setTop (mkF m 10 #[.val (.int p1), .val (.int p2)] [(.int p1)]))
    refine own_leafI X0 hx hlk Bd.returns (hb hby d6_10) (by decide) (by decide) ?_
    show Q6 Z p1 p2 h0 n0 _ s₁.heap _
    rw [show s₁.heap = h0 from e0]
    refine ⟨?_, N0, rfl⟩
    show (some (.int p1) : Option Value) = some (.int (own_imin p1 p2))
    simp only [own_imin, if_neg hc2_3]
theorem pn_com_example_fast_taxonomy_fasttaxonomy_calculus_IntList : plainName "com/example/fast_taxonomy/fasttaxonomy/calculus/IntList" = true := by first | (simp [plainName, overriddenIn]; done) | decide +kernel
theorem ef_rm1 (m : MethodId) (x0 : Addr) : entryFrame m #[(.ref x0)] 1 = mkF m 0 #[.val (.ref x0)] [] := by first | (simp [entryFrame, mkF, argsToLocals, Value.category]; done) | rfl
theorem d1_0 : decode prog_4_method_1_code 0 = .ok (.aload_n 0, 1) := by decide +kernel
theorem d1_1 : decode prog_4_method_1_code 1 = .ok (.invokespecial 1, 3) := by decide +kernel
theorem d1_4 : decode prog_4_method_1_code 4 = .ok (.aload_n 0, 1) := by decide +kernel
theorem d1_5 : decode prog_4_method_1_code 5 = .ok (.getstatic 7, 3) := by decide +kernel
theorem d1_8 : decode prog_4_method_1_code 8 = .ok (.putfield 13, 3) := by decide +kernel
theorem d1_11 : decode prog_4_method_1_code 11 = .ok (.return_, 1) := by decide +kernel
def Q1 (Z : State) (a1 : Addr) (se : Addr) (h0 : Heap) (n0 : Nat) (v : Option Value) (h : Heap) (L : List Loc) : Prop := v = none ∧ Fr n0 L ∧ Keep h0 h [a1] ∧ Exa Z h a1 "com/example/fast_taxonomy/fasttaxonomy/calculus/IntList" ∧ Fld Z h a1 "com/example/fast_taxonomy/fasttaxonomy/calculus/IntList" "values" "[I" (.ref se) ∧ Fld Z h a1 "com/example/fast_taxonomy/fasttaxonomy/calculus/IntList" "size" "I" (.int (0 : Int32))
set_option maxRecDepth 65536 in
set_option maxHeartbeats 40000000 in
theorem rm1 (l : Launch) (Z : State) (a0 : Array Value) (hw : ∀ d ∈ tables_1, d.before a0 Z = true) (ws : List Jvm.Cond) (a1 : Addr) (se : Addr) (h0 : Heap) (n0 : Nat) (Z0 : n0 ≤ h0.size) (E_a1 : Exa Z h0 a1 "com/example/fast_taxonomy/fasttaxonomy/calculus/IntList") (F_values_a1 : Fld Z h0 a1 "com/example/fast_taxonomy/fasttaxonomy/calculus/IntList" "values" "[I" .null) (F_size_a1 : Fld Z h0 a1 "com/example/fast_taxonomy/fasttaxonomy/calculus/IntList" "size" "I" (.int (0 : Int32))) (S_EMPTY : Sta Z h0 "com/example/fast_taxonomy/fasttaxonomy/calculus/IntList" "EMPTY" "[I" (.ref se)) (g_a1 : n0 ≤ a1) :
    MetFree l (⟨"com/example/fast_taxonomy/fasttaxonomy/calculus/IntList", "<init>", "()V"⟩ : MethodName) (head1 (Jvm.Cond.code (⟨"com/example/fast_taxonomy/fasttaxonomy/calculus/IntList", "<init>", "()V"⟩ : MethodName) prog_4_method_1_code 1 none :: ws) ({ frames := 1, cells := 0, slots := 0, locals := 14 } : Room)) (fun a U => a = #[(.ref a1)] ∧ Z.Warmed39 U.vm ∧ U.heap = h0) (fun _ _ _ _ _ => True) (fun _ U o U' => ∃ v L, o = .returned v ∧ Q1 Z a1 se h0 n0 v U'.heap L ∧ FrameEnd U o U' L ({ frames := 1, cells := 0, slots := 0, locals := 14 } : Room).cells ({ frames := 1, cells := 0, slots := 0, locals := 14 } : Room).slots) := by
  refine MetFree.of_bodySF (plainFor_of_name pn_com_example_fast_taxonomy_fasttaxonomy_calculus_IntList) hisR ?_
  intro p e s m args below meth c s₁ Bd hml0 hP hK
  obtain ⟨rfl, hZ, hh⟩ := hP
  have hx := Bd.exec
  have hby := Bd.bytes
  have hlk := BodyLoose.notSynchronized Bd
  have hml : c.maxLocals = 1 := hml0
  have hown : s.vm.findClass "com/example/fast_taxonomy/fasttaxonomy/calculus/IntList" = some m.cls := findClass_of_methodNamed Bd.named
  have hnm := (name_of_methodNamed Bd.named Bd.method).1
  have X0 : Stand p l e ({ frames := 1, cells := 0, slots := 0, locals := 14 } : Room) s m #[(.ref a1)] below meth c s₁ [] 0 0 := Stand.of_body Bd
  have e0 : s₁.heap = h0 := by rw [← hh, Bd.state]; rfl
  have N0 := Fr.nil n0
  refine OwnR.of (s := s) (Q := Q1 Z a1 se h0 n0) (fun t k => castTop (ef_rm1 m a1) k) ?_
  show OwnR _ _ _ _ _ _ _ (s₁.setTop (mkF m 0 #[.val (.ref a1)] []))
  refine OwnR.of (fun _ hr => XS.aloadN X0.here hx rfl (hb hby d1_0) rfl rfl hr) ?_
  show OwnR _ _ _ _ _ _ _ (s₁.setTop (mkF m 1 #[.val (.ref a1)] [(.ref a1)]))
  obtain ⟨T1, X1, e1, st1⟩ := initO X0 hx hZ hown (hw _ (List.mem_of_getElem? (i := 6) rfl)) (hw _ (List.mem_of_getElem? (i := 7) rfl)) (hw _ (List.mem_of_getElem? (i := 8) rfl)) e0 (g := (mkF m 1 #[.val (.ref a1)] [(.ref a1)])) rfl (by rw [hml]; rfl) rfl (hb hby d1_1) (by decide) (W := 0) (by show 2 * 0 + _ ≤ _; exact Nat.le_of_eq rfl) (by decide)
  refine OwnR.of (st1) ?_
  show OwnR _ _ _ _ _ _ _ (T1.setTop (mkF m 4 #[.val (.ref a1)] []))
  refine OwnR.of (fun _ hr => XS.aloadN X1.here hx rfl (hb hby d1_4) rfl rfl hr) ?_
  show OwnR _ _ _ _ _ _ _ (T1.setTop (mkF m 5 #[.val (.ref a1)] [(.ref a1)]))
  obtain ⟨T2, X2, e2, st2⟩ := getS2 X1 hx hZ hown (host := "") (Or.inl (hw _ (List.mem_of_getElem? (i := 9) rfl))) Via.refl e1 S_EMPTY (g := (mkF m 5 #[.val (.ref a1)] [(.ref a1)])) rfl (hb hby d1_5)
  refine OwnR.of (st2) ?_
  show OwnR _ _ _ _ _ _ _ (T2.setTop (mkF m 8 #[.val (.ref a1)] [(.ref se), (.ref a1)]))
  obtain ⟨T3, h3, X3, e3, W3, st3⟩ := putF X2 hx hZ hown (host := "") (Or.inl (hw _ (List.mem_of_getElem? (i := 11) rfl))) Via.refl e2 F_values_a1 E_a1 (Or.inl (hw _ (List.mem_of_getElem? (i := 12) rfl))) (hw _ (List.mem_of_getElem? (i := 1) rfl)) (ty := (.array .int)) (by decide) rfl rfl (g := (mkF m 8 #[.val (.ref a1)] [(.ref se), (.ref a1)])) rfl rfl (hb hby d1_8)
  refine OwnR.of (st3) ?_
  have F3 := Fld.same W3 F_values_a1
  have K3 : Keep h0 h3 [a1] := Keep.wr (Keep.refl h0 [a1]) W3 (Or.inl (List.mem_of_getElem? (i := 0) rfl))
  have N3 := Fr.snoc X3 N0 g_a1
  show OwnR _ _ _ _ _ _ _ (T3.setTop (mkF m 11 #[.val (.ref a1)] []))
  refine own_leafV X3 hx hlk Bd.returns (hb hby d1_11) (by decide) (by decide) ?_
  show Q1 Z a1 se h0 n0 _ T3.heap _
  rw [show T3.heap = h3 from e3]
  refine ⟨rfl, N3, ⟨K3, (Exa.keep E_a1 K3), F3, (Fld.other W3 F_size_a1 (Or.inr (slot_ne (Or.inl (hw _ (List.mem_of_getElem? (i := 19) rfl))) (Or.inl (hw _ (List.mem_of_getElem? (i := 12) rfl))) (by decide) (t := .int) (t' := (.array .int)) (by decide) (by decide))))⟩⟩
theorem pn_java_util_Arrays : plainName "java/util/Arrays" = true := by first | (simp [plainName, overriddenIn]; done) | decide +kernel
theorem ef_rm5 (m : MethodId) (x0 : Addr) : entryFrame m #[(.ref x0), (.int (8 : Int32))] 3 = mkF m 0 #[.val (.ref x0), .val (.int (8 : Int32)), .unset] [] := by first | (simp [entryFrame, mkF, argsToLocals, Value.category]; done) | rfl
theorem d5_0 : decode jdk_65_method_123_code 0 = .ok (.iload_n 1, 1) := by decide +kernel
theorem d5_1 : decode jdk_65_method_123_code 1 = .ok (.aload_n 0, 1) := by decide +kernel
theorem d5_2 : decode jdk_65_method_123_code 2 = .ok (.arraylength, 1) := by decide +kernel
theorem d5_3 : decode jdk_65_method_123_code 3 = .ok (.if_icmp .ne 11, 3) := by decide +kernel
theorem d5_14 : decode jdk_65_method_123_code 14 = .ok (.iload_n 1, 1) := by decide +kernel
theorem d5_15 : decode jdk_65_method_123_code 15 = .ok (.newarray .int, 2) := by decide +kernel
theorem d5_17 : decode jdk_65_method_123_code 17 = .ok (.astore_n 2, 1) := by decide +kernel
theorem d5_18 : decode jdk_65_method_123_code 18 = .ok (.aload_n 0, 1) := by decide +kernel
theorem d5_19 : decode jdk_65_method_123_code 19 = .ok (.iconst 0, 1) := by decide +kernel
theorem d5_20 : decode jdk_65_method_123_code 20 = .ok (.aload_n 2, 1) := by decide +kernel
theorem d5_21 : decode jdk_65_method_123_code 21 = .ok (.iconst 0, 1) := by decide +kernel
theorem d5_22 : decode jdk_65_method_123_code 22 = .ok (.aload_n 0, 1) := by decide +kernel
theorem d5_23 : decode jdk_65_method_123_code 23 = .ok (.arraylength, 1) := by decide +kernel
theorem d5_24 : decode jdk_65_method_123_code 24 = .ok (.iload_n 1, 1) := by decide +kernel
theorem d5_25 : decode jdk_65_method_123_code 25 = .ok (.invokestatic 304, 3) := by decide +kernel
theorem pd__II_I : parseMethodDescriptor "(II)I" = some ⟨[.int, .int], some .int⟩ := by decide +kernel
theorem d5_28 : decode jdk_65_method_123_code 28 = .ok (.invokestatic 150, 3) := by decide +kernel
theorem d5_31 : decode jdk_65_method_123_code 31 = .ok (.aload_n 2, 1) := by decide +kernel
theorem d5_32 : decode jdk_65_method_123_code 32 = .ok (.areturn, 1) := by decide +kernel
def Q5 (Z : State)  (h0 : Heap) (n0 : Nat) (v : Option Value) (h : Heap) (L : List Loc) : Prop := ∃ (b : Addr) (kb : ClassId), v = some (.ref b) ∧ Fr n0 L ∧ Keep h0 h [] ∧ Arv Z h b kb .int (8 : Int32) [(.int (0 : Int32)), (.int (0 : Int32)), (.int (0 : Int32)), (.int (0 : Int32)), (.int (0 : Int32)), (.int (0 : Int32)), (.int (0 : Int32)), (.int (0 : Int32))] (.int (0 : Int32)) ∧ h0.size ≤ b ∧ n0 ≤ b
set_option maxRecDepth 65536 in
set_option maxHeartbeats 40000000 in
theorem rm5 (l : Launch) (Z : State) (a0 : Array Value) (hw : ∀ d ∈ tables_1, d.before a0 Z = true) (ws : List Jvm.Cond) (a1 : Addr) (k1 : ClassId) (h0 : Heap) (n0 : Nat) (Z0 : n0 ≤ h0.size) (V_a1 : Arv Z h0 a1 k1 .int (0 : Int32) [] (.int (0 : Int32))) :
    MetFree l (⟨"java/util/Arrays", "copyOf", "([II)[I"⟩ : MethodName) (head1 (Jvm.Cond.code (⟨"java/util/Arrays", "copyOf", "([II)[I"⟩ : MethodName) jdk_65_method_123_code 3 (some (.array .int)) :: ws) ({ frames := 1, cells := 1, slots := 8, locals := 48 } : Room)) (fun a U => a = #[(.ref a1), (.int (8 : Int32))] ∧ Z.Warmed39 U.vm ∧ U.heap = h0) (fun _ _ _ _ _ => True) (fun _ U o U' => ∃ v L, o = .returned v ∧ Q5 Z  h0 n0 v U'.heap L ∧ FrameEnd U o U' L ({ frames := 1, cells := 1, slots := 8, locals := 48 } : Room).cells ({ frames := 1, cells := 1, slots := 8, locals := 48 } : Room).slots) := by
  refine MetFree.of_bodySF (plainFor_of_name pn_java_util_Arrays) hisR ?_
  intro p e s m args below meth c s₁ Bd hml0 hP hK
  obtain ⟨rfl, hZ, hh⟩ := hP
  have hx := Bd.exec
  have hby := Bd.bytes
  have hlk := BodyLoose.notSynchronized Bd
  have hml : c.maxLocals = 3 := hml0
  have hown : s.vm.findClass "java/util/Arrays" = some m.cls := findClass_of_methodNamed Bd.named
  have hnm := (name_of_methodNamed Bd.named Bd.method).1
  have X0 : Stand p l e ({ frames := 1, cells := 1, slots := 8, locals := 48 } : Room) s m #[(.ref a1), (.int (8 : Int32))] below meth c s₁ [] 0 0 := Stand.of_body Bd
  have e0 : s₁.heap = h0 := by rw [← hh, Bd.state]; rfl
  have N0 := Fr.nil n0
  refine OwnR.of (s := s) (Q := Q5 Z  h0 n0) (fun t k => castTop (ef_rm5 m a1) k) ?_
  show OwnR _ _ _ _ _ _ _ (s₁.setTop (mkF m 0 #[.val (.ref a1), .val (.int (8 : Int32)), .unset] []))
  refine OwnR.of (fun _ hr => XS.iloadN X0.here hx rfl (hb hby d5_0) rfl hr) ?_
  show OwnR _ _ _ _ _ _ _ (s₁.setTop (mkF m 1 #[.val (.ref a1), .val (.int (8 : Int32)), .unset] [(.int (8 : Int32))]))
  refine OwnR.of (fun _ hr => XS.aloadN X0.here hx rfl (hb hby d5_1) rfl rfl hr) ?_
  show OwnR _ _ _ _ _ _ _ (s₁.setTop (mkF m 2 #[.val (.ref a1), .val (.int (8 : Int32)), .unset] [(.ref a1), (.int (8 : Int32))]))
  obtain ⟨cl1, Ar1, -, S1, N1, -, -⟩ := id V_a1
  refine OwnR.of (X0.arraylength hx (by rw [e0]; exact Ar1.1) (State.isArrayOf_alike hZ.alike Ar1.2.1) (g := (mkF m 2 #[.val (.ref a1), .val (.int (8 : Int32)), .unset] [(.ref a1), (.int (8 : Int32))])) rfl rfl (hb hby d5_2)) ?_
  show OwnR _ _ _ _ _ _ _ (s₁.setTop (mkF m 3 #[.val (.ref a1), .val (.int (8 : Int32)), .unset] [(.int cl1.slots.size.toInt32), (.int (8 : Int32))]))
  rw [len_of S1 N1]
  show OwnR _ _ _ _ _ _ _ (s₁.setTop (mkF m 3 #[.val (.ref a1), .val (.int (8 : Int32)), .unset] [(.int (0 : Int32)), (.int (8 : Int32))]))
  refine OwnR.of (fun _ hr => XS.icmpYes X0.here hx rfl (pc0 := 3) (pc' := 14) rfl (hb hby d5_3) rfl (feq (by decide : ¬ ((8 : Int32) = (0 : Int32)))).2 (by decide) (by decide) hr) ?_
  show OwnR _ _ _ _ _ _ _ (s₁.setTop (mkF m 14 #[.val (.ref a1), .val (.int (8 : Int32)), .unset] []))
  refine OwnR.of (fun _ hr => XS.iloadN X0.here hx rfl (hb hby d5_14) rfl hr) ?_
  show OwnR _ _ _ _ _ _ _ (s₁.setTop (mkF m 15 #[.val (.ref a1), .val (.int (8 : Int32)), .unset] [(.int (8 : Int32))]))
  obtain ⟨T2, h2, k2, X2, e2, E2, A2, AE2, st2⟩ := newPE X0 hx hZ (hw _ (List.mem_of_getElem? (i := 28) rfl)) e0 (g := (mkF m 15 #[.val (.ref a1), .val (.int (8 : Int32)), .unset] [(.int (8 : Int32))])) rfl (hb hby d5_15) rfl (by decide) (cap := 8) (by decide) (by decide) (by decide) (by decide) (ad := "[I") rfl
  obtain ⟨b2, g2⟩ : ∃ z, z = h0.size := ⟨_, rfl⟩
  rw [← g2] at A2 AE2 st2
  refine OwnR.of (st2) ?_
  have gn_b2 : n0 ≤ b2 := Nat.le_trans (Nat.le_trans Z0 (Keep.refl h0 []).1) (Nat.le_of_eq g2.symm)
  have sz_b2 : h0.size ≤ b2 := Nat.le_trans (Keep.refl h0 []).1 (Nat.le_of_eq g2.symm)
  have K2 : Keep h0 h2 [] := Keep.ext (Keep.refl h0 []) E2
  have V2 : Arv Z h2 b2 k2 .int (8 : Int32) [(.int (0 : Int32)), (.int (0 : Int32)), (.int (0 : Int32)), (.int (0 : Int32)), (.int (0 : Int32)), (.int (0 : Int32)), (.int (0 : Int32)), (.int (0 : Int32))] (.int (0 : Int32)) := (Arv.new A2 (by decide)).pad (pad_rep [] (.int (0 : Int32)) 8)
  show OwnR _ _ _ _ _ _ _ (T2.setTop (mkF m 17 #[.val (.ref a1), .val (.int (8 : Int32)), .unset] [(.ref b2)]))
  refine OwnR.of (fun _ hr => XS.astoreN X2.here hx rfl (hb hby d5_17) rfl rfl (l' := #[.val (.ref a1), .val (.int (8 : Int32)), .val (.ref b2)]) rfl hr) ?_
  show OwnR _ _ _ _ _ _ _ (T2.setTop (mkF m 18 #[.val (.ref a1), .val (.int (8 : Int32)), .val (.ref b2)] []))
  refine OwnR.of (fun _ hr => XS.aloadN X2.here hx rfl (hb hby d5_18) rfl rfl hr) ?_
  show OwnR _ _ _ _ _ _ _ (T2.setTop (mkF m 19 #[.val (.ref a1), .val (.int (8 : Int32)), .val (.ref b2)] [(.ref a1)]))
  refine OwnR.of (fun _ hr => XS.iconst X2.here hx rfl (hb hby d5_19) hr) ?_
  show OwnR _ _ _ _ _ _ _ (T2.setTop (mkF m 20 #[.val (.ref a1), .val (.int (8 : Int32)), .val (.ref b2)] [(.int (0 : Int32)), (.ref a1)]))
  refine OwnR.of (fun _ hr => XS.aloadN X2.here hx rfl (hb hby d5_20) rfl rfl hr) ?_
  show OwnR _ _ _ _ _ _ _ (T2.setTop (mkF m 21 #[.val (.ref a1), .val (.int (8 : Int32)), .val (.ref b2)] [(.ref b2), (.int (0 : Int32)), (.ref a1)]))
  refine OwnR.of (fun _ hr => XS.iconst X2.here hx rfl (hb hby d5_21) hr) ?_
  show OwnR _ _ _ _ _ _ _ (T2.setTop (mkF m 22 #[.val (.ref a1), .val (.int (8 : Int32)), .val (.ref b2)] [(.int (0 : Int32)), (.ref b2), (.int (0 : Int32)), (.ref a1)]))
  refine OwnR.of (fun _ hr => XS.aloadN X2.here hx rfl (hb hby d5_22) rfl rfl hr) ?_
  show OwnR _ _ _ _ _ _ _ (T2.setTop (mkF m 23 #[.val (.ref a1), .val (.int (8 : Int32)), .val (.ref b2)] [(.ref a1), (.int (0 : Int32)), (.ref b2), (.int (0 : Int32)), (.ref a1)]))
  obtain ⟨cl3, Ar3, -, S3, N3, -, -⟩ := id (Arv.keep V_a1 K2 nin0)
  refine OwnR.of (X2.arraylength hx (by rw [e2]; exact Ar3.1) (State.isArrayOf_alike hZ.alike Ar3.2.1) (g := (mkF m 23 #[.val (.ref a1), .val (.int (8 : Int32)), .val (.ref b2)] [(.ref a1), (.int (0 : Int32)), (.ref b2), (.int (0 : Int32)), (.ref a1)])) rfl rfl (hb hby d5_23)) ?_
  show OwnR _ _ _ _ _ _ _ (T2.setTop (mkF m 24 #[.val (.ref a1), .val (.int (8 : Int32)), .val (.ref b2)] [(.int cl3.slots.size.toInt32), (.int (0 : Int32)), (.ref b2), (.int (0 : Int32)), (.ref a1)]))
  rw [len_of S3 N3]
  show OwnR _ _ _ _ _ _ _ (T2.setTop (mkF m 24 #[.val (.ref a1), .val (.int (8 : Int32)), .val (.ref b2)] [(.int (0 : Int32)), (.int (0 : Int32)), (.ref b2), (.int (0 : Int32)), (.ref a1)]))
  refine OwnR.of (fun _ hr => XS.iloadN X2.here hx rfl (hb hby d5_24) rfl hr) ?_
  show OwnR _ _ _ _ _ _ _ (T2.setTop (mkF m 25 #[.val (.ref a1), .val (.int (8 : Int32)), .val (.ref b2)] [(.int (8 : Int32)), (.int (0 : Int32)), (.int (0 : Int32)), (.ref b2), (.int (0 : Int32)), (.ref a1)]))
  obtain ⟨_, _, ⟨T4, L4, kc4, ns4⟩, -, X4, ⟨Lc4, hQ4, l4, y4, z4⟩, st4⟩ := Jvm.LawKit.callS X2 hx (y := (⟨"java/lang/Math", "min", "(II)I"⟩ : MethodName)) hown (mvT hZ (hw _ (List.mem_of_getElem? (i := 29) rfl))) (mvT hZ (hw _ (List.mem_of_getElem? (i := 30) rfl))) (mvT hZ (hw _ (List.mem_of_getElem? (i := 22) rfl))) (mvT hZ (hw _ (List.mem_of_getElem? (i := 31) rfl))) (by decide) (backOf (W := 4) (rm6 l Z a0 hw [] (0 : Int32) (8 : Int32) h2 n0 (Nat.le_trans Z0 K2.1) ) hZ (hw _ (List.mem_of_getElem? (i := 31) rfl)) (hw _ (List.mem_of_getElem? (i := 22) rfl)) (by decide) (by decide)) (g := (mkF m 25 #[.val (.ref a1), .val (.int (8 : Int32)), .val (.ref b2)] [(.int (8 : Int32)), (.int (0 : Int32)), (.int (0 : Int32)), (.ref b2), (.int (0 : Int32)), (.ref a1)])) rfl (by rw [hml]; rfl) (argsL := [(.int (0 : Int32)), (.int (8 : Int32))]) (rest := [(.int (0 : Int32)), (.ref b2), (.int (0 : Int32)), (.ref a1)]) (lenOf pd__II_I rfl) rfl (by show 2 * 0 + _ ≤ _; exact Nat.le_of_eq rfl) (hb hby d5_25) (fun _ _ => ⟨rfl, e2, (by decide : 1 + 0 ≤ _), (by decide : 8 + 0 ≤ _)⟩)
  dsimp only [Pt.U, Pt.locs, Pt.cells, Pt.slots] at X4 l4 y4 z4 st4 hQ4
  subst l4 y4 z4
  obtain ⟨rfl, N4q, e4⟩ := hQ4
  have N4 := Fr.app N0 N4q
  refine OwnR.of (st4) ?_
  show OwnR _ _ _ _ _ _ _ (T4.setTop (mkF m 28 #[.val (.ref a1), .val (.int (8 : Int32)), .val (.ref b2)] [(.int (own_imin (0 : Int32) (8 : Int32))), (.int (0 : Int32)), (.ref b2), (.int (0 : Int32)), (.ref a1)]))
  rw [(by decide : (own_imin (0 : Int32) (8 : Int32)) = (0 : Int32))]
  show OwnR _ _ _ _ _ _ _ (T4.setTop (mkF m 28 #[.val (.ref a1), .val (.int (8 : Int32)), .val (.ref b2)] [(.int (0 : Int32)), (.int (0 : Int32)), (.ref b2), (.int (0 : Int32)), (.ref a1)]))
  obtain ⟨T5, h5, L5, X5, e5, N5, Kp5, V5, st5⟩ := cpA X4 hx hZ hown (hw _ (List.mem_of_getElem? (i := 32) rfl)) (hw _ (List.mem_of_getElem? (i := 35) rfl)) (hw _ (List.mem_of_getElem? (i := 33) rfl)) (hw _ (List.mem_of_getElem? (i := 34) rfl)) e4 (Arv.keep V_a1 K2 nin0) V2 (Or.inl ⟨rfl, rfl⟩) (us := []) (by decide) (by decide) (by decide) (by decide) (by decide) rfl (by decide) N4 gn_b2 (g := (mkF m 28 #[.val (.ref a1), .val (.int (8 : Int32)), .val (.ref b2)] [(.int (0 : Int32)), (.int (0 : Int32)), (.ref b2), (.int (0 : Int32)), (.ref a1)])) rfl (by rw [hml]; rfl) rfl (hb hby d5_28) (by decide) (W := 0) (by show 2 * 0 + _ ≤ _; exact Nat.le_of_eq rfl) (by decide)
  refine OwnR.of (st5) ?_
  have K5 : Keep h0 h5 [] := Keep.trans K2 Kp5 (allS (Or.inr sz_b2) all0)
  have V5 : Arv Z h5 b2 k2 .int (8 : Int32) [(.int (0 : Int32)), (.int (0 : Int32)), (.int (0 : Int32)), (.int (0 : Int32)), (.int (0 : Int32)), (.int (0 : Int32)), (.int (0 : Int32)), (.int (0 : Int32))] (.int (0 : Int32)) := V5
  show OwnR _ _ _ _ _ _ _ (T5.setTop (mkF m 31 #[.val (.ref a1), .val (.int (8 : Int32)), .val (.ref b2)] []))
  refine OwnR.of (fun _ hr => XS.aloadN X5.here hx rfl (hb hby d5_31) rfl rfl hr) ?_
  show OwnR _ _ _ _ _ _ _ (T5.setTop (mkF m 32 #[.val (.ref a1), .val (.int (8 : Int32)), .val (.ref b2)] [(.ref b2)]))
  refine own_leafA X5 hx hlk Bd.returns rfl rfl (hb hby d5_32) (by decide) (by decide) ?_
  show Q5 Z  h0 n0 _ T5.heap _
  rw [show T5.heap = h5 from e5]
  refine ⟨b2, k2, ?_, N5, ⟨K5, V5, sz_b2, gn_b2⟩⟩
  show (some (.ref b2) : Option Value) = some (.ref b2)
  rfl
theorem ef_rm3_0 (m : MethodId) (x0 : Addr) (x1 : Int32) : entryFrame m #[(.ref x0), (.int x1)] 2 = mkF m 0 #[.val (.ref x0), .val (.int x1)] [] := by first | (simp [entryFrame, mkF, argsToLocals, Value.category]; done) | rfl
theorem d3_0 : decode prog_4_method_3_code 0 = .ok (.aload_n 0, 1) := by decide +kernel
theorem d3_1 : decode prog_4_method_3_code 1 = .ok (.getfield 28, 3) := by decide +kernel
theorem d3_4 : decode prog_4_method_3_code 4 = .ok (.aload_n 0, 1) := by decide +kernel
theorem d3_5 : decode prog_4_method_3_code 5 = .ok (.getfield 13, 3) := by decide +kernel
theorem d3_8 : decode prog_4_method_3_code 8 = .ok (.arraylength, 1) := by decide +kernel
theorem d3_9 : decode prog_4_method_3_code 9 = .ok (.if_icmp .ne 25, 3) := by decide +kernel
theorem d3_12 : decode prog_4_method_3_code 12 = .ok (.aload_n 0, 1) := by decide +kernel
theorem d3_13 : decode prog_4_method_3_code 13 = .ok (.aload_n 0, 1) := by decide +kernel
theorem d3_14 : decode prog_4_method_3_code 14 = .ok (.getfield 13, 3) := by decide +kernel
theorem d3_17 : decode prog_4_method_3_code 17 = .ok (.bipush 8, 2) := by decide +kernel
theorem d3_19 : decode prog_4_method_3_code 19 = .ok (.iconst 2, 1) := by decide +kernel
theorem d3_20 : decode prog_4_method_3_code 20 = .ok (.aload_n 0, 1) := by decide +kernel
theorem d3_21 : decode prog_4_method_3_code 21 = .ok (.getfield 28, 3) := by decide +kernel
theorem d3_24 : decode prog_4_method_3_code 24 = .ok (.imul, 1) := by decide +kernel
theorem d3_25 : decode prog_4_method_3_code 25 = .ok (.invokestatic 32, 3) := by decide +kernel
theorem d3_28 : decode prog_4_method_3_code 28 = .ok (.invokestatic 38, 3) := by decide +kernel
theorem pd___II__I : parseMethodDescriptor "([II)[I" = some ⟨[(.array .int), .int], some (.array .int)⟩ := by decide +kernel
theorem d3_31 : decode prog_4_method_3_code 31 = .ok (.putfield 13, 3) := by decide +kernel
theorem d3_34 : decode prog_4_method_3_code 34 = .ok (.aload_n 0, 1) := by decide +kernel
theorem d3_35 : decode prog_4_method_3_code 35 = .ok (.getfield 13, 3) := by decide +kernel
theorem d3_38 : decode prog_4_method_3_code 38 = .ok (.aload_n 0, 1) := by decide +kernel
theorem d3_39 : decode prog_4_method_3_code 39 = .ok (.getfield 28, 3) := by decide +kernel
theorem d3_42 : decode prog_4_method_3_code 42 = .ok (.iload_n 1, 1) := by decide +kernel
theorem d3_43 : decode prog_4_method_3_code 43 = .ok (.iastore, 1) := by decide +kernel
theorem d3_44 : decode prog_4_method_3_code 44 = .ok (.aload_n 0, 1) := by decide +kernel
theorem d3_45 : decode prog_4_method_3_code 45 = .ok (.dup, 1) := by decide +kernel
theorem d3_46 : decode prog_4_method_3_code 46 = .ok (.getfield 28, 3) := by decide +kernel
theorem d3_49 : decode prog_4_method_3_code 49 = .ok (.iconst 1, 1) := by decide +kernel
theorem d3_50 : decode prog_4_method_3_code 50 = .ok (.iadd, 1) := by decide +kernel
theorem d3_51 : decode prog_4_method_3_code 51 = .ok (.putfield 28, 3) := by decide +kernel
theorem d3_54 : decode prog_4_method_3_code 54 = .ok (.return_, 1) := by decide +kernel
def Q3_0 (Z : State) (a1 : Addr) (p2 : Int32) (h0 : Heap) (n0 : Nat) (v : Option Value) (h : Heap) (L : List Loc) : Prop := ∃ (b : Addr) (kb : ClassId), v = none ∧ Fr n0 L ∧ Keep h0 h [a1] ∧ Exa Z h a1 "com/example/fast_taxonomy/fasttaxonomy/calculus/IntList" ∧ Fld Z h a1 "com/example/fast_taxonomy/fasttaxonomy/calculus/IntList" "values" "[I" (.ref b) ∧ Fld Z h a1 "com/example/fast_taxonomy/fasttaxonomy/calculus/IntList" "size" "I" (.int (1 : Int32)) ∧ Arv Z h b kb .int (8 : Int32) [(.int p2), (.int (0 : Int32)), (.int (0 : Int32)), (.int (0 : Int32)), (.int (0 : Int32)), (.int (0 : Int32)), (.int (0 : Int32)), (.int (0 : Int32))] (.int (0 : Int32)) ∧ h0.size ≤ b ∧ n0 ≤ b
set_option maxRecDepth 65536 in
set_option maxHeartbeats 40000000 in
theorem rm3_0 (l : Launch) (Z : State) (a0 : Array Value) (hw : ∀ d ∈ tables_1, d.before a0 Z = true) (ws : List Jvm.Cond) (a1 : Addr) (p2 : Int32) (a2 : Addr) (k2 : ClassId) (h0 : Heap) (n0 : Nat) (Z0 : n0 ≤ h0.size) (E_a1 : Exa Z h0 a1 "com/example/fast_taxonomy/fasttaxonomy/calculus/IntList") (F_values_a1 : Fld Z h0 a1 "com/example/fast_taxonomy/fasttaxonomy/calculus/IntList" "values" "[I" (.ref a2)) (F_size_a1 : Fld Z h0 a1 "com/example/fast_taxonomy/fasttaxonomy/calculus/IntList" "size" "I" (.int (0 : Int32))) (V_a2 : Arv Z h0 a2 k2 .int (0 : Int32) [] (.int (0 : Int32))) (g_a1 : n0 ≤ a1) (ne_12 : a1 ≠ a2) :
    MetFree l (⟨"com/example/fast_taxonomy/fasttaxonomy/calculus/IntList", "add", "(I)V"⟩ : MethodName) (head1 (Jvm.Cond.code (⟨"com/example/fast_taxonomy/fasttaxonomy/calculus/IntList", "add", "(I)V"⟩ : MethodName) prog_4_method_3_code 2 none :: ws) ({ frames := 2, cells := 1, slots := 8, locals := 80 } : Room)) (fun a U => a = #[(.ref a1), (.int p2)] ∧ Z.Warmed39 U.vm ∧ U.heap = h0) (fun _ _ _ _ _ => True) (fun _ U o U' => ∃ v L, o = .returned v ∧ Q3_0 Z a1 p2 h0 n0 v U'.heap L ∧ FrameEnd U o U' L ({ frames := 2, cells := 1, slots := 8, locals := 80 } : Room).cells ({ frames := 2, cells := 1, slots := 8, locals := 80 } : Room).slots) := by
  refine MetFree.of_bodySF (plainFor_of_name pn_com_example_fast_taxonomy_fasttaxonomy_calculus_IntList) hisR ?_
  intro p e s m args below meth c s₁ Bd hml0 hP hK
  obtain ⟨rfl, hZ, hh⟩ := hP
  have hx := Bd.exec
  have hby := Bd.bytes
  have hlk := BodyLoose.notSynchronized Bd
  have hml : c.maxLocals = 2 := hml0
  have hown : s.vm.findClass "com/example/fast_taxonomy/fasttaxonomy/calculus/IntList" = some m.cls := findClass_of_methodNamed Bd.named
  have hnm := (name_of_methodNamed Bd.named Bd.method).1
  have X0 : Stand p l e ({ frames := 2, cells := 1, slots := 8, locals := 80 } : Room) s m #[(.ref a1), (.int p2)] below meth c s₁ [] 0 0 := Stand.of_body Bd
  have e0 : s₁.heap = h0 := by rw [← hh, Bd.state]; rfl
  have N0 := Fr.nil n0
  refine OwnR.of (s := s) (Q := Q3_0 Z a1 p2 h0 n0) (fun t k => castTop (ef_rm3_0 m a1 p2) k) ?_
  show OwnR _ _ _ _ _ _ _ (s₁.setTop (mkF m 0 #[.val (.ref a1), .val (.int p2)] []))
  refine OwnR.of (fun _ hr => XS.aloadN X0.here hx rfl (hb hby d3_0) rfl rfl hr) ?_
  show OwnR _ _ _ _ _ _ _ (s₁.setTop (mkF m 1 #[.val (.ref a1), .val (.int p2)] [(.ref a1)]))
  obtain ⟨T1, X1, e1, st1⟩ := getF X0 hx hZ hown (host := "") (Or.inl (hw _ (List.mem_of_getElem? (i := 18) rfl))) Via.refl e0 F_size_a1 (g := (mkF m 1 #[.val (.ref a1), .val (.int p2)] [(.ref a1)])) rfl rfl (hb hby d3_1)
  refine OwnR.of (st1) ?_
  show OwnR _ _ _ _ _ _ _ (T1.setTop (mkF m 4 #[.val (.ref a1), .val (.int p2)] [(.int (0 : Int32))]))
  refine OwnR.of (fun _ hr => XS.aloadN X1.here hx rfl (hb hby d3_4) rfl rfl hr) ?_
  show OwnR _ _ _ _ _ _ _ (T1.setTop (mkF m 5 #[.val (.ref a1), .val (.int p2)] [(.ref a1), (.int (0 : Int32))]))
  obtain ⟨T2, X2, e2, st2⟩ := getF X1 hx hZ hown (host := "") (Or.inl (hw _ (List.mem_of_getElem? (i := 11) rfl))) Via.refl e1 F_values_a1 (g := (mkF m 5 #[.val (.ref a1), .val (.int p2)] [(.ref a1), (.int (0 : Int32))])) rfl rfl (hb hby d3_5)
  refine OwnR.of (st2) ?_
  show OwnR _ _ _ _ _ _ _ (T2.setTop (mkF m 8 #[.val (.ref a1), .val (.int p2)] [(.ref a2), (.int (0 : Int32))]))
  obtain ⟨cl3, Ar3, -, S3, N3, -, -⟩ := id V_a2
  refine OwnR.of (X2.arraylength hx (by rw [e2]; exact Ar3.1) (State.isArrayOf_alike hZ.alike Ar3.2.1) (g := (mkF m 8 #[.val (.ref a1), .val (.int p2)] [(.ref a2), (.int (0 : Int32))])) rfl rfl (hb hby d3_8)) ?_
  show OwnR _ _ _ _ _ _ _ (T2.setTop (mkF m 9 #[.val (.ref a1), .val (.int p2)] [(.int cl3.slots.size.toInt32), (.int (0 : Int32))]))
  rw [len_of S3 N3]
  show OwnR _ _ _ _ _ _ _ (T2.setTop (mkF m 9 #[.val (.ref a1), .val (.int p2)] [(.int (0 : Int32)), (.int (0 : Int32))]))
  refine OwnR.of (fun _ hr => XS.icmpNo X2.here hx rfl (hb hby d3_9) rfl (teq (by decide : (0 : Int32) = (0 : Int32))).2 hr) ?_
  show OwnR _ _ _ _ _ _ _ (T2.setTop (mkF m 12 #[.val (.ref a1), .val (.int p2)] []))
  refine OwnR.of (fun _ hr => XS.aloadN X2.here hx rfl (hb hby d3_12) rfl rfl hr) ?_
  show OwnR _ _ _ _ _ _ _ (T2.setTop (mkF m 13 #[.val (.ref a1), .val (.int p2)] [(.ref a1)]))
  refine OwnR.of (fun _ hr => XS.aloadN X2.here hx rfl (hb hby d3_13) rfl rfl hr) ?_
  show OwnR _ _ _ _ _ _ _ (T2.setTop (mkF m 14 #[.val (.ref a1), .val (.int p2)] [(.ref a1), (.ref a1)]))
  obtain ⟨T4, X4, e4, st4⟩ := getF X2 hx hZ hown (host := "") (Or.inl (hw _ (List.mem_of_getElem? (i := 11) rfl))) Via.refl e2 F_values_a1 (g := (mkF m 14 #[.val (.ref a1), .val (.int p2)] [(.ref a1), (.ref a1)])) rfl rfl (hb hby d3_14)
  refine OwnR.of (st4) ?_
  show OwnR _ _ _ _ _ _ _ (T4.setTop (mkF m 17 #[.val (.ref a1), .val (.int p2)] [(.ref a2), (.ref a1)]))
  refine OwnR.of (fun _ hr => XS.bipush X4.here hx rfl (hb hby d3_17) hr) ?_
  show OwnR _ _ _ _ _ _ _ (T4.setTop (mkF m 19 #[.val (.ref a1), .val (.int p2)] [(.int (8 : Int32)), (.ref a2), (.ref a1)]))
  refine OwnR.of (fun _ hr => XS.iconst X4.here hx rfl (hb hby d3_19) hr) ?_
  show OwnR _ _ _ _ _ _ _ (T4.setTop (mkF m 20 #[.val (.ref a1), .val (.int p2)] [(.int (2 : Int32)), (.int (8 : Int32)), (.ref a2), (.ref a1)]))
  refine OwnR.of (fun _ hr => XS.aloadN X4.here hx rfl (hb hby d3_20) rfl rfl hr) ?_
  show OwnR _ _ _ _ _ _ _ (T4.setTop (mkF m 21 #[.val (.ref a1), .val (.int p2)] [(.ref a1), (.int (2 : Int32)), (.int (8 : Int32)), (.ref a2), (.ref a1)]))
  obtain ⟨T5, X5, e5, st5⟩ := getF X4 hx hZ hown (host := "") (Or.inl (hw _ (List.mem_of_getElem? (i := 18) rfl))) Via.refl e4 F_size_a1 (g := (mkF m 21 #[.val (.ref a1), .val (.int p2)] [(.ref a1), (.int (2 : Int32)), (.int (8 : Int32)), (.ref a2), (.ref a1)])) rfl rfl (hb hby d3_21)
  refine OwnR.of (st5) ?_
  show OwnR _ _ _ _ _ _ _ (T5.setTop (mkF m 24 #[.val (.ref a1), .val (.int p2)] [(.int (0 : Int32)), (.int (2 : Int32)), (.int (8 : Int32)), (.ref a2), (.ref a1)]))
  refine OwnR.of (fun _ hr => XS.imul X5.here hx rfl (hb hby d3_24) rfl hr) ?_
  show OwnR _ _ _ _ _ _ _ (T5.setTop (mkF m 25 #[.val (.ref a1), .val (.int p2)] [(.int ((2 : Int32) * (0 : Int32))), (.int (8 : Int32)), (.ref a2), (.ref a1)]))
  rw [(by decide : ((2 : Int32) * (0 : Int32)) = (0 : Int32))]
  show OwnR _ _ _ _ _ _ _ (T5.setTop (mkF m 25 #[.val (.ref a1), .val (.int p2)] [(.int (0 : Int32)), (.int (8 : Int32)), (.ref a2), (.ref a1)]))
  obtain ⟨_, _, ⟨T6, L6, kc6, ns6⟩, -, X6, ⟨Lc6, hQ6, l6, y6, z6⟩, st6⟩ := Jvm.LawKit.callS X5 hx (y := (⟨"java/lang/Math", "max", "(II)I"⟩ : MethodName)) hown (mvT hZ (hw _ (List.mem_of_getElem? (i := 20) rfl))) (mvT hZ (hw _ (List.mem_of_getElem? (i := 21) rfl))) (mvT hZ (hw _ (List.mem_of_getElem? (i := 22) rfl))) (mvT hZ (hw _ (List.mem_of_getElem? (i := 23) rfl))) (by decide) (backOf (W := 2) (rm4 l Z a0 hw [] (8 : Int32) (0 : Int32) h0 n0 (Nat.le_trans Z0 (Keep.refl h0 [a1]).1) ) hZ (hw _ (List.mem_of_getElem? (i := 23) rfl)) (hw _ (List.mem_of_getElem? (i := 22) rfl)) (by decide) (by decide)) (g := (mkF m 25 #[.val (.ref a1), .val (.int p2)] [(.int (0 : Int32)), (.int (8 : Int32)), (.ref a2), (.ref a1)])) rfl (by rw [hml]; rfl) (argsL := [(.int (8 : Int32)), (.int (0 : Int32))]) (rest := [(.ref a2), (.ref a1)]) (lenOf pd__II_I rfl) rfl (by show 2 * 0 + _ ≤ _; exact Nat.le_of_eq rfl) (hb hby d3_25) (fun _ _ => ⟨rfl, e5, (by decide : 0 + 0 ≤ _), (by decide : 0 + 0 ≤ _)⟩)
  dsimp only [Pt.U, Pt.locs, Pt.cells, Pt.slots] at X6 l6 y6 z6 st6 hQ6
  subst l6 y6 z6
  obtain ⟨rfl, N6q, e6⟩ := hQ6
  have N6 := Fr.app N0 N6q
  refine OwnR.of (st6) ?_
  show OwnR _ _ _ _ _ _ _ (T6.setTop (mkF m 28 #[.val (.ref a1), .val (.int p2)] [(.int (own_imax (8 : Int32) (0 : Int32))), (.ref a2), (.ref a1)]))
  rw [(by decide : (own_imax (8 : Int32) (0 : Int32)) = (8 : Int32))]
  show OwnR _ _ _ _ _ _ _ (T6.setTop (mkF m 28 #[.val (.ref a1), .val (.int p2)] [(.int (8 : Int32)), (.ref a2), (.ref a1)]))
  obtain ⟨_, _, ⟨T7, L7, kc7, ns7⟩, -, X7, ⟨Lc7, hQ7, l7, y7, z7⟩, st7⟩ := Jvm.LawKit.callS X6 hx (y := (⟨"java/util/Arrays", "copyOf", "([II)[I"⟩ : MethodName)) hown (mvT hZ (hw _ (List.mem_of_getElem? (i := 24) rfl))) (mvT hZ (hw _ (List.mem_of_getElem? (i := 25) rfl))) (mvT hZ (hw _ (List.mem_of_getElem? (i := 26) rfl))) (mvT hZ (hw _ (List.mem_of_getElem? (i := 27) rfl))) (by decide) (backOf (W := 1) (rm5 l Z a0 hw [] a2 k2 h0 n0 (Nat.le_trans Z0 (Keep.refl h0 [a1]).1) V_a2) hZ (hw _ (List.mem_of_getElem? (i := 27) rfl)) (hw _ (List.mem_of_getElem? (i := 26) rfl)) (by decide) (by decide)) (g := (mkF m 28 #[.val (.ref a1), .val (.int p2)] [(.int (8 : Int32)), (.ref a2), (.ref a1)])) rfl (by rw [hml]; rfl) (argsL := [(.ref a2), (.int (8 : Int32))]) (rest := [(.ref a1)]) (lenOf pd___II__I rfl) rfl (by show 2 * 0 + _ ≤ _; exact Nat.le_of_eq rfl) (hb hby d3_28) (fun _ _ => ⟨rfl, e6, (by decide : 0 + 1 ≤ _), (by decide : 0 + 8 ≤ _)⟩)
  dsimp only [Pt.U, Pt.locs, Pt.cells, Pt.slots] at X7 l7 y7 z7 st7 hQ7
  subst l7 y7 z7
  obtain ⟨b_7, kb_7, rfl, N7q, P7_0, P7_1, P7_2, P7_3⟩ := hQ7
  have K7 : Keep h0 T7.heap [a1] := Keep.trans (Keep.refl h0 [a1]) P7_0 all0
  have sz_b_7 : h0.size ≤ b_7 := Nat.le_trans (Keep.refl h0 [a1]).1 P7_2
  have N7 := Fr.app N6 N7q
  refine OwnR.of (st7) ?_
  show OwnR _ _ _ _ _ _ _ (T7.setTop (mkF m 31 #[.val (.ref a1), .val (.int p2)] [(.ref b_7), (.ref a1)]))
  obtain ⟨T8, h8, X8, e8, W8, st8⟩ := putF X7 hx hZ hown (host := "") (Or.inl (hw _ (List.mem_of_getElem? (i := 11) rfl))) Via.refl rfl (F_values_a1.keep P7_0 nin0) (Exa.keep E_a1 K7) (Or.inl (hw _ (List.mem_of_getElem? (i := 12) rfl))) (hw _ (List.mem_of_getElem? (i := 1) rfl)) (ty := (.array .int)) (by decide) rfl rfl (g := (mkF m 31 #[.val (.ref a1), .val (.int p2)] [(.ref b_7), (.ref a1)])) rfl rfl (hb hby d3_31)
  refine OwnR.of (st8) ?_
  have F8 := Fld.same W8 (F_values_a1.keep P7_0 nin0)
  have K8 : Keep h0 h8 [a1] := Keep.wr K7 W8 (Or.inl (List.mem_of_getElem? (i := 0) rfl))
  have N8 := Fr.snoc X8 N7 g_a1
  show OwnR _ _ _ _ _ _ _ (T8.setTop (mkF m 34 #[.val (.ref a1), .val (.int p2)] []))
  refine OwnR.of (fun _ hr => XS.aloadN X8.here hx rfl (hb hby d3_34) rfl rfl hr) ?_
  show OwnR _ _ _ _ _ _ _ (T8.setTop (mkF m 35 #[.val (.ref a1), .val (.int p2)] [(.ref a1)]))
  obtain ⟨T9, X9, e9, st9⟩ := getF X8 hx hZ hown (host := "") (Or.inl (hw _ (List.mem_of_getElem? (i := 11) rfl))) Via.refl e8 F8 (g := (mkF m 35 #[.val (.ref a1), .val (.int p2)] [(.ref a1)])) rfl rfl (hb hby d3_35)
  refine OwnR.of (st9) ?_
  show OwnR _ _ _ _ _ _ _ (T9.setTop (mkF m 38 #[.val (.ref a1), .val (.int p2)] [(.ref b_7)]))
  refine OwnR.of (fun _ hr => XS.aloadN X9.here hx rfl (hb hby d3_38) rfl rfl hr) ?_
  show OwnR _ _ _ _ _ _ _ (T9.setTop (mkF m 39 #[.val (.ref a1), .val (.int p2)] [(.ref a1), (.ref b_7)]))
  obtain ⟨T10, X10, e10, st10⟩ := getF X9 hx hZ hown (host := "") (Or.inl (hw _ (List.mem_of_getElem? (i := 18) rfl))) Via.refl e9 (Fld.other W8 (F_size_a1.keep P7_0 nin0) (Or.inr (slot_ne (Or.inl (hw _ (List.mem_of_getElem? (i := 19) rfl))) (Or.inl (hw _ (List.mem_of_getElem? (i := 12) rfl))) (by decide) (t := .int) (t' := (.array .int)) (by decide) (by decide)))) (g := (mkF m 39 #[.val (.ref a1), .val (.int p2)] [(.ref a1), (.ref b_7)])) rfl rfl (hb hby d3_39)
  refine OwnR.of (st10) ?_
  show OwnR _ _ _ _ _ _ _ (T10.setTop (mkF m 42 #[.val (.ref a1), .val (.int p2)] [(.int (0 : Int32)), (.ref b_7)]))
  refine OwnR.of (fun _ hr => XS.iloadN X10.here hx rfl (hb hby d3_42) rfl hr) ?_
  show OwnR _ _ _ _ _ _ _ (T10.setTop (mkF m 43 #[.val (.ref a1), .val (.int p2)] [(.int p2), (.int (0 : Int32)), (.ref b_7)]))
  obtain ⟨cl11, Ar11, q11, S11, N11q, H11, G11⟩ := id (Arv.other P7_1 W8 (Ne.symm (Nat.ne_of_lt (Nat.lt_of_lt_of_le E_a1.lt P7_2))))
  have hin11 : ¬ ((0 : Int32) < 0 ∨ cl11.slots.size ≤ ((0 : Int32)).toNatClampNeg) := (inb_of S11 ⟨by decide, by decide⟩)
  obtain ⟨T11, h11, X11, e11, W11, st11⟩ := stI X10 hx hZ e10 Ar11 (j := (0 : Int32)) hin11 (g := (mkF m 43 #[.val (.ref a1), .val (.int p2)] [(.int p2), (.int (0 : Int32)), (.ref b_7)])) rfl rfl (hb hby d3_43)
  refine OwnR.of (st11) ?_
  have V11 := Arv.set Ar11 q11 S11 N11q H11 G11 rfl W11 0 rfl (Nat.le_of_ble_eq_true rfl)
  have V11 : Arv Z h11 b_7 kb_7 .int (8 : Int32) [(.int p2), (.int (0 : Int32)), (.int (0 : Int32)), (.int (0 : Int32)), (.int (0 : Int32)), (.int (0 : Int32)), (.int (0 : Int32)), (.int (0 : Int32))] (.int (0 : Int32)) := V11
  have K11 : Keep h0 h11 [a1] := Keep.wr K8 W11 (Or.inr sz_b_7)
  have N11 := Fr.snoc X11 N8 P7_3
  show OwnR _ _ _ _ _ _ _ (T11.setTop (mkF m 44 #[.val (.ref a1), .val (.int p2)] []))
  refine OwnR.of (fun _ hr => XS.aloadN X11.here hx rfl (hb hby d3_44) rfl rfl hr) ?_
  show OwnR _ _ _ _ _ _ _ (T11.setTop (mkF m 45 #[.val (.ref a1), .val (.int p2)] [(.ref a1)]))
  refine OwnR.of (fun _ hr => XS.dup X11.here hx rfl (hb hby d3_45) rfl rfl hr) ?_
  show OwnR _ _ _ _ _ _ _ (T11.setTop (mkF m 46 #[.val (.ref a1), .val (.int p2)] [(.ref a1), (.ref a1)]))
  obtain ⟨T12, X12, e12, st12⟩ := getF X11 hx hZ hown (host := "") (Or.inl (hw _ (List.mem_of_getElem? (i := 18) rfl))) Via.refl e11 (Fld.other W11 (Fld.other W8 (F_size_a1.keep P7_0 nin0) (Or.inr (slot_ne (Or.inl (hw _ (List.mem_of_getElem? (i := 19) rfl))) (Or.inl (hw _ (List.mem_of_getElem? (i := 12) rfl))) (by decide) (t := .int) (t' := (.array .int)) (by decide) (by decide)))) (Or.inl (Nat.ne_of_lt (Nat.lt_of_lt_of_le E_a1.lt P7_2)))) (g := (mkF m 46 #[.val (.ref a1), .val (.int p2)] [(.ref a1), (.ref a1)])) rfl rfl (hb hby d3_46)
  refine OwnR.of (st12) ?_
  show OwnR _ _ _ _ _ _ _ (T12.setTop (mkF m 49 #[.val (.ref a1), .val (.int p2)] [(.int (0 : Int32)), (.ref a1)]))
  refine OwnR.of (fun _ hr => XS.iconst X12.here hx rfl (hb hby d3_49) hr) ?_
  show OwnR _ _ _ _ _ _ _ (T12.setTop (mkF m 50 #[.val (.ref a1), .val (.int p2)] [(.int (1 : Int32)), (.int (0 : Int32)), (.ref a1)]))
  refine OwnR.of (fun _ hr => XS.iadd X12.here hx rfl (hb hby d3_50) rfl hr) ?_
  show OwnR _ _ _ _ _ _ _ (T12.setTop (mkF m 51 #[.val (.ref a1), .val (.int p2)] [(.int ((0 : Int32) + (1 : Int32))), (.ref a1)]))
  rw [(by decide : ((0 : Int32) + (1 : Int32)) = (1 : Int32))]
  show OwnR _ _ _ _ _ _ _ (T12.setTop (mkF m 51 #[.val (.ref a1), .val (.int p2)] [(.int (1 : Int32)), (.ref a1)]))
  obtain ⟨T13, h13, X13, e13, W13, st13⟩ := putF X12 hx hZ hown (host := "") (Or.inl (hw _ (List.mem_of_getElem? (i := 18) rfl))) Via.refl e12 (Fld.other W11 (Fld.other W8 (F_size_a1.keep P7_0 nin0) (Or.inr (slot_ne (Or.inl (hw _ (List.mem_of_getElem? (i := 19) rfl))) (Or.inl (hw _ (List.mem_of_getElem? (i := 12) rfl))) (by decide) (t := .int) (t' := (.array .int)) (by decide) (by decide)))) (Or.inl (Nat.ne_of_lt (Nat.lt_of_lt_of_le E_a1.lt P7_2)))) (Exa.keep E_a1 K11) (Or.inl (hw _ (List.mem_of_getElem? (i := 19) rfl))) (hw _ (List.mem_of_getElem? (i := 1) rfl)) (ty := .int) (by decide) rfl rfl (g := (mkF m 51 #[.val (.ref a1), .val (.int p2)] [(.int (1 : Int32)), (.ref a1)])) rfl rfl (hb hby d3_51)
  refine OwnR.of (st13) ?_
  have F13 := Fld.same W13 (Fld.other W11 (Fld.other W8 (F_size_a1.keep P7_0 nin0) (Or.inr (slot_ne (Or.inl (hw _ (List.mem_of_getElem? (i := 19) rfl))) (Or.inl (hw _ (List.mem_of_getElem? (i := 12) rfl))) (by decide) (t := .int) (t' := (.array .int)) (by decide) (by decide)))) (Or.inl (Nat.ne_of_lt (Nat.lt_of_lt_of_le E_a1.lt P7_2))))
  have K13 : Keep h0 h13 [a1] := Keep.wr K11 W13 (Or.inl (List.mem_of_getElem? (i := 0) rfl))
  have N13 := Fr.snoc X13 N11 g_a1
  show OwnR _ _ _ _ _ _ _ (T13.setTop (mkF m 54 #[.val (.ref a1), .val (.int p2)] []))
  refine own_leafV X13 hx hlk Bd.returns (hb hby d3_54) (by decide) (by decide) ?_
  show Q3_0 Z a1 p2 h0 n0 _ T13.heap _
  rw [show T13.heap = h13 from e13]
  refine ⟨b_7, kb_7, rfl, N13, ⟨K13, (Exa.keep E_a1 K13), (Fld.other W13 (Fld.other W11 F8 (Or.inl (Nat.ne_of_lt (Nat.lt_of_lt_of_le E_a1.lt P7_2)))) (Or.inr (slot_ne (Or.inl (hw _ (List.mem_of_getElem? (i := 12) rfl))) (Or.inl (hw _ (List.mem_of_getElem? (i := 19) rfl))) (by decide) (t := (.array .int)) (t' := .int) (by decide) (by decide)))), F13, (Arv.other V11 W13 (Ne.symm (Nat.ne_of_lt (Nat.lt_of_lt_of_le E_a1.lt P7_2)))), sz_b_7, P7_3⟩⟩
theorem ef_rm3_1 (m : MethodId) (x0 : Addr) (x1 : Int32) : entryFrame m #[(.ref x0), (.int x1)] 2 = mkF m 0 #[.val (.ref x0), .val (.int x1)] [] := by first | (simp [entryFrame, mkF, argsToLocals, Value.category]; done) | rfl
def Q3_1 (Z : State) (a1 : Addr) (p2 : Int32) (a2 : Addr) (k2 : ClassId) (x0 : Int32) (h0 : Heap) (n0 : Nat) (v : Option Value) (h : Heap) (L : List Loc) : Prop := v = none ∧ Fr n0 L ∧ Keep h0 h [a1, a2] ∧ Exa Z h a1 "com/example/fast_taxonomy/fasttaxonomy/calculus/IntList" ∧ Fld Z h a1 "com/example/fast_taxonomy/fasttaxonomy/calculus/IntList" "values" "[I" (.ref a2) ∧ Fld Z h a1 "com/example/fast_taxonomy/fasttaxonomy/calculus/IntList" "size" "I" (.int (2 : Int32)) ∧ Arv Z h a2 k2 .int (8 : Int32) [(.int x0), (.int p2), (.int (0 : Int32)), (.int (0 : Int32)), (.int (0 : Int32)), (.int (0 : Int32)), (.int (0 : Int32)), (.int (0 : Int32))] (.int (0 : Int32))
set_option maxRecDepth 65536 in
set_option maxHeartbeats 40000000 in
theorem rm3_1 (l : Launch) (Z : State) (a0 : Array Value) (hw : ∀ d ∈ tables_1, d.before a0 Z = true) (ws : List Jvm.Cond) (a1 : Addr) (p2 : Int32) (a2 : Addr) (k2 : ClassId) (x0 : Int32) (h0 : Heap) (n0 : Nat) (Z0 : n0 ≤ h0.size) (E_a1 : Exa Z h0 a1 "com/example/fast_taxonomy/fasttaxonomy/calculus/IntList") (F_values_a1 : Fld Z h0 a1 "com/example/fast_taxonomy/fasttaxonomy/calculus/IntList" "values" "[I" (.ref a2)) (F_size_a1 : Fld Z h0 a1 "com/example/fast_taxonomy/fasttaxonomy/calculus/IntList" "size" "I" (.int (1 : Int32))) (V_a2 : Arv Z h0 a2 k2 .int (8 : Int32) [(.int x0), (.int (0 : Int32)), (.int (0 : Int32)), (.int (0 : Int32)), (.int (0 : Int32)), (.int (0 : Int32)), (.int (0 : Int32)), (.int (0 : Int32))] (.int (0 : Int32))) (g_a1 : n0 ≤ a1) (g_a2 : n0 ≤ a2) (ne_12 : a1 ≠ a2) :
    MetFree l (⟨"com/example/fast_taxonomy/fasttaxonomy/calculus/IntList", "add", "(I)V"⟩ : MethodName) (head1 (Jvm.Cond.code (⟨"com/example/fast_taxonomy/fasttaxonomy/calculus/IntList", "add", "(I)V"⟩ : MethodName) prog_4_method_3_code 2 none :: ws) ({ frames := 0, cells := 0, slots := 0, locals := 0 } : Room)) (fun a U => a = #[(.ref a1), (.int p2)] ∧ Z.Warmed39 U.vm ∧ U.heap = h0) (fun _ _ _ _ _ => True) (fun _ U o U' => ∃ v L, o = .returned v ∧ Q3_1 Z a1 p2 a2 k2 x0 h0 n0 v U'.heap L ∧ FrameEnd U o U' L ({ frames := 0, cells := 0, slots := 0, locals := 0 } : Room).cells ({ frames := 0, cells := 0, slots := 0, locals := 0 } : Room).slots) := by
  refine MetFree.of_bodySF (plainFor_of_name pn_com_example_fast_taxonomy_fasttaxonomy_calculus_IntList) hisR ?_
  intro p e s m args below meth c s₁ Bd hml0 hP hK
  obtain ⟨rfl, hZ, hh⟩ := hP
  have hx := Bd.exec
  have hby := Bd.bytes
  have hlk := BodyLoose.notSynchronized Bd
  have hml : c.maxLocals = 2 := hml0
  have hown : s.vm.findClass "com/example/fast_taxonomy/fasttaxonomy/calculus/IntList" = some m.cls := findClass_of_methodNamed Bd.named
  have hnm := (name_of_methodNamed Bd.named Bd.method).1
  have X0 : Stand p l e ({ frames := 0, cells := 0, slots := 0, locals := 0 } : Room) s m #[(.ref a1), (.int p2)] below meth c s₁ [] 0 0 := Stand.of_body Bd
  have e0 : s₁.heap = h0 := by rw [← hh, Bd.state]; rfl
  have N0 := Fr.nil n0
  refine OwnR.of (s := s) (Q := Q3_1 Z a1 p2 a2 k2 x0 h0 n0) (fun t k => castTop (ef_rm3_1 m a1 p2) k) ?_
  show OwnR _ _ _ _ _ _ _ (s₁.setTop (mkF m 0 #[.val (.ref a1), .val (.int p2)] []))
  refine OwnR.of (fun _ hr => XS.aloadN X0.here hx rfl (hb hby d3_0) rfl rfl hr) ?_
  show OwnR _ _ _ _ _ _ _ (s₁.setTop (mkF m 1 #[.val (.ref a1), .val (.int p2)] [(.ref a1)]))
  obtain ⟨T1, X1, e1, st1⟩ := getF X0 hx hZ hown (host := "") (Or.inl (hw _ (List.mem_of_getElem? (i := 18) rfl))) Via.refl e0 F_size_a1 (g := (mkF m 1 #[.val (.ref a1), .val (.int p2)] [(.ref a1)])) rfl rfl (hb hby d3_1)
  refine OwnR.of (st1) ?_
  show OwnR _ _ _ _ _ _ _ (T1.setTop (mkF m 4 #[.val (.ref a1), .val (.int p2)] [(.int (1 : Int32))]))
  refine OwnR.of (fun _ hr => XS.aloadN X1.here hx rfl (hb hby d3_4) rfl rfl hr) ?_
  show OwnR _ _ _ _ _ _ _ (T1.setTop (mkF m 5 #[.val (.ref a1), .val (.int p2)] [(.ref a1), (.int (1 : Int32))]))
  obtain ⟨T2, X2, e2, st2⟩ := getF X1 hx hZ hown (host := "") (Or.inl (hw _ (List.mem_of_getElem? (i := 11) rfl))) Via.refl e1 F_values_a1 (g := (mkF m 5 #[.val (.ref a1), .val (.int p2)] [(.ref a1), (.int (1 : Int32))])) rfl rfl (hb hby d3_5)
  refine OwnR.of (st2) ?_
  show OwnR _ _ _ _ _ _ _ (T2.setTop (mkF m 8 #[.val (.ref a1), .val (.int p2)] [(.ref a2), (.int (1 : Int32))]))
  obtain ⟨cl3, Ar3, -, S3, N3, -, -⟩ := id V_a2
  refine OwnR.of (X2.arraylength hx (by rw [e2]; exact Ar3.1) (State.isArrayOf_alike hZ.alike Ar3.2.1) (g := (mkF m 8 #[.val (.ref a1), .val (.int p2)] [(.ref a2), (.int (1 : Int32))])) rfl rfl (hb hby d3_8)) ?_
  show OwnR _ _ _ _ _ _ _ (T2.setTop (mkF m 9 #[.val (.ref a1), .val (.int p2)] [(.int cl3.slots.size.toInt32), (.int (1 : Int32))]))
  rw [len_of S3 N3]
  show OwnR _ _ _ _ _ _ _ (T2.setTop (mkF m 9 #[.val (.ref a1), .val (.int p2)] [(.int (8 : Int32)), (.int (1 : Int32))]))
  refine OwnR.of (fun _ hr => XS.icmpYes X2.here hx rfl (pc0 := 9) (pc' := 34) rfl (hb hby d3_9) rfl (feq (by decide : ¬ ((1 : Int32) = (8 : Int32)))).2 (by decide) (by decide) hr) ?_
  show OwnR _ _ _ _ _ _ _ (T2.setTop (mkF m 34 #[.val (.ref a1), .val (.int p2)] []))
  refine OwnR.of (fun _ hr => XS.aloadN X2.here hx rfl (hb hby d3_34) rfl rfl hr) ?_
  show OwnR _ _ _ _ _ _ _ (T2.setTop (mkF m 35 #[.val (.ref a1), .val (.int p2)] [(.ref a1)]))
  obtain ⟨T4, X4, e4, st4⟩ := getF X2 hx hZ hown (host := "") (Or.inl (hw _ (List.mem_of_getElem? (i := 11) rfl))) Via.refl e2 F_values_a1 (g := (mkF m 35 #[.val (.ref a1), .val (.int p2)] [(.ref a1)])) rfl rfl (hb hby d3_35)
  refine OwnR.of (st4) ?_
  show OwnR _ _ _ _ _ _ _ (T4.setTop (mkF m 38 #[.val (.ref a1), .val (.int p2)] [(.ref a2)]))
  refine OwnR.of (fun _ hr => XS.aloadN X4.here hx rfl (hb hby d3_38) rfl rfl hr) ?_
  show OwnR _ _ _ _ _ _ _ (T4.setTop (mkF m 39 #[.val (.ref a1), .val (.int p2)] [(.ref a1), (.ref a2)]))
  obtain ⟨T5, X5, e5, st5⟩ := getF X4 hx hZ hown (host := "") (Or.inl (hw _ (List.mem_of_getElem? (i := 18) rfl))) Via.refl e4 F_size_a1 (g := (mkF m 39 #[.val (.ref a1), .val (.int p2)] [(.ref a1), (.ref a2)])) rfl rfl (hb hby d3_39)
  refine OwnR.of (st5) ?_
  show OwnR _ _ _ _ _ _ _ (T5.setTop (mkF m 42 #[.val (.ref a1), .val (.int p2)] [(.int (1 : Int32)), (.ref a2)]))
  refine OwnR.of (fun _ hr => XS.iloadN X5.here hx rfl (hb hby d3_42) rfl hr) ?_
  show OwnR _ _ _ _ _ _ _ (T5.setTop (mkF m 43 #[.val (.ref a1), .val (.int p2)] [(.int p2), (.int (1 : Int32)), (.ref a2)]))
  obtain ⟨cl6, Ar6, q6, S6, N6q, H6, G6⟩ := id V_a2
  have hin6 : ¬ ((1 : Int32) < 0 ∨ cl6.slots.size ≤ ((1 : Int32)).toNatClampNeg) := (inb_of S6 ⟨by decide, by decide⟩)
  obtain ⟨T6, h6, X6, e6, W6, st6⟩ := stI X5 hx hZ e5 Ar6 (j := (1 : Int32)) hin6 (g := (mkF m 43 #[.val (.ref a1), .val (.int p2)] [(.int p2), (.int (1 : Int32)), (.ref a2)])) rfl rfl (hb hby d3_43)
  refine OwnR.of (st6) ?_
  have V6 := Arv.set Ar6 q6 S6 N6q H6 G6 rfl W6 1 rfl (Nat.le_of_ble_eq_true rfl)
  have V6 : Arv Z h6 a2 k2 .int (8 : Int32) [(.int x0), (.int p2), (.int (0 : Int32)), (.int (0 : Int32)), (.int (0 : Int32)), (.int (0 : Int32)), (.int (0 : Int32)), (.int (0 : Int32))] (.int (0 : Int32)) := V6
  have K6 : Keep h0 h6 [a1, a2] := Keep.wr (Keep.refl h0 [a1, a2]) W6 (Or.inl (List.mem_of_getElem? (i := 1) rfl))
  have N6 := Fr.snoc X6 N0 g_a2
  show OwnR _ _ _ _ _ _ _ (T6.setTop (mkF m 44 #[.val (.ref a1), .val (.int p2)] []))
  refine OwnR.of (fun _ hr => XS.aloadN X6.here hx rfl (hb hby d3_44) rfl rfl hr) ?_
  show OwnR _ _ _ _ _ _ _ (T6.setTop (mkF m 45 #[.val (.ref a1), .val (.int p2)] [(.ref a1)]))
  refine OwnR.of (fun _ hr => XS.dup X6.here hx rfl (hb hby d3_45) rfl rfl hr) ?_
  show OwnR _ _ _ _ _ _ _ (T6.setTop (mkF m 46 #[.val (.ref a1), .val (.int p2)] [(.ref a1), (.ref a1)]))
  obtain ⟨T7, X7, e7, st7⟩ := getF X6 hx hZ hown (host := "") (Or.inl (hw _ (List.mem_of_getElem? (i := 18) rfl))) Via.refl e6 (Fld.other W6 F_size_a1 (Or.inl ne_12)) (g := (mkF m 46 #[.val (.ref a1), .val (.int p2)] [(.ref a1), (.ref a1)])) rfl rfl (hb hby d3_46)
  refine OwnR.of (st7) ?_
  show OwnR _ _ _ _ _ _ _ (T7.setTop (mkF m 49 #[.val (.ref a1), .val (.int p2)] [(.int (1 : Int32)), (.ref a1)]))
  refine OwnR.of (fun _ hr => XS.iconst X7.here hx rfl (hb hby d3_49) hr) ?_
  show OwnR _ _ _ _ _ _ _ (T7.setTop (mkF m 50 #[.val (.ref a1), .val (.int p2)] [(.int (1 : Int32)), (.int (1 : Int32)), (.ref a1)]))
  refine OwnR.of (fun _ hr => XS.iadd X7.here hx rfl (hb hby d3_50) rfl hr) ?_
  show OwnR _ _ _ _ _ _ _ (T7.setTop (mkF m 51 #[.val (.ref a1), .val (.int p2)] [(.int ((1 : Int32) + (1 : Int32))), (.ref a1)]))
  rw [(by decide : ((1 : Int32) + (1 : Int32)) = (2 : Int32))]
  show OwnR _ _ _ _ _ _ _ (T7.setTop (mkF m 51 #[.val (.ref a1), .val (.int p2)] [(.int (2 : Int32)), (.ref a1)]))
  obtain ⟨T8, h8, X8, e8, W8, st8⟩ := putF X7 hx hZ hown (host := "") (Or.inl (hw _ (List.mem_of_getElem? (i := 18) rfl))) Via.refl e7 (Fld.other W6 F_size_a1 (Or.inl ne_12)) (Exa.keep E_a1 K6) (Or.inl (hw _ (List.mem_of_getElem? (i := 19) rfl))) (hw _ (List.mem_of_getElem? (i := 1) rfl)) (ty := .int) (by decide) rfl rfl (g := (mkF m 51 #[.val (.ref a1), .val (.int p2)] [(.int (2 : Int32)), (.ref a1)])) rfl rfl (hb hby d3_51)
  refine OwnR.of (st8) ?_
  have F8 := Fld.same W8 (Fld.other W6 F_size_a1 (Or.inl ne_12))
  have K8 : Keep h0 h8 [a1, a2] := Keep.wr K6 W8 (Or.inl (List.mem_of_getElem? (i := 0) rfl))
  have N8 := Fr.snoc X8 N6 g_a1
  show OwnR _ _ _ _ _ _ _ (T8.setTop (mkF m 54 #[.val (.ref a1), .val (.int p2)] []))
  refine own_leafV X8 hx hlk Bd.returns (hb hby d3_54) (by decide) (by decide) ?_
  show Q3_1 Z a1 p2 a2 k2 x0 h0 n0 _ T8.heap _
  rw [show T8.heap = h8 from e8]
  refine ⟨rfl, N8, ⟨K8, (Exa.keep E_a1 K8), (Fld.other W8 (Fld.other W6 F_values_a1 (Or.inl ne_12)) (Or.inr (slot_ne (Or.inl (hw _ (List.mem_of_getElem? (i := 12) rfl))) (Or.inl (hw _ (List.mem_of_getElem? (i := 19) rfl))) (by decide) (t := (.array .int)) (t' := .int) (by decide) (by decide)))), F8, (Arv.other V6 W8 (Ne.symm ne_12))⟩⟩
theorem ef_rm3_2 (m : MethodId) (x0 : Addr) (x1 : Int32) : entryFrame m #[(.ref x0), (.int x1)] 2 = mkF m 0 #[.val (.ref x0), .val (.int x1)] [] := by first | (simp [entryFrame, mkF, argsToLocals, Value.category]; done) | rfl
def Q3_2 (Z : State) (a1 : Addr) (p2 : Int32) (a2 : Addr) (k2 : ClassId) (x0 : Int32) (x1 : Int32) (h0 : Heap) (n0 : Nat) (v : Option Value) (h : Heap) (L : List Loc) : Prop := v = none ∧ Fr n0 L ∧ Keep h0 h [a1, a2] ∧ Exa Z h a1 "com/example/fast_taxonomy/fasttaxonomy/calculus/IntList" ∧ Fld Z h a1 "com/example/fast_taxonomy/fasttaxonomy/calculus/IntList" "values" "[I" (.ref a2) ∧ Fld Z h a1 "com/example/fast_taxonomy/fasttaxonomy/calculus/IntList" "size" "I" (.int (3 : Int32)) ∧ Arv Z h a2 k2 .int (8 : Int32) [(.int x0), (.int x1), (.int p2), (.int (0 : Int32)), (.int (0 : Int32)), (.int (0 : Int32)), (.int (0 : Int32)), (.int (0 : Int32))] (.int (0 : Int32))
set_option maxRecDepth 65536 in
set_option maxHeartbeats 40000000 in
theorem rm3_2 (l : Launch) (Z : State) (a0 : Array Value) (hw : ∀ d ∈ tables_1, d.before a0 Z = true) (ws : List Jvm.Cond) (a1 : Addr) (p2 : Int32) (a2 : Addr) (k2 : ClassId) (x0 x1 : Int32) (h0 : Heap) (n0 : Nat) (Z0 : n0 ≤ h0.size) (E_a1 : Exa Z h0 a1 "com/example/fast_taxonomy/fasttaxonomy/calculus/IntList") (F_values_a1 : Fld Z h0 a1 "com/example/fast_taxonomy/fasttaxonomy/calculus/IntList" "values" "[I" (.ref a2)) (F_size_a1 : Fld Z h0 a1 "com/example/fast_taxonomy/fasttaxonomy/calculus/IntList" "size" "I" (.int (2 : Int32))) (V_a2 : Arv Z h0 a2 k2 .int (8 : Int32) [(.int x0), (.int x1), (.int (0 : Int32)), (.int (0 : Int32)), (.int (0 : Int32)), (.int (0 : Int32)), (.int (0 : Int32)), (.int (0 : Int32))] (.int (0 : Int32))) (g_a1 : n0 ≤ a1) (g_a2 : n0 ≤ a2) (ne_12 : a1 ≠ a2) :
    MetFree l (⟨"com/example/fast_taxonomy/fasttaxonomy/calculus/IntList", "add", "(I)V"⟩ : MethodName) (head1 (Jvm.Cond.code (⟨"com/example/fast_taxonomy/fasttaxonomy/calculus/IntList", "add", "(I)V"⟩ : MethodName) prog_4_method_3_code 2 none :: ws) ({ frames := 0, cells := 0, slots := 0, locals := 0 } : Room)) (fun a U => a = #[(.ref a1), (.int p2)] ∧ Z.Warmed39 U.vm ∧ U.heap = h0) (fun _ _ _ _ _ => True) (fun _ U o U' => ∃ v L, o = .returned v ∧ Q3_2 Z a1 p2 a2 k2 x0 x1 h0 n0 v U'.heap L ∧ FrameEnd U o U' L ({ frames := 0, cells := 0, slots := 0, locals := 0 } : Room).cells ({ frames := 0, cells := 0, slots := 0, locals := 0 } : Room).slots) := by
  refine MetFree.of_bodySF (plainFor_of_name pn_com_example_fast_taxonomy_fasttaxonomy_calculus_IntList) hisR ?_
  intro p e s m args below meth c s₁ Bd hml0 hP hK
  obtain ⟨rfl, hZ, hh⟩ := hP
  have hx := Bd.exec
  have hby := Bd.bytes
  have hlk := BodyLoose.notSynchronized Bd
  have hml : c.maxLocals = 2 := hml0
  have hown : s.vm.findClass "com/example/fast_taxonomy/fasttaxonomy/calculus/IntList" = some m.cls := findClass_of_methodNamed Bd.named
  have hnm := (name_of_methodNamed Bd.named Bd.method).1
  have X0 : Stand p l e ({ frames := 0, cells := 0, slots := 0, locals := 0 } : Room) s m #[(.ref a1), (.int p2)] below meth c s₁ [] 0 0 := Stand.of_body Bd
  have e0 : s₁.heap = h0 := by rw [← hh, Bd.state]; rfl
  have N0 := Fr.nil n0
  refine OwnR.of (s := s) (Q := Q3_2 Z a1 p2 a2 k2 x0 x1 h0 n0) (fun t k => castTop (ef_rm3_2 m a1 p2) k) ?_
  show OwnR _ _ _ _ _ _ _ (s₁.setTop (mkF m 0 #[.val (.ref a1), .val (.int p2)] []))
  refine OwnR.of (fun _ hr => XS.aloadN X0.here hx rfl (hb hby d3_0) rfl rfl hr) ?_
  show OwnR _ _ _ _ _ _ _ (s₁.setTop (mkF m 1 #[.val (.ref a1), .val (.int p2)] [(.ref a1)]))
  obtain ⟨T1, X1, e1, st1⟩ := getF X0 hx hZ hown (host := "") (Or.inl (hw _ (List.mem_of_getElem? (i := 18) rfl))) Via.refl e0 F_size_a1 (g := (mkF m 1 #[.val (.ref a1), .val (.int p2)] [(.ref a1)])) rfl rfl (hb hby d3_1)
  refine OwnR.of (st1) ?_
  show OwnR _ _ _ _ _ _ _ (T1.setTop (mkF m 4 #[.val (.ref a1), .val (.int p2)] [(.int (2 : Int32))]))
  refine OwnR.of (fun _ hr => XS.aloadN X1.here hx rfl (hb hby d3_4) rfl rfl hr) ?_
  show OwnR _ _ _ _ _ _ _ (T1.setTop (mkF m 5 #[.val (.ref a1), .val (.int p2)] [(.ref a1), (.int (2 : Int32))]))
  obtain ⟨T2, X2, e2, st2⟩ := getF X1 hx hZ hown (host := "") (Or.inl (hw _ (List.mem_of_getElem? (i := 11) rfl))) Via.refl e1 F_values_a1 (g := (mkF m 5 #[.val (.ref a1), .val (.int p2)] [(.ref a1), (.int (2 : Int32))])) rfl rfl (hb hby d3_5)
  refine OwnR.of (st2) ?_
  show OwnR _ _ _ _ _ _ _ (T2.setTop (mkF m 8 #[.val (.ref a1), .val (.int p2)] [(.ref a2), (.int (2 : Int32))]))
  obtain ⟨cl3, Ar3, -, S3, N3, -, -⟩ := id V_a2
  refine OwnR.of (X2.arraylength hx (by rw [e2]; exact Ar3.1) (State.isArrayOf_alike hZ.alike Ar3.2.1) (g := (mkF m 8 #[.val (.ref a1), .val (.int p2)] [(.ref a2), (.int (2 : Int32))])) rfl rfl (hb hby d3_8)) ?_
  show OwnR _ _ _ _ _ _ _ (T2.setTop (mkF m 9 #[.val (.ref a1), .val (.int p2)] [(.int cl3.slots.size.toInt32), (.int (2 : Int32))]))
  rw [len_of S3 N3]
  show OwnR _ _ _ _ _ _ _ (T2.setTop (mkF m 9 #[.val (.ref a1), .val (.int p2)] [(.int (8 : Int32)), (.int (2 : Int32))]))
  refine OwnR.of (fun _ hr => XS.icmpYes X2.here hx rfl (pc0 := 9) (pc' := 34) rfl (hb hby d3_9) rfl (feq (by decide : ¬ ((2 : Int32) = (8 : Int32)))).2 (by decide) (by decide) hr) ?_
  show OwnR _ _ _ _ _ _ _ (T2.setTop (mkF m 34 #[.val (.ref a1), .val (.int p2)] []))
  refine OwnR.of (fun _ hr => XS.aloadN X2.here hx rfl (hb hby d3_34) rfl rfl hr) ?_
  show OwnR _ _ _ _ _ _ _ (T2.setTop (mkF m 35 #[.val (.ref a1), .val (.int p2)] [(.ref a1)]))
  obtain ⟨T4, X4, e4, st4⟩ := getF X2 hx hZ hown (host := "") (Or.inl (hw _ (List.mem_of_getElem? (i := 11) rfl))) Via.refl e2 F_values_a1 (g := (mkF m 35 #[.val (.ref a1), .val (.int p2)] [(.ref a1)])) rfl rfl (hb hby d3_35)
  refine OwnR.of (st4) ?_
  show OwnR _ _ _ _ _ _ _ (T4.setTop (mkF m 38 #[.val (.ref a1), .val (.int p2)] [(.ref a2)]))
  refine OwnR.of (fun _ hr => XS.aloadN X4.here hx rfl (hb hby d3_38) rfl rfl hr) ?_
  show OwnR _ _ _ _ _ _ _ (T4.setTop (mkF m 39 #[.val (.ref a1), .val (.int p2)] [(.ref a1), (.ref a2)]))
  obtain ⟨T5, X5, e5, st5⟩ := getF X4 hx hZ hown (host := "") (Or.inl (hw _ (List.mem_of_getElem? (i := 18) rfl))) Via.refl e4 F_size_a1 (g := (mkF m 39 #[.val (.ref a1), .val (.int p2)] [(.ref a1), (.ref a2)])) rfl rfl (hb hby d3_39)
  refine OwnR.of (st5) ?_
  show OwnR _ _ _ _ _ _ _ (T5.setTop (mkF m 42 #[.val (.ref a1), .val (.int p2)] [(.int (2 : Int32)), (.ref a2)]))
  refine OwnR.of (fun _ hr => XS.iloadN X5.here hx rfl (hb hby d3_42) rfl hr) ?_
  show OwnR _ _ _ _ _ _ _ (T5.setTop (mkF m 43 #[.val (.ref a1), .val (.int p2)] [(.int p2), (.int (2 : Int32)), (.ref a2)]))
  obtain ⟨cl6, Ar6, q6, S6, N6q, H6, G6⟩ := id V_a2
  have hin6 : ¬ ((2 : Int32) < 0 ∨ cl6.slots.size ≤ ((2 : Int32)).toNatClampNeg) := (inb_of S6 ⟨by decide, by decide⟩)
  obtain ⟨T6, h6, X6, e6, W6, st6⟩ := stI X5 hx hZ e5 Ar6 (j := (2 : Int32)) hin6 (g := (mkF m 43 #[.val (.ref a1), .val (.int p2)] [(.int p2), (.int (2 : Int32)), (.ref a2)])) rfl rfl (hb hby d3_43)
  refine OwnR.of (st6) ?_
  have V6 := Arv.set Ar6 q6 S6 N6q H6 G6 rfl W6 2 rfl (Nat.le_of_ble_eq_true rfl)
  have V6 : Arv Z h6 a2 k2 .int (8 : Int32) [(.int x0), (.int x1), (.int p2), (.int (0 : Int32)), (.int (0 : Int32)), (.int (0 : Int32)), (.int (0 : Int32)), (.int (0 : Int32))] (.int (0 : Int32)) := V6
  have K6 : Keep h0 h6 [a1, a2] := Keep.wr (Keep.refl h0 [a1, a2]) W6 (Or.inl (List.mem_of_getElem? (i := 1) rfl))
  have N6 := Fr.snoc X6 N0 g_a2
  show OwnR _ _ _ _ _ _ _ (T6.setTop (mkF m 44 #[.val (.ref a1), .val (.int p2)] []))
  refine OwnR.of (fun _ hr => XS.aloadN X6.here hx rfl (hb hby d3_44) rfl rfl hr) ?_
  show OwnR _ _ _ _ _ _ _ (T6.setTop (mkF m 45 #[.val (.ref a1), .val (.int p2)] [(.ref a1)]))
  refine OwnR.of (fun _ hr => XS.dup X6.here hx rfl (hb hby d3_45) rfl rfl hr) ?_
  show OwnR _ _ _ _ _ _ _ (T6.setTop (mkF m 46 #[.val (.ref a1), .val (.int p2)] [(.ref a1), (.ref a1)]))
  obtain ⟨T7, X7, e7, st7⟩ := getF X6 hx hZ hown (host := "") (Or.inl (hw _ (List.mem_of_getElem? (i := 18) rfl))) Via.refl e6 (Fld.other W6 F_size_a1 (Or.inl ne_12)) (g := (mkF m 46 #[.val (.ref a1), .val (.int p2)] [(.ref a1), (.ref a1)])) rfl rfl (hb hby d3_46)
  refine OwnR.of (st7) ?_
  show OwnR _ _ _ _ _ _ _ (T7.setTop (mkF m 49 #[.val (.ref a1), .val (.int p2)] [(.int (2 : Int32)), (.ref a1)]))
  refine OwnR.of (fun _ hr => XS.iconst X7.here hx rfl (hb hby d3_49) hr) ?_
  show OwnR _ _ _ _ _ _ _ (T7.setTop (mkF m 50 #[.val (.ref a1), .val (.int p2)] [(.int (1 : Int32)), (.int (2 : Int32)), (.ref a1)]))
  refine OwnR.of (fun _ hr => XS.iadd X7.here hx rfl (hb hby d3_50) rfl hr) ?_
  show OwnR _ _ _ _ _ _ _ (T7.setTop (mkF m 51 #[.val (.ref a1), .val (.int p2)] [(.int ((2 : Int32) + (1 : Int32))), (.ref a1)]))
  rw [(by decide : ((2 : Int32) + (1 : Int32)) = (3 : Int32))]
  show OwnR _ _ _ _ _ _ _ (T7.setTop (mkF m 51 #[.val (.ref a1), .val (.int p2)] [(.int (3 : Int32)), (.ref a1)]))
  obtain ⟨T8, h8, X8, e8, W8, st8⟩ := putF X7 hx hZ hown (host := "") (Or.inl (hw _ (List.mem_of_getElem? (i := 18) rfl))) Via.refl e7 (Fld.other W6 F_size_a1 (Or.inl ne_12)) (Exa.keep E_a1 K6) (Or.inl (hw _ (List.mem_of_getElem? (i := 19) rfl))) (hw _ (List.mem_of_getElem? (i := 1) rfl)) (ty := .int) (by decide) rfl rfl (g := (mkF m 51 #[.val (.ref a1), .val (.int p2)] [(.int (3 : Int32)), (.ref a1)])) rfl rfl (hb hby d3_51)
  refine OwnR.of (st8) ?_
  have F8 := Fld.same W8 (Fld.other W6 F_size_a1 (Or.inl ne_12))
  have K8 : Keep h0 h8 [a1, a2] := Keep.wr K6 W8 (Or.inl (List.mem_of_getElem? (i := 0) rfl))
  have N8 := Fr.snoc X8 N6 g_a1
  show OwnR _ _ _ _ _ _ _ (T8.setTop (mkF m 54 #[.val (.ref a1), .val (.int p2)] []))
  refine own_leafV X8 hx hlk Bd.returns (hb hby d3_54) (by decide) (by decide) ?_
  show Q3_2 Z a1 p2 a2 k2 x0 x1 h0 n0 _ T8.heap _
  rw [show T8.heap = h8 from e8]
  refine ⟨rfl, N8, ⟨K8, (Exa.keep E_a1 K8), (Fld.other W8 (Fld.other W6 F_values_a1 (Or.inl ne_12)) (Or.inr (slot_ne (Or.inl (hw _ (List.mem_of_getElem? (i := 12) rfl))) (Or.inl (hw _ (List.mem_of_getElem? (i := 19) rfl))) (by decide) (t := (.array .int)) (t' := .int) (by decide) (by decide)))), F8, (Arv.other V6 W8 (Ne.symm ne_12))⟩⟩
theorem ef_rm3_3 (m : MethodId) (x0 : Addr) (x1 : Int32) : entryFrame m #[(.ref x0), (.int x1)] 2 = mkF m 0 #[.val (.ref x0), .val (.int x1)] [] := by first | (simp [entryFrame, mkF, argsToLocals, Value.category]; done) | rfl
def Q3_3 (Z : State) (a1 : Addr) (p2 : Int32) (a2 : Addr) (k2 : ClassId) (x0 : Int32) (x1 : Int32) (x2 : Int32) (h0 : Heap) (n0 : Nat) (v : Option Value) (h : Heap) (L : List Loc) : Prop := v = none ∧ Fr n0 L ∧ Keep h0 h [a1, a2] ∧ Exa Z h a1 "com/example/fast_taxonomy/fasttaxonomy/calculus/IntList" ∧ Fld Z h a1 "com/example/fast_taxonomy/fasttaxonomy/calculus/IntList" "values" "[I" (.ref a2) ∧ Fld Z h a1 "com/example/fast_taxonomy/fasttaxonomy/calculus/IntList" "size" "I" (.int (4 : Int32)) ∧ Arv Z h a2 k2 .int (8 : Int32) [(.int x0), (.int x1), (.int x2), (.int p2), (.int (0 : Int32)), (.int (0 : Int32)), (.int (0 : Int32)), (.int (0 : Int32))] (.int (0 : Int32))
set_option maxRecDepth 65536 in
set_option maxHeartbeats 40000000 in
theorem rm3_3 (l : Launch) (Z : State) (a0 : Array Value) (hw : ∀ d ∈ tables_1, d.before a0 Z = true) (ws : List Jvm.Cond) (a1 : Addr) (p2 : Int32) (a2 : Addr) (k2 : ClassId) (x0 x1 x2 : Int32) (h0 : Heap) (n0 : Nat) (Z0 : n0 ≤ h0.size) (E_a1 : Exa Z h0 a1 "com/example/fast_taxonomy/fasttaxonomy/calculus/IntList") (F_values_a1 : Fld Z h0 a1 "com/example/fast_taxonomy/fasttaxonomy/calculus/IntList" "values" "[I" (.ref a2)) (F_size_a1 : Fld Z h0 a1 "com/example/fast_taxonomy/fasttaxonomy/calculus/IntList" "size" "I" (.int (3 : Int32))) (V_a2 : Arv Z h0 a2 k2 .int (8 : Int32) [(.int x0), (.int x1), (.int x2), (.int (0 : Int32)), (.int (0 : Int32)), (.int (0 : Int32)), (.int (0 : Int32)), (.int (0 : Int32))] (.int (0 : Int32))) (g_a1 : n0 ≤ a1) (g_a2 : n0 ≤ a2) (ne_12 : a1 ≠ a2) :
    MetFree l (⟨"com/example/fast_taxonomy/fasttaxonomy/calculus/IntList", "add", "(I)V"⟩ : MethodName) (head1 (Jvm.Cond.code (⟨"com/example/fast_taxonomy/fasttaxonomy/calculus/IntList", "add", "(I)V"⟩ : MethodName) prog_4_method_3_code 2 none :: ws) ({ frames := 0, cells := 0, slots := 0, locals := 0 } : Room)) (fun a U => a = #[(.ref a1), (.int p2)] ∧ Z.Warmed39 U.vm ∧ U.heap = h0) (fun _ _ _ _ _ => True) (fun _ U o U' => ∃ v L, o = .returned v ∧ Q3_3 Z a1 p2 a2 k2 x0 x1 x2 h0 n0 v U'.heap L ∧ FrameEnd U o U' L ({ frames := 0, cells := 0, slots := 0, locals := 0 } : Room).cells ({ frames := 0, cells := 0, slots := 0, locals := 0 } : Room).slots) := by
  refine MetFree.of_bodySF (plainFor_of_name pn_com_example_fast_taxonomy_fasttaxonomy_calculus_IntList) hisR ?_
  intro p e s m args below meth c s₁ Bd hml0 hP hK
  obtain ⟨rfl, hZ, hh⟩ := hP
  have hx := Bd.exec
  have hby := Bd.bytes
  have hlk := BodyLoose.notSynchronized Bd
  have hml : c.maxLocals = 2 := hml0
  have hown : s.vm.findClass "com/example/fast_taxonomy/fasttaxonomy/calculus/IntList" = some m.cls := findClass_of_methodNamed Bd.named
  have hnm := (name_of_methodNamed Bd.named Bd.method).1
  have X0 : Stand p l e ({ frames := 0, cells := 0, slots := 0, locals := 0 } : Room) s m #[(.ref a1), (.int p2)] below meth c s₁ [] 0 0 := Stand.of_body Bd
  have e0 : s₁.heap = h0 := by rw [← hh, Bd.state]; rfl
  have N0 := Fr.nil n0
  refine OwnR.of (s := s) (Q := Q3_3 Z a1 p2 a2 k2 x0 x1 x2 h0 n0) (fun t k => castTop (ef_rm3_3 m a1 p2) k) ?_
  show OwnR _ _ _ _ _ _ _ (s₁.setTop (mkF m 0 #[.val (.ref a1), .val (.int p2)] []))
  refine OwnR.of (fun _ hr => XS.aloadN X0.here hx rfl (hb hby d3_0) rfl rfl hr) ?_
  show OwnR _ _ _ _ _ _ _ (s₁.setTop (mkF m 1 #[.val (.ref a1), .val (.int p2)] [(.ref a1)]))
  obtain ⟨T1, X1, e1, st1⟩ := getF X0 hx hZ hown (host := "") (Or.inl (hw _ (List.mem_of_getElem? (i := 18) rfl))) Via.refl e0 F_size_a1 (g := (mkF m 1 #[.val (.ref a1), .val (.int p2)] [(.ref a1)])) rfl rfl (hb hby d3_1)
  refine OwnR.of (st1) ?_
  show OwnR _ _ _ _ _ _ _ (T1.setTop (mkF m 4 #[.val (.ref a1), .val (.int p2)] [(.int (3 : Int32))]))
  refine OwnR.of (fun _ hr => XS.aloadN X1.here hx rfl (hb hby d3_4) rfl rfl hr) ?_
  show OwnR _ _ _ _ _ _ _ (T1.setTop (mkF m 5 #[.val (.ref a1), .val (.int p2)] [(.ref a1), (.int (3 : Int32))]))
  obtain ⟨T2, X2, e2, st2⟩ := getF X1 hx hZ hown (host := "") (Or.inl (hw _ (List.mem_of_getElem? (i := 11) rfl))) Via.refl e1 F_values_a1 (g := (mkF m 5 #[.val (.ref a1), .val (.int p2)] [(.ref a1), (.int (3 : Int32))])) rfl rfl (hb hby d3_5)
  refine OwnR.of (st2) ?_
  show OwnR _ _ _ _ _ _ _ (T2.setTop (mkF m 8 #[.val (.ref a1), .val (.int p2)] [(.ref a2), (.int (3 : Int32))]))
  obtain ⟨cl3, Ar3, -, S3, N3, -, -⟩ := id V_a2
  refine OwnR.of (X2.arraylength hx (by rw [e2]; exact Ar3.1) (State.isArrayOf_alike hZ.alike Ar3.2.1) (g := (mkF m 8 #[.val (.ref a1), .val (.int p2)] [(.ref a2), (.int (3 : Int32))])) rfl rfl (hb hby d3_8)) ?_
  show OwnR _ _ _ _ _ _ _ (T2.setTop (mkF m 9 #[.val (.ref a1), .val (.int p2)] [(.int cl3.slots.size.toInt32), (.int (3 : Int32))]))
  rw [len_of S3 N3]
  show OwnR _ _ _ _ _ _ _ (T2.setTop (mkF m 9 #[.val (.ref a1), .val (.int p2)] [(.int (8 : Int32)), (.int (3 : Int32))]))
  refine OwnR.of (fun _ hr => XS.icmpYes X2.here hx rfl (pc0 := 9) (pc' := 34) rfl (hb hby d3_9) rfl (feq (by decide : ¬ ((3 : Int32) = (8 : Int32)))).2 (by decide) (by decide) hr) ?_
  show OwnR _ _ _ _ _ _ _ (T2.setTop (mkF m 34 #[.val (.ref a1), .val (.int p2)] []))
  refine OwnR.of (fun _ hr => XS.aloadN X2.here hx rfl (hb hby d3_34) rfl rfl hr) ?_
  show OwnR _ _ _ _ _ _ _ (T2.setTop (mkF m 35 #[.val (.ref a1), .val (.int p2)] [(.ref a1)]))
  obtain ⟨T4, X4, e4, st4⟩ := getF X2 hx hZ hown (host := "") (Or.inl (hw _ (List.mem_of_getElem? (i := 11) rfl))) Via.refl e2 F_values_a1 (g := (mkF m 35 #[.val (.ref a1), .val (.int p2)] [(.ref a1)])) rfl rfl (hb hby d3_35)
  refine OwnR.of (st4) ?_
  show OwnR _ _ _ _ _ _ _ (T4.setTop (mkF m 38 #[.val (.ref a1), .val (.int p2)] [(.ref a2)]))
  refine OwnR.of (fun _ hr => XS.aloadN X4.here hx rfl (hb hby d3_38) rfl rfl hr) ?_
  show OwnR _ _ _ _ _ _ _ (T4.setTop (mkF m 39 #[.val (.ref a1), .val (.int p2)] [(.ref a1), (.ref a2)]))
  obtain ⟨T5, X5, e5, st5⟩ := getF X4 hx hZ hown (host := "") (Or.inl (hw _ (List.mem_of_getElem? (i := 18) rfl))) Via.refl e4 F_size_a1 (g := (mkF m 39 #[.val (.ref a1), .val (.int p2)] [(.ref a1), (.ref a2)])) rfl rfl (hb hby d3_39)
  refine OwnR.of (st5) ?_
  show OwnR _ _ _ _ _ _ _ (T5.setTop (mkF m 42 #[.val (.ref a1), .val (.int p2)] [(.int (3 : Int32)), (.ref a2)]))
  refine OwnR.of (fun _ hr => XS.iloadN X5.here hx rfl (hb hby d3_42) rfl hr) ?_
  show OwnR _ _ _ _ _ _ _ (T5.setTop (mkF m 43 #[.val (.ref a1), .val (.int p2)] [(.int p2), (.int (3 : Int32)), (.ref a2)]))
  obtain ⟨cl6, Ar6, q6, S6, N6q, H6, G6⟩ := id V_a2
  have hin6 : ¬ ((3 : Int32) < 0 ∨ cl6.slots.size ≤ ((3 : Int32)).toNatClampNeg) := (inb_of S6 ⟨by decide, by decide⟩)
  obtain ⟨T6, h6, X6, e6, W6, st6⟩ := stI X5 hx hZ e5 Ar6 (j := (3 : Int32)) hin6 (g := (mkF m 43 #[.val (.ref a1), .val (.int p2)] [(.int p2), (.int (3 : Int32)), (.ref a2)])) rfl rfl (hb hby d3_43)
  refine OwnR.of (st6) ?_
  have V6 := Arv.set Ar6 q6 S6 N6q H6 G6 rfl W6 3 rfl (Nat.le_of_ble_eq_true rfl)
  have V6 : Arv Z h6 a2 k2 .int (8 : Int32) [(.int x0), (.int x1), (.int x2), (.int p2), (.int (0 : Int32)), (.int (0 : Int32)), (.int (0 : Int32)), (.int (0 : Int32))] (.int (0 : Int32)) := V6
  have K6 : Keep h0 h6 [a1, a2] := Keep.wr (Keep.refl h0 [a1, a2]) W6 (Or.inl (List.mem_of_getElem? (i := 1) rfl))
  have N6 := Fr.snoc X6 N0 g_a2
  show OwnR _ _ _ _ _ _ _ (T6.setTop (mkF m 44 #[.val (.ref a1), .val (.int p2)] []))
  refine OwnR.of (fun _ hr => XS.aloadN X6.here hx rfl (hb hby d3_44) rfl rfl hr) ?_
  show OwnR _ _ _ _ _ _ _ (T6.setTop (mkF m 45 #[.val (.ref a1), .val (.int p2)] [(.ref a1)]))
  refine OwnR.of (fun _ hr => XS.dup X6.here hx rfl (hb hby d3_45) rfl rfl hr) ?_
  show OwnR _ _ _ _ _ _ _ (T6.setTop (mkF m 46 #[.val (.ref a1), .val (.int p2)] [(.ref a1), (.ref a1)]))
  obtain ⟨T7, X7, e7, st7⟩ := getF X6 hx hZ hown (host := "") (Or.inl (hw _ (List.mem_of_getElem? (i := 18) rfl))) Via.refl e6 (Fld.other W6 F_size_a1 (Or.inl ne_12)) (g := (mkF m 46 #[.val (.ref a1), .val (.int p2)] [(.ref a1), (.ref a1)])) rfl rfl (hb hby d3_46)
  refine OwnR.of (st7) ?_
  show OwnR _ _ _ _ _ _ _ (T7.setTop (mkF m 49 #[.val (.ref a1), .val (.int p2)] [(.int (3 : Int32)), (.ref a1)]))
  refine OwnR.of (fun _ hr => XS.iconst X7.here hx rfl (hb hby d3_49) hr) ?_
  show OwnR _ _ _ _ _ _ _ (T7.setTop (mkF m 50 #[.val (.ref a1), .val (.int p2)] [(.int (1 : Int32)), (.int (3 : Int32)), (.ref a1)]))
  refine OwnR.of (fun _ hr => XS.iadd X7.here hx rfl (hb hby d3_50) rfl hr) ?_
  show OwnR _ _ _ _ _ _ _ (T7.setTop (mkF m 51 #[.val (.ref a1), .val (.int p2)] [(.int ((3 : Int32) + (1 : Int32))), (.ref a1)]))
  rw [(by decide : ((3 : Int32) + (1 : Int32)) = (4 : Int32))]
  show OwnR _ _ _ _ _ _ _ (T7.setTop (mkF m 51 #[.val (.ref a1), .val (.int p2)] [(.int (4 : Int32)), (.ref a1)]))
  obtain ⟨T8, h8, X8, e8, W8, st8⟩ := putF X7 hx hZ hown (host := "") (Or.inl (hw _ (List.mem_of_getElem? (i := 18) rfl))) Via.refl e7 (Fld.other W6 F_size_a1 (Or.inl ne_12)) (Exa.keep E_a1 K6) (Or.inl (hw _ (List.mem_of_getElem? (i := 19) rfl))) (hw _ (List.mem_of_getElem? (i := 1) rfl)) (ty := .int) (by decide) rfl rfl (g := (mkF m 51 #[.val (.ref a1), .val (.int p2)] [(.int (4 : Int32)), (.ref a1)])) rfl rfl (hb hby d3_51)
  refine OwnR.of (st8) ?_
  have F8 := Fld.same W8 (Fld.other W6 F_size_a1 (Or.inl ne_12))
  have K8 : Keep h0 h8 [a1, a2] := Keep.wr K6 W8 (Or.inl (List.mem_of_getElem? (i := 0) rfl))
  have N8 := Fr.snoc X8 N6 g_a1
  show OwnR _ _ _ _ _ _ _ (T8.setTop (mkF m 54 #[.val (.ref a1), .val (.int p2)] []))
  refine own_leafV X8 hx hlk Bd.returns (hb hby d3_54) (by decide) (by decide) ?_
  show Q3_3 Z a1 p2 a2 k2 x0 x1 x2 h0 n0 _ T8.heap _
  rw [show T8.heap = h8 from e8]
  refine ⟨rfl, N8, ⟨K8, (Exa.keep E_a1 K8), (Fld.other W8 (Fld.other W6 F_values_a1 (Or.inl ne_12)) (Or.inr (slot_ne (Or.inl (hw _ (List.mem_of_getElem? (i := 12) rfl))) (Or.inl (hw _ (List.mem_of_getElem? (i := 19) rfl))) (by decide) (t := (.array .int)) (t' := .int) (by decide) (by decide)))), F8, (Arv.other V6 W8 (Ne.symm ne_12))⟩⟩
theorem ef_rm7_1 (m : MethodId) (x0 : Addr) : entryFrame m #[(.ref x0)] 1 = mkF m 0 #[.val (.ref x0)] [] := by first | (simp [entryFrame, mkF, argsToLocals, Value.category]; done) | rfl
theorem d7_0 : decode prog_4_method_6_code 0 = .ok (.aload_n 0, 1) := by decide +kernel
theorem d7_1 : decode prog_4_method_6_code 1 = .ok (.dup, 1) := by decide +kernel
theorem d7_2 : decode prog_4_method_6_code 2 = .ok (.getfield 28, 3) := by decide +kernel
theorem d7_5 : decode prog_4_method_6_code 5 = .ok (.iconst 1, 1) := by decide +kernel
theorem d7_6 : decode prog_4_method_6_code 6 = .ok (.isub, 1) := by decide +kernel
theorem d7_7 : decode prog_4_method_6_code 7 = .ok (.putfield 28, 3) := by decide +kernel
theorem d7_10 : decode prog_4_method_6_code 10 = .ok (.aload_n 0, 1) := by decide +kernel
theorem d7_11 : decode prog_4_method_6_code 11 = .ok (.getfield 13, 3) := by decide +kernel
theorem d7_14 : decode prog_4_method_6_code 14 = .ok (.aload_n 0, 1) := by decide +kernel
theorem d7_15 : decode prog_4_method_6_code 15 = .ok (.getfield 28, 3) := by decide +kernel
theorem d7_18 : decode prog_4_method_6_code 18 = .ok (.iaload, 1) := by decide +kernel
theorem d7_19 : decode prog_4_method_6_code 19 = .ok (.ireturn, 1) := by decide +kernel
def Q7_1 (Z : State) (a1 : Addr) (a2 : Addr) (x0 : Int32) (h0 : Heap) (n0 : Nat) (v : Option Value) (h : Heap) (L : List Loc) : Prop := v = some (.int x0) ∧ Fr n0 L ∧ Keep h0 h [a1] ∧ Exa Z h a1 "com/example/fast_taxonomy/fasttaxonomy/calculus/IntList" ∧ Fld Z h a1 "com/example/fast_taxonomy/fasttaxonomy/calculus/IntList" "values" "[I" (.ref a2) ∧ Fld Z h a1 "com/example/fast_taxonomy/fasttaxonomy/calculus/IntList" "size" "I" (.int (0 : Int32))
set_option maxRecDepth 65536 in
set_option maxHeartbeats 40000000 in
theorem rm7_1 (l : Launch) (Z : State) (a0 : Array Value) (hw : ∀ d ∈ tables_1, d.before a0 Z = true) (ws : List Jvm.Cond) (a1 : Addr) (a2 : Addr) (k2 : ClassId) (x0 x1 x2 x3 : Int32) (h0 : Heap) (n0 : Nat) (Z0 : n0 ≤ h0.size) (E_a1 : Exa Z h0 a1 "com/example/fast_taxonomy/fasttaxonomy/calculus/IntList") (F_values_a1 : Fld Z h0 a1 "com/example/fast_taxonomy/fasttaxonomy/calculus/IntList" "values" "[I" (.ref a2)) (F_size_a1 : Fld Z h0 a1 "com/example/fast_taxonomy/fasttaxonomy/calculus/IntList" "size" "I" (.int (1 : Int32))) (V_a2 : Arv Z h0 a2 k2 .int (8 : Int32) [(.int x0), (.int x1), (.int x2), (.int x3), (.int (0 : Int32)), (.int (0 : Int32)), (.int (0 : Int32)), (.int (0 : Int32))] (.int (0 : Int32))) (g_a1 : n0 ≤ a1) (ne_12 : a1 ≠ a2) :
    MetFree l (⟨"com/example/fast_taxonomy/fasttaxonomy/calculus/IntList", "removeLast", "()I"⟩ : MethodName) (head1 (Jvm.Cond.code (⟨"com/example/fast_taxonomy/fasttaxonomy/calculus/IntList", "removeLast", "()I"⟩ : MethodName) prog_4_method_6_code 1 (some .int) :: ws) ({ frames := 0, cells := 0, slots := 0, locals := 0 } : Room)) (fun a U => a = #[(.ref a1)] ∧ Z.Warmed39 U.vm ∧ U.heap = h0) (fun _ _ _ _ _ => True) (fun _ U o U' => ∃ v L, o = .returned v ∧ Q7_1 Z a1 a2 x0 h0 n0 v U'.heap L ∧ FrameEnd U o U' L ({ frames := 0, cells := 0, slots := 0, locals := 0 } : Room).cells ({ frames := 0, cells := 0, slots := 0, locals := 0 } : Room).slots) := by
  refine MetFree.of_bodySF (plainFor_of_name pn_com_example_fast_taxonomy_fasttaxonomy_calculus_IntList) hisR ?_
  intro p e s m args below meth c s₁ Bd hml0 hP hK
  obtain ⟨rfl, hZ, hh⟩ := hP
  have hx := Bd.exec
  have hby := Bd.bytes
  have hlk := BodyLoose.notSynchronized Bd
  have hml : c.maxLocals = 1 := hml0
  have hown : s.vm.findClass "com/example/fast_taxonomy/fasttaxonomy/calculus/IntList" = some m.cls := findClass_of_methodNamed Bd.named
  have hnm := (name_of_methodNamed Bd.named Bd.method).1
  have X0 : Stand p l e ({ frames := 0, cells := 0, slots := 0, locals := 0 } : Room) s m #[(.ref a1)] below meth c s₁ [] 0 0 := Stand.of_body Bd
  have e0 : s₁.heap = h0 := by rw [← hh, Bd.state]; rfl
  have N0 := Fr.nil n0
  refine OwnR.of (s := s) (Q := Q7_1 Z a1 a2 x0 h0 n0) (fun t k => castTop (ef_rm7_1 m a1) k) ?_
  show OwnR _ _ _ _ _ _ _ (s₁.setTop (mkF m 0 #[.val (.ref a1)] []))
  refine OwnR.of (fun _ hr => XS.aloadN X0.here hx rfl (hb hby d7_0) rfl rfl hr) ?_
  show OwnR _ _ _ _ _ _ _ (s₁.setTop (mkF m 1 #[.val (.ref a1)] [(.ref a1)]))
  refine OwnR.of (fun _ hr => XS.dup X0.here hx rfl (hb hby d7_1) rfl rfl hr) ?_
  show OwnR _ _ _ _ _ _ _ (s₁.setTop (mkF m 2 #[.val (.ref a1)] [(.ref a1), (.ref a1)]))
  obtain ⟨T1, X1, e1, st1⟩ := getF X0 hx hZ hown (host := "") (Or.inl (hw _ (List.mem_of_getElem? (i := 18) rfl))) Via.refl e0 F_size_a1 (g := (mkF m 2 #[.val (.ref a1)] [(.ref a1), (.ref a1)])) rfl rfl (hb hby d7_2)
  refine OwnR.of (st1) ?_
  show OwnR _ _ _ _ _ _ _ (T1.setTop (mkF m 5 #[.val (.ref a1)] [(.int (1 : Int32)), (.ref a1)]))
  refine OwnR.of (fun _ hr => XS.iconst X1.here hx rfl (hb hby d7_5) hr) ?_
  show OwnR _ _ _ _ _ _ _ (T1.setTop (mkF m 6 #[.val (.ref a1)] [(.int (1 : Int32)), (.int (1 : Int32)), (.ref a1)]))
  refine OwnR.of (fun _ hr => XS.isub X1.here hx rfl (hb hby d7_6) rfl hr) ?_
  show OwnR _ _ _ _ _ _ _ (T1.setTop (mkF m 7 #[.val (.ref a1)] [(.int ((1 : Int32) - (1 : Int32))), (.ref a1)]))
  rw [(by decide : ((1 : Int32) - (1 : Int32)) = (0 : Int32))]
  show OwnR _ _ _ _ _ _ _ (T1.setTop (mkF m 7 #[.val (.ref a1)] [(.int (0 : Int32)), (.ref a1)]))
  obtain ⟨T2, h2, X2, e2, W2, st2⟩ := putF X1 hx hZ hown (host := "") (Or.inl (hw _ (List.mem_of_getElem? (i := 18) rfl))) Via.refl e1 F_size_a1 E_a1 (Or.inl (hw _ (List.mem_of_getElem? (i := 19) rfl))) (hw _ (List.mem_of_getElem? (i := 1) rfl)) (ty := .int) (by decide) rfl rfl (g := (mkF m 7 #[.val (.ref a1)] [(.int (0 : Int32)), (.ref a1)])) rfl rfl (hb hby d7_7)
  refine OwnR.of (st2) ?_
  have F2 := Fld.same W2 F_size_a1
  have K2 : Keep h0 h2 [a1] := Keep.wr (Keep.refl h0 [a1]) W2 (Or.inl (List.mem_of_getElem? (i := 0) rfl))
  have N2 := Fr.snoc X2 N0 g_a1
  show OwnR _ _ _ _ _ _ _ (T2.setTop (mkF m 10 #[.val (.ref a1)] []))
  refine OwnR.of (fun _ hr => XS.aloadN X2.here hx rfl (hb hby d7_10) rfl rfl hr) ?_
  show OwnR _ _ _ _ _ _ _ (T2.setTop (mkF m 11 #[.val (.ref a1)] [(.ref a1)]))
  obtain ⟨T3, X3, e3, st3⟩ := getF X2 hx hZ hown (host := "") (Or.inl (hw _ (List.mem_of_getElem? (i := 11) rfl))) Via.refl e2 (Fld.other W2 F_values_a1 (Or.inr (slot_ne (Or.inl (hw _ (List.mem_of_getElem? (i := 12) rfl))) (Or.inl (hw _ (List.mem_of_getElem? (i := 19) rfl))) (by decide) (t := (.array .int)) (t' := .int) (by decide) (by decide)))) (g := (mkF m 11 #[.val (.ref a1)] [(.ref a1)])) rfl rfl (hb hby d7_11)
  refine OwnR.of (st3) ?_
  show OwnR _ _ _ _ _ _ _ (T3.setTop (mkF m 14 #[.val (.ref a1)] [(.ref a2)]))
  refine OwnR.of (fun _ hr => XS.aloadN X3.here hx rfl (hb hby d7_14) rfl rfl hr) ?_
  show OwnR _ _ _ _ _ _ _ (T3.setTop (mkF m 15 #[.val (.ref a1)] [(.ref a1), (.ref a2)]))
  obtain ⟨T4, X4, e4, st4⟩ := getF X3 hx hZ hown (host := "") (Or.inl (hw _ (List.mem_of_getElem? (i := 18) rfl))) Via.refl e3 F2 (g := (mkF m 15 #[.val (.ref a1)] [(.ref a1), (.ref a2)])) rfl rfl (hb hby d7_15)
  refine OwnR.of (st4) ?_
  show OwnR _ _ _ _ _ _ _ (T4.setTop (mkF m 18 #[.val (.ref a1)] [(.int (0 : Int32)), (.ref a2)]))
  obtain ⟨cl5, Ar5, -, S5, N5, H5, G5⟩ := id (Arv.keep V_a2 K2 (ninS (Ne.symm ne_12) nin0))
  have hin5 : ¬ ((0 : Int32) < 0 ∨ cl5.slots.size ≤ ((0 : Int32)).toNatClampNeg) := (inb_of S5 ⟨by decide, by decide⟩)
  refine OwnR.of (X4.iaload hx (j := (0 : Int32)) (v := (.int x0)) (by rw [e4]; exact Ar5.1) (State.isArrayOf_alike hZ.alike Ar5.2.1) Ar5.2.2 hin5 (Has.at H5 hin5 rfl) (g := (mkF m 18 #[.val (.ref a1)] [(.int (0 : Int32)), (.ref a2)])) rfl rfl (hb hby d7_18)) ?_
  show OwnR _ _ _ _ _ _ _ (T4.setTop (mkF m 19 #[.val (.ref a1)] [(.int x0)]))
  refine own_leafI X4 hx hlk Bd.returns (hb hby d7_19) (by decide) (by decide) ?_
  show Q7_1 Z a1 a2 x0 h0 n0 _ T4.heap _
  rw [show T4.heap = h2 from e4]
  refine ⟨?_, N2, ⟨K2, (Exa.keep E_a1 K2), (Fld.other W2 F_values_a1 (Or.inr (slot_ne (Or.inl (hw _ (List.mem_of_getElem? (i := 12) rfl))) (Or.inl (hw _ (List.mem_of_getElem? (i := 19) rfl))) (by decide) (t := (.array .int)) (t' := .int) (by decide) (by decide)))), F2⟩⟩
  show (some (.int x0) : Option Value) = some (.int x0)
  rfl
theorem ef_rm7_2 (m : MethodId) (x0 : Addr) : entryFrame m #[(.ref x0)] 1 = mkF m 0 #[.val (.ref x0)] [] := by first | (simp [entryFrame, mkF, argsToLocals, Value.category]; done) | rfl
def Q7_2 (Z : State) (a1 : Addr) (a2 : Addr) (x1 : Int32) (h0 : Heap) (n0 : Nat) (v : Option Value) (h : Heap) (L : List Loc) : Prop := v = some (.int x1) ∧ Fr n0 L ∧ Keep h0 h [a1] ∧ Exa Z h a1 "com/example/fast_taxonomy/fasttaxonomy/calculus/IntList" ∧ Fld Z h a1 "com/example/fast_taxonomy/fasttaxonomy/calculus/IntList" "values" "[I" (.ref a2) ∧ Fld Z h a1 "com/example/fast_taxonomy/fasttaxonomy/calculus/IntList" "size" "I" (.int (1 : Int32))
set_option maxRecDepth 65536 in
set_option maxHeartbeats 40000000 in
theorem rm7_2 (l : Launch) (Z : State) (a0 : Array Value) (hw : ∀ d ∈ tables_1, d.before a0 Z = true) (ws : List Jvm.Cond) (a1 : Addr) (a2 : Addr) (k2 : ClassId) (x0 x1 x2 x3 : Int32) (h0 : Heap) (n0 : Nat) (Z0 : n0 ≤ h0.size) (E_a1 : Exa Z h0 a1 "com/example/fast_taxonomy/fasttaxonomy/calculus/IntList") (F_values_a1 : Fld Z h0 a1 "com/example/fast_taxonomy/fasttaxonomy/calculus/IntList" "values" "[I" (.ref a2)) (F_size_a1 : Fld Z h0 a1 "com/example/fast_taxonomy/fasttaxonomy/calculus/IntList" "size" "I" (.int (2 : Int32))) (V_a2 : Arv Z h0 a2 k2 .int (8 : Int32) [(.int x0), (.int x1), (.int x2), (.int x3), (.int (0 : Int32)), (.int (0 : Int32)), (.int (0 : Int32)), (.int (0 : Int32))] (.int (0 : Int32))) (g_a1 : n0 ≤ a1) (ne_12 : a1 ≠ a2) :
    MetFree l (⟨"com/example/fast_taxonomy/fasttaxonomy/calculus/IntList", "removeLast", "()I"⟩ : MethodName) (head1 (Jvm.Cond.code (⟨"com/example/fast_taxonomy/fasttaxonomy/calculus/IntList", "removeLast", "()I"⟩ : MethodName) prog_4_method_6_code 1 (some .int) :: ws) ({ frames := 0, cells := 0, slots := 0, locals := 0 } : Room)) (fun a U => a = #[(.ref a1)] ∧ Z.Warmed39 U.vm ∧ U.heap = h0) (fun _ _ _ _ _ => True) (fun _ U o U' => ∃ v L, o = .returned v ∧ Q7_2 Z a1 a2 x1 h0 n0 v U'.heap L ∧ FrameEnd U o U' L ({ frames := 0, cells := 0, slots := 0, locals := 0 } : Room).cells ({ frames := 0, cells := 0, slots := 0, locals := 0 } : Room).slots) := by
  refine MetFree.of_bodySF (plainFor_of_name pn_com_example_fast_taxonomy_fasttaxonomy_calculus_IntList) hisR ?_
  intro p e s m args below meth c s₁ Bd hml0 hP hK
  obtain ⟨rfl, hZ, hh⟩ := hP
  have hx := Bd.exec
  have hby := Bd.bytes
  have hlk := BodyLoose.notSynchronized Bd
  have hml : c.maxLocals = 1 := hml0
  have hown : s.vm.findClass "com/example/fast_taxonomy/fasttaxonomy/calculus/IntList" = some m.cls := findClass_of_methodNamed Bd.named
  have hnm := (name_of_methodNamed Bd.named Bd.method).1
  have X0 : Stand p l e ({ frames := 0, cells := 0, slots := 0, locals := 0 } : Room) s m #[(.ref a1)] below meth c s₁ [] 0 0 := Stand.of_body Bd
  have e0 : s₁.heap = h0 := by rw [← hh, Bd.state]; rfl
  have N0 := Fr.nil n0
  refine OwnR.of (s := s) (Q := Q7_2 Z a1 a2 x1 h0 n0) (fun t k => castTop (ef_rm7_2 m a1) k) ?_
  show OwnR _ _ _ _ _ _ _ (s₁.setTop (mkF m 0 #[.val (.ref a1)] []))
  refine OwnR.of (fun _ hr => XS.aloadN X0.here hx rfl (hb hby d7_0) rfl rfl hr) ?_
  show OwnR _ _ _ _ _ _ _ (s₁.setTop (mkF m 1 #[.val (.ref a1)] [(.ref a1)]))
  refine OwnR.of (fun _ hr => XS.dup X0.here hx rfl (hb hby d7_1) rfl rfl hr) ?_
  show OwnR _ _ _ _ _ _ _ (s₁.setTop (mkF m 2 #[.val (.ref a1)] [(.ref a1), (.ref a1)]))
  obtain ⟨T1, X1, e1, st1⟩ := getF X0 hx hZ hown (host := "") (Or.inl (hw _ (List.mem_of_getElem? (i := 18) rfl))) Via.refl e0 F_size_a1 (g := (mkF m 2 #[.val (.ref a1)] [(.ref a1), (.ref a1)])) rfl rfl (hb hby d7_2)
  refine OwnR.of (st1) ?_
  show OwnR _ _ _ _ _ _ _ (T1.setTop (mkF m 5 #[.val (.ref a1)] [(.int (2 : Int32)), (.ref a1)]))
  refine OwnR.of (fun _ hr => XS.iconst X1.here hx rfl (hb hby d7_5) hr) ?_
  show OwnR _ _ _ _ _ _ _ (T1.setTop (mkF m 6 #[.val (.ref a1)] [(.int (1 : Int32)), (.int (2 : Int32)), (.ref a1)]))
  refine OwnR.of (fun _ hr => XS.isub X1.here hx rfl (hb hby d7_6) rfl hr) ?_
  show OwnR _ _ _ _ _ _ _ (T1.setTop (mkF m 7 #[.val (.ref a1)] [(.int ((2 : Int32) - (1 : Int32))), (.ref a1)]))
  rw [(by decide : ((2 : Int32) - (1 : Int32)) = (1 : Int32))]
  show OwnR _ _ _ _ _ _ _ (T1.setTop (mkF m 7 #[.val (.ref a1)] [(.int (1 : Int32)), (.ref a1)]))
  obtain ⟨T2, h2, X2, e2, W2, st2⟩ := putF X1 hx hZ hown (host := "") (Or.inl (hw _ (List.mem_of_getElem? (i := 18) rfl))) Via.refl e1 F_size_a1 E_a1 (Or.inl (hw _ (List.mem_of_getElem? (i := 19) rfl))) (hw _ (List.mem_of_getElem? (i := 1) rfl)) (ty := .int) (by decide) rfl rfl (g := (mkF m 7 #[.val (.ref a1)] [(.int (1 : Int32)), (.ref a1)])) rfl rfl (hb hby d7_7)
  refine OwnR.of (st2) ?_
  have F2 := Fld.same W2 F_size_a1
  have K2 : Keep h0 h2 [a1] := Keep.wr (Keep.refl h0 [a1]) W2 (Or.inl (List.mem_of_getElem? (i := 0) rfl))
  have N2 := Fr.snoc X2 N0 g_a1
  show OwnR _ _ _ _ _ _ _ (T2.setTop (mkF m 10 #[.val (.ref a1)] []))
  refine OwnR.of (fun _ hr => XS.aloadN X2.here hx rfl (hb hby d7_10) rfl rfl hr) ?_
  show OwnR _ _ _ _ _ _ _ (T2.setTop (mkF m 11 #[.val (.ref a1)] [(.ref a1)]))
  obtain ⟨T3, X3, e3, st3⟩ := getF X2 hx hZ hown (host := "") (Or.inl (hw _ (List.mem_of_getElem? (i := 11) rfl))) Via.refl e2 (Fld.other W2 F_values_a1 (Or.inr (slot_ne (Or.inl (hw _ (List.mem_of_getElem? (i := 12) rfl))) (Or.inl (hw _ (List.mem_of_getElem? (i := 19) rfl))) (by decide) (t := (.array .int)) (t' := .int) (by decide) (by decide)))) (g := (mkF m 11 #[.val (.ref a1)] [(.ref a1)])) rfl rfl (hb hby d7_11)
  refine OwnR.of (st3) ?_
  show OwnR _ _ _ _ _ _ _ (T3.setTop (mkF m 14 #[.val (.ref a1)] [(.ref a2)]))
  refine OwnR.of (fun _ hr => XS.aloadN X3.here hx rfl (hb hby d7_14) rfl rfl hr) ?_
  show OwnR _ _ _ _ _ _ _ (T3.setTop (mkF m 15 #[.val (.ref a1)] [(.ref a1), (.ref a2)]))
  obtain ⟨T4, X4, e4, st4⟩ := getF X3 hx hZ hown (host := "") (Or.inl (hw _ (List.mem_of_getElem? (i := 18) rfl))) Via.refl e3 F2 (g := (mkF m 15 #[.val (.ref a1)] [(.ref a1), (.ref a2)])) rfl rfl (hb hby d7_15)
  refine OwnR.of (st4) ?_
  show OwnR _ _ _ _ _ _ _ (T4.setTop (mkF m 18 #[.val (.ref a1)] [(.int (1 : Int32)), (.ref a2)]))
  obtain ⟨cl5, Ar5, -, S5, N5, H5, G5⟩ := id (Arv.keep V_a2 K2 (ninS (Ne.symm ne_12) nin0))
  have hin5 : ¬ ((1 : Int32) < 0 ∨ cl5.slots.size ≤ ((1 : Int32)).toNatClampNeg) := (inb_of S5 ⟨by decide, by decide⟩)
  refine OwnR.of (X4.iaload hx (j := (1 : Int32)) (v := (.int x1)) (by rw [e4]; exact Ar5.1) (State.isArrayOf_alike hZ.alike Ar5.2.1) Ar5.2.2 hin5 (Has.at H5 hin5 rfl) (g := (mkF m 18 #[.val (.ref a1)] [(.int (1 : Int32)), (.ref a2)])) rfl rfl (hb hby d7_18)) ?_
  show OwnR _ _ _ _ _ _ _ (T4.setTop (mkF m 19 #[.val (.ref a1)] [(.int x1)]))
  refine own_leafI X4 hx hlk Bd.returns (hb hby d7_19) (by decide) (by decide) ?_
  show Q7_2 Z a1 a2 x1 h0 n0 _ T4.heap _
  rw [show T4.heap = h2 from e4]
  refine ⟨?_, N2, ⟨K2, (Exa.keep E_a1 K2), (Fld.other W2 F_values_a1 (Or.inr (slot_ne (Or.inl (hw _ (List.mem_of_getElem? (i := 12) rfl))) (Or.inl (hw _ (List.mem_of_getElem? (i := 19) rfl))) (by decide) (t := (.array .int)) (t' := .int) (by decide) (by decide)))), F2⟩⟩
  show (some (.int x1) : Option Value) = some (.int x1)
  rfl
theorem ef_rm7_3 (m : MethodId) (x0 : Addr) : entryFrame m #[(.ref x0)] 1 = mkF m 0 #[.val (.ref x0)] [] := by first | (simp [entryFrame, mkF, argsToLocals, Value.category]; done) | rfl
def Q7_3 (Z : State) (a1 : Addr) (a2 : Addr) (x2 : Int32) (h0 : Heap) (n0 : Nat) (v : Option Value) (h : Heap) (L : List Loc) : Prop := v = some (.int x2) ∧ Fr n0 L ∧ Keep h0 h [a1] ∧ Exa Z h a1 "com/example/fast_taxonomy/fasttaxonomy/calculus/IntList" ∧ Fld Z h a1 "com/example/fast_taxonomy/fasttaxonomy/calculus/IntList" "values" "[I" (.ref a2) ∧ Fld Z h a1 "com/example/fast_taxonomy/fasttaxonomy/calculus/IntList" "size" "I" (.int (2 : Int32))
set_option maxRecDepth 65536 in
set_option maxHeartbeats 40000000 in
theorem rm7_3 (l : Launch) (Z : State) (a0 : Array Value) (hw : ∀ d ∈ tables_1, d.before a0 Z = true) (ws : List Jvm.Cond) (a1 : Addr) (a2 : Addr) (k2 : ClassId) (x0 x1 x2 x3 : Int32) (h0 : Heap) (n0 : Nat) (Z0 : n0 ≤ h0.size) (E_a1 : Exa Z h0 a1 "com/example/fast_taxonomy/fasttaxonomy/calculus/IntList") (F_values_a1 : Fld Z h0 a1 "com/example/fast_taxonomy/fasttaxonomy/calculus/IntList" "values" "[I" (.ref a2)) (F_size_a1 : Fld Z h0 a1 "com/example/fast_taxonomy/fasttaxonomy/calculus/IntList" "size" "I" (.int (3 : Int32))) (V_a2 : Arv Z h0 a2 k2 .int (8 : Int32) [(.int x0), (.int x1), (.int x2), (.int x3), (.int (0 : Int32)), (.int (0 : Int32)), (.int (0 : Int32)), (.int (0 : Int32))] (.int (0 : Int32))) (g_a1 : n0 ≤ a1) (ne_12 : a1 ≠ a2) :
    MetFree l (⟨"com/example/fast_taxonomy/fasttaxonomy/calculus/IntList", "removeLast", "()I"⟩ : MethodName) (head1 (Jvm.Cond.code (⟨"com/example/fast_taxonomy/fasttaxonomy/calculus/IntList", "removeLast", "()I"⟩ : MethodName) prog_4_method_6_code 1 (some .int) :: ws) ({ frames := 0, cells := 0, slots := 0, locals := 0 } : Room)) (fun a U => a = #[(.ref a1)] ∧ Z.Warmed39 U.vm ∧ U.heap = h0) (fun _ _ _ _ _ => True) (fun _ U o U' => ∃ v L, o = .returned v ∧ Q7_3 Z a1 a2 x2 h0 n0 v U'.heap L ∧ FrameEnd U o U' L ({ frames := 0, cells := 0, slots := 0, locals := 0 } : Room).cells ({ frames := 0, cells := 0, slots := 0, locals := 0 } : Room).slots) := by
  refine MetFree.of_bodySF (plainFor_of_name pn_com_example_fast_taxonomy_fasttaxonomy_calculus_IntList) hisR ?_
  intro p e s m args below meth c s₁ Bd hml0 hP hK
  obtain ⟨rfl, hZ, hh⟩ := hP
  have hx := Bd.exec
  have hby := Bd.bytes
  have hlk := BodyLoose.notSynchronized Bd
  have hml : c.maxLocals = 1 := hml0
  have hown : s.vm.findClass "com/example/fast_taxonomy/fasttaxonomy/calculus/IntList" = some m.cls := findClass_of_methodNamed Bd.named
  have hnm := (name_of_methodNamed Bd.named Bd.method).1
  have X0 : Stand p l e ({ frames := 0, cells := 0, slots := 0, locals := 0 } : Room) s m #[(.ref a1)] below meth c s₁ [] 0 0 := Stand.of_body Bd
  have e0 : s₁.heap = h0 := by rw [← hh, Bd.state]; rfl
  have N0 := Fr.nil n0
  refine OwnR.of (s := s) (Q := Q7_3 Z a1 a2 x2 h0 n0) (fun t k => castTop (ef_rm7_3 m a1) k) ?_
  show OwnR _ _ _ _ _ _ _ (s₁.setTop (mkF m 0 #[.val (.ref a1)] []))
  refine OwnR.of (fun _ hr => XS.aloadN X0.here hx rfl (hb hby d7_0) rfl rfl hr) ?_
  show OwnR _ _ _ _ _ _ _ (s₁.setTop (mkF m 1 #[.val (.ref a1)] [(.ref a1)]))
  refine OwnR.of (fun _ hr => XS.dup X0.here hx rfl (hb hby d7_1) rfl rfl hr) ?_
  show OwnR _ _ _ _ _ _ _ (s₁.setTop (mkF m 2 #[.val (.ref a1)] [(.ref a1), (.ref a1)]))
  obtain ⟨T1, X1, e1, st1⟩ := getF X0 hx hZ hown (host := "") (Or.inl (hw _ (List.mem_of_getElem? (i := 18) rfl))) Via.refl e0 F_size_a1 (g := (mkF m 2 #[.val (.ref a1)] [(.ref a1), (.ref a1)])) rfl rfl (hb hby d7_2)
  refine OwnR.of (st1) ?_
  show OwnR _ _ _ _ _ _ _ (T1.setTop (mkF m 5 #[.val (.ref a1)] [(.int (3 : Int32)), (.ref a1)]))
  refine OwnR.of (fun _ hr => XS.iconst X1.here hx rfl (hb hby d7_5) hr) ?_
  show OwnR _ _ _ _ _ _ _ (T1.setTop (mkF m 6 #[.val (.ref a1)] [(.int (1 : Int32)), (.int (3 : Int32)), (.ref a1)]))
  refine OwnR.of (fun _ hr => XS.isub X1.here hx rfl (hb hby d7_6) rfl hr) ?_
  show OwnR _ _ _ _ _ _ _ (T1.setTop (mkF m 7 #[.val (.ref a1)] [(.int ((3 : Int32) - (1 : Int32))), (.ref a1)]))
  rw [(by decide : ((3 : Int32) - (1 : Int32)) = (2 : Int32))]
  show OwnR _ _ _ _ _ _ _ (T1.setTop (mkF m 7 #[.val (.ref a1)] [(.int (2 : Int32)), (.ref a1)]))
  obtain ⟨T2, h2, X2, e2, W2, st2⟩ := putF X1 hx hZ hown (host := "") (Or.inl (hw _ (List.mem_of_getElem? (i := 18) rfl))) Via.refl e1 F_size_a1 E_a1 (Or.inl (hw _ (List.mem_of_getElem? (i := 19) rfl))) (hw _ (List.mem_of_getElem? (i := 1) rfl)) (ty := .int) (by decide) rfl rfl (g := (mkF m 7 #[.val (.ref a1)] [(.int (2 : Int32)), (.ref a1)])) rfl rfl (hb hby d7_7)
  refine OwnR.of (st2) ?_
  have F2 := Fld.same W2 F_size_a1
  have K2 : Keep h0 h2 [a1] := Keep.wr (Keep.refl h0 [a1]) W2 (Or.inl (List.mem_of_getElem? (i := 0) rfl))
  have N2 := Fr.snoc X2 N0 g_a1
  show OwnR _ _ _ _ _ _ _ (T2.setTop (mkF m 10 #[.val (.ref a1)] []))
  refine OwnR.of (fun _ hr => XS.aloadN X2.here hx rfl (hb hby d7_10) rfl rfl hr) ?_
  show OwnR _ _ _ _ _ _ _ (T2.setTop (mkF m 11 #[.val (.ref a1)] [(.ref a1)]))
  obtain ⟨T3, X3, e3, st3⟩ := getF X2 hx hZ hown (host := "") (Or.inl (hw _ (List.mem_of_getElem? (i := 11) rfl))) Via.refl e2 (Fld.other W2 F_values_a1 (Or.inr (slot_ne (Or.inl (hw _ (List.mem_of_getElem? (i := 12) rfl))) (Or.inl (hw _ (List.mem_of_getElem? (i := 19) rfl))) (by decide) (t := (.array .int)) (t' := .int) (by decide) (by decide)))) (g := (mkF m 11 #[.val (.ref a1)] [(.ref a1)])) rfl rfl (hb hby d7_11)
  refine OwnR.of (st3) ?_
  show OwnR _ _ _ _ _ _ _ (T3.setTop (mkF m 14 #[.val (.ref a1)] [(.ref a2)]))
  refine OwnR.of (fun _ hr => XS.aloadN X3.here hx rfl (hb hby d7_14) rfl rfl hr) ?_
  show OwnR _ _ _ _ _ _ _ (T3.setTop (mkF m 15 #[.val (.ref a1)] [(.ref a1), (.ref a2)]))
  obtain ⟨T4, X4, e4, st4⟩ := getF X3 hx hZ hown (host := "") (Or.inl (hw _ (List.mem_of_getElem? (i := 18) rfl))) Via.refl e3 F2 (g := (mkF m 15 #[.val (.ref a1)] [(.ref a1), (.ref a2)])) rfl rfl (hb hby d7_15)
  refine OwnR.of (st4) ?_
  show OwnR _ _ _ _ _ _ _ (T4.setTop (mkF m 18 #[.val (.ref a1)] [(.int (2 : Int32)), (.ref a2)]))
  obtain ⟨cl5, Ar5, -, S5, N5, H5, G5⟩ := id (Arv.keep V_a2 K2 (ninS (Ne.symm ne_12) nin0))
  have hin5 : ¬ ((2 : Int32) < 0 ∨ cl5.slots.size ≤ ((2 : Int32)).toNatClampNeg) := (inb_of S5 ⟨by decide, by decide⟩)
  refine OwnR.of (X4.iaload hx (j := (2 : Int32)) (v := (.int x2)) (by rw [e4]; exact Ar5.1) (State.isArrayOf_alike hZ.alike Ar5.2.1) Ar5.2.2 hin5 (Has.at H5 hin5 rfl) (g := (mkF m 18 #[.val (.ref a1)] [(.int (2 : Int32)), (.ref a2)])) rfl rfl (hb hby d7_18)) ?_
  show OwnR _ _ _ _ _ _ _ (T4.setTop (mkF m 19 #[.val (.ref a1)] [(.int x2)]))
  refine own_leafI X4 hx hlk Bd.returns (hb hby d7_19) (by decide) (by decide) ?_
  show Q7_3 Z a1 a2 x2 h0 n0 _ T4.heap _
  rw [show T4.heap = h2 from e4]
  refine ⟨?_, N2, ⟨K2, (Exa.keep E_a1 K2), (Fld.other W2 F_values_a1 (Or.inr (slot_ne (Or.inl (hw _ (List.mem_of_getElem? (i := 12) rfl))) (Or.inl (hw _ (List.mem_of_getElem? (i := 19) rfl))) (by decide) (t := (.array .int)) (t' := .int) (by decide) (by decide)))), F2⟩⟩
  show (some (.int x2) : Option Value) = some (.int x2)
  rfl
theorem ef_rm7_4 (m : MethodId) (x0 : Addr) : entryFrame m #[(.ref x0)] 1 = mkF m 0 #[.val (.ref x0)] [] := by first | (simp [entryFrame, mkF, argsToLocals, Value.category]; done) | rfl
def Q7_4 (Z : State) (a1 : Addr) (a2 : Addr) (x3 : Int32) (h0 : Heap) (n0 : Nat) (v : Option Value) (h : Heap) (L : List Loc) : Prop := v = some (.int x3) ∧ Fr n0 L ∧ Keep h0 h [a1] ∧ Exa Z h a1 "com/example/fast_taxonomy/fasttaxonomy/calculus/IntList" ∧ Fld Z h a1 "com/example/fast_taxonomy/fasttaxonomy/calculus/IntList" "values" "[I" (.ref a2) ∧ Fld Z h a1 "com/example/fast_taxonomy/fasttaxonomy/calculus/IntList" "size" "I" (.int (3 : Int32))
set_option maxRecDepth 65536 in
set_option maxHeartbeats 40000000 in
theorem rm7_4 (l : Launch) (Z : State) (a0 : Array Value) (hw : ∀ d ∈ tables_1, d.before a0 Z = true) (ws : List Jvm.Cond) (a1 : Addr) (a2 : Addr) (k2 : ClassId) (x0 x1 x2 x3 : Int32) (h0 : Heap) (n0 : Nat) (Z0 : n0 ≤ h0.size) (E_a1 : Exa Z h0 a1 "com/example/fast_taxonomy/fasttaxonomy/calculus/IntList") (F_values_a1 : Fld Z h0 a1 "com/example/fast_taxonomy/fasttaxonomy/calculus/IntList" "values" "[I" (.ref a2)) (F_size_a1 : Fld Z h0 a1 "com/example/fast_taxonomy/fasttaxonomy/calculus/IntList" "size" "I" (.int (4 : Int32))) (V_a2 : Arv Z h0 a2 k2 .int (8 : Int32) [(.int x0), (.int x1), (.int x2), (.int x3), (.int (0 : Int32)), (.int (0 : Int32)), (.int (0 : Int32)), (.int (0 : Int32))] (.int (0 : Int32))) (g_a1 : n0 ≤ a1) (ne_12 : a1 ≠ a2) :
    MetFree l (⟨"com/example/fast_taxonomy/fasttaxonomy/calculus/IntList", "removeLast", "()I"⟩ : MethodName) (head1 (Jvm.Cond.code (⟨"com/example/fast_taxonomy/fasttaxonomy/calculus/IntList", "removeLast", "()I"⟩ : MethodName) prog_4_method_6_code 1 (some .int) :: ws) ({ frames := 0, cells := 0, slots := 0, locals := 0 } : Room)) (fun a U => a = #[(.ref a1)] ∧ Z.Warmed39 U.vm ∧ U.heap = h0) (fun _ _ _ _ _ => True) (fun _ U o U' => ∃ v L, o = .returned v ∧ Q7_4 Z a1 a2 x3 h0 n0 v U'.heap L ∧ FrameEnd U o U' L ({ frames := 0, cells := 0, slots := 0, locals := 0 } : Room).cells ({ frames := 0, cells := 0, slots := 0, locals := 0 } : Room).slots) := by
  refine MetFree.of_bodySF (plainFor_of_name pn_com_example_fast_taxonomy_fasttaxonomy_calculus_IntList) hisR ?_
  intro p e s m args below meth c s₁ Bd hml0 hP hK
  obtain ⟨rfl, hZ, hh⟩ := hP
  have hx := Bd.exec
  have hby := Bd.bytes
  have hlk := BodyLoose.notSynchronized Bd
  have hml : c.maxLocals = 1 := hml0
  have hown : s.vm.findClass "com/example/fast_taxonomy/fasttaxonomy/calculus/IntList" = some m.cls := findClass_of_methodNamed Bd.named
  have hnm := (name_of_methodNamed Bd.named Bd.method).1
  have X0 : Stand p l e ({ frames := 0, cells := 0, slots := 0, locals := 0 } : Room) s m #[(.ref a1)] below meth c s₁ [] 0 0 := Stand.of_body Bd
  have e0 : s₁.heap = h0 := by rw [← hh, Bd.state]; rfl
  have N0 := Fr.nil n0
  refine OwnR.of (s := s) (Q := Q7_4 Z a1 a2 x3 h0 n0) (fun t k => castTop (ef_rm7_4 m a1) k) ?_
  show OwnR _ _ _ _ _ _ _ (s₁.setTop (mkF m 0 #[.val (.ref a1)] []))
  refine OwnR.of (fun _ hr => XS.aloadN X0.here hx rfl (hb hby d7_0) rfl rfl hr) ?_
  show OwnR _ _ _ _ _ _ _ (s₁.setTop (mkF m 1 #[.val (.ref a1)] [(.ref a1)]))
  refine OwnR.of (fun _ hr => XS.dup X0.here hx rfl (hb hby d7_1) rfl rfl hr) ?_
  show OwnR _ _ _ _ _ _ _ (s₁.setTop (mkF m 2 #[.val (.ref a1)] [(.ref a1), (.ref a1)]))
  obtain ⟨T1, X1, e1, st1⟩ := getF X0 hx hZ hown (host := "") (Or.inl (hw _ (List.mem_of_getElem? (i := 18) rfl))) Via.refl e0 F_size_a1 (g := (mkF m 2 #[.val (.ref a1)] [(.ref a1), (.ref a1)])) rfl rfl (hb hby d7_2)
  refine OwnR.of (st1) ?_
  show OwnR _ _ _ _ _ _ _ (T1.setTop (mkF m 5 #[.val (.ref a1)] [(.int (4 : Int32)), (.ref a1)]))
  refine OwnR.of (fun _ hr => XS.iconst X1.here hx rfl (hb hby d7_5) hr) ?_
  show OwnR _ _ _ _ _ _ _ (T1.setTop (mkF m 6 #[.val (.ref a1)] [(.int (1 : Int32)), (.int (4 : Int32)), (.ref a1)]))
  refine OwnR.of (fun _ hr => XS.isub X1.here hx rfl (hb hby d7_6) rfl hr) ?_
  show OwnR _ _ _ _ _ _ _ (T1.setTop (mkF m 7 #[.val (.ref a1)] [(.int ((4 : Int32) - (1 : Int32))), (.ref a1)]))
  rw [(by decide : ((4 : Int32) - (1 : Int32)) = (3 : Int32))]
  show OwnR _ _ _ _ _ _ _ (T1.setTop (mkF m 7 #[.val (.ref a1)] [(.int (3 : Int32)), (.ref a1)]))
  obtain ⟨T2, h2, X2, e2, W2, st2⟩ := putF X1 hx hZ hown (host := "") (Or.inl (hw _ (List.mem_of_getElem? (i := 18) rfl))) Via.refl e1 F_size_a1 E_a1 (Or.inl (hw _ (List.mem_of_getElem? (i := 19) rfl))) (hw _ (List.mem_of_getElem? (i := 1) rfl)) (ty := .int) (by decide) rfl rfl (g := (mkF m 7 #[.val (.ref a1)] [(.int (3 : Int32)), (.ref a1)])) rfl rfl (hb hby d7_7)
  refine OwnR.of (st2) ?_
  have F2 := Fld.same W2 F_size_a1
  have K2 : Keep h0 h2 [a1] := Keep.wr (Keep.refl h0 [a1]) W2 (Or.inl (List.mem_of_getElem? (i := 0) rfl))
  have N2 := Fr.snoc X2 N0 g_a1
  show OwnR _ _ _ _ _ _ _ (T2.setTop (mkF m 10 #[.val (.ref a1)] []))
  refine OwnR.of (fun _ hr => XS.aloadN X2.here hx rfl (hb hby d7_10) rfl rfl hr) ?_
  show OwnR _ _ _ _ _ _ _ (T2.setTop (mkF m 11 #[.val (.ref a1)] [(.ref a1)]))
  obtain ⟨T3, X3, e3, st3⟩ := getF X2 hx hZ hown (host := "") (Or.inl (hw _ (List.mem_of_getElem? (i := 11) rfl))) Via.refl e2 (Fld.other W2 F_values_a1 (Or.inr (slot_ne (Or.inl (hw _ (List.mem_of_getElem? (i := 12) rfl))) (Or.inl (hw _ (List.mem_of_getElem? (i := 19) rfl))) (by decide) (t := (.array .int)) (t' := .int) (by decide) (by decide)))) (g := (mkF m 11 #[.val (.ref a1)] [(.ref a1)])) rfl rfl (hb hby d7_11)
  refine OwnR.of (st3) ?_
  show OwnR _ _ _ _ _ _ _ (T3.setTop (mkF m 14 #[.val (.ref a1)] [(.ref a2)]))
  refine OwnR.of (fun _ hr => XS.aloadN X3.here hx rfl (hb hby d7_14) rfl rfl hr) ?_
  show OwnR _ _ _ _ _ _ _ (T3.setTop (mkF m 15 #[.val (.ref a1)] [(.ref a1), (.ref a2)]))
  obtain ⟨T4, X4, e4, st4⟩ := getF X3 hx hZ hown (host := "") (Or.inl (hw _ (List.mem_of_getElem? (i := 18) rfl))) Via.refl e3 F2 (g := (mkF m 15 #[.val (.ref a1)] [(.ref a1), (.ref a2)])) rfl rfl (hb hby d7_15)
  refine OwnR.of (st4) ?_
  show OwnR _ _ _ _ _ _ _ (T4.setTop (mkF m 18 #[.val (.ref a1)] [(.int (3 : Int32)), (.ref a2)]))
  obtain ⟨cl5, Ar5, -, S5, N5, H5, G5⟩ := id (Arv.keep V_a2 K2 (ninS (Ne.symm ne_12) nin0))
  have hin5 : ¬ ((3 : Int32) < 0 ∨ cl5.slots.size ≤ ((3 : Int32)).toNatClampNeg) := (inb_of S5 ⟨by decide, by decide⟩)
  refine OwnR.of (X4.iaload hx (j := (3 : Int32)) (v := (.int x3)) (by rw [e4]; exact Ar5.1) (State.isArrayOf_alike hZ.alike Ar5.2.1) Ar5.2.2 hin5 (Has.at H5 hin5 rfl) (g := (mkF m 18 #[.val (.ref a1)] [(.int (3 : Int32)), (.ref a2)])) rfl rfl (hb hby d7_18)) ?_
  show OwnR _ _ _ _ _ _ _ (T4.setTop (mkF m 19 #[.val (.ref a1)] [(.int x3)]))
  refine own_leafI X4 hx hlk Bd.returns (hb hby d7_19) (by decide) (by decide) ?_
  show Q7_4 Z a1 a2 x3 h0 n0 _ T4.heap _
  rw [show T4.heap = h2 from e4]
  refine ⟨?_, N2, ⟨K2, (Exa.keep E_a1 K2), (Fld.other W2 F_values_a1 (Or.inr (slot_ne (Or.inl (hw _ (List.mem_of_getElem? (i := 12) rfl))) (Or.inl (hw _ (List.mem_of_getElem? (i := 19) rfl))) (by decide) (t := (.array .int)) (t' := .int) (by decide) (by decide)))), F2⟩⟩
  show (some (.int x3) : Option Value) = some (.int x3)
  rfl
theorem ef_rm8 (m : MethodId) (x0 : Addr) : entryFrame m #[(.ref x0)] 1 = mkF m 0 #[.val (.ref x0)] [] := by first | (simp [entryFrame, mkF, argsToLocals, Value.category]; done) | rfl
theorem d8_0 : decode prog_4_method_5_code 0 = .ok (.aload_n 0, 1) := by decide +kernel
theorem d8_1 : decode prog_4_method_5_code 1 = .ok (.getfield 28, 3) := by decide +kernel
theorem d8_4 : decode prog_4_method_5_code 4 = .ok (.ireturn, 1) := by decide +kernel
def Q8 (Z : State) (z1 : Int32) (h0 : Heap) (n0 : Nat) (v : Option Value) (h : Heap) (L : List Loc) : Prop := v = some (.int z1) ∧ Fr n0 L ∧ h = h0
set_option maxRecDepth 65536 in
set_option maxHeartbeats 40000000 in
theorem rm8 (l : Launch) (Z : State) (a0 : Array Value) (hw : ∀ d ∈ tables_1, d.before a0 Z = true) (ws : List Jvm.Cond) (a1 : Addr) (z1 : Int32) (h0 : Heap) (n0 : Nat) (Z0 : n0 ≤ h0.size) (E_a1 : Exa Z h0 a1 "com/example/fast_taxonomy/fasttaxonomy/calculus/IntList") (F_size_a1 : Fld Z h0 a1 "com/example/fast_taxonomy/fasttaxonomy/calculus/IntList" "size" "I" (.int z1)) :
    MetFree l (⟨"com/example/fast_taxonomy/fasttaxonomy/calculus/IntList", "size", "()I"⟩ : MethodName) (head1 (Jvm.Cond.code (⟨"com/example/fast_taxonomy/fasttaxonomy/calculus/IntList", "size", "()I"⟩ : MethodName) prog_4_method_5_code 1 (some .int) :: ws) ({ frames := 0, cells := 0, slots := 0, locals := 0 } : Room)) (fun a U => a = #[(.ref a1)] ∧ Z.Warmed39 U.vm ∧ U.heap = h0) (fun _ _ _ _ _ => True) (fun _ U o U' => ∃ v L, o = .returned v ∧ Q8 Z z1 h0 n0 v U'.heap L ∧ FrameEnd U o U' L ({ frames := 0, cells := 0, slots := 0, locals := 0 } : Room).cells ({ frames := 0, cells := 0, slots := 0, locals := 0 } : Room).slots) := by
  refine MetFree.of_bodySF (plainFor_of_name pn_com_example_fast_taxonomy_fasttaxonomy_calculus_IntList) hisR ?_
  intro p e s m args below meth c s₁ Bd hml0 hP hK
  obtain ⟨rfl, hZ, hh⟩ := hP
  have hx := Bd.exec
  have hby := Bd.bytes
  have hlk := BodyLoose.notSynchronized Bd
  have hml : c.maxLocals = 1 := hml0
  have hown : s.vm.findClass "com/example/fast_taxonomy/fasttaxonomy/calculus/IntList" = some m.cls := findClass_of_methodNamed Bd.named
  have hnm := (name_of_methodNamed Bd.named Bd.method).1
  have X0 : Stand p l e ({ frames := 0, cells := 0, slots := 0, locals := 0 } : Room) s m #[(.ref a1)] below meth c s₁ [] 0 0 := Stand.of_body Bd
  have e0 : s₁.heap = h0 := by rw [← hh, Bd.state]; rfl
  have N0 := Fr.nil n0
  refine OwnR.of (s := s) (Q := Q8 Z z1 h0 n0) (fun t k => castTop (ef_rm8 m a1) k) ?_
  show OwnR _ _ _ _ _ _ _ (s₁.setTop (mkF m 0 #[.val (.ref a1)] []))
  refine OwnR.of (fun _ hr => XS.aloadN X0.here hx rfl (hb hby d8_0) rfl rfl hr) ?_
  show OwnR _ _ _ _ _ _ _ (s₁.setTop (mkF m 1 #[.val (.ref a1)] [(.ref a1)]))
  obtain ⟨T1, X1, e1, st1⟩ := getF X0 hx hZ hown (host := "") (Or.inl (hw _ (List.mem_of_getElem? (i := 18) rfl))) Via.refl e0 F_size_a1 (g := (mkF m 1 #[.val (.ref a1)] [(.ref a1)])) rfl rfl (hb hby d8_1)
  refine OwnR.of (st1) ?_
  show OwnR _ _ _ _ _ _ _ (T1.setTop (mkF m 4 #[.val (.ref a1)] [(.int z1)]))
  refine own_leafI X1 hx hlk Bd.returns (hb hby d8_4) (by decide) (by decide) ?_
  show Q8 Z z1 h0 n0 _ T1.heap _
  rw [show T1.heap = h0 from e1]
  refine ⟨?_, N0, rfl⟩
  show (some (.int z1) : Option Value) = some (.int z1)
  rfl
theorem ef_rm9 (m : MethodId) (x0 : Addr) : entryFrame m #[(.ref x0), (.int (0 : Int32))] 2 = mkF m 0 #[.val (.ref x0), .val (.int (0 : Int32))] [] := by first | (simp [entryFrame, mkF, argsToLocals, Value.category]; done) | rfl
theorem d9_0 : decode prog_4_method_4_code 0 = .ok (.aload_n 0, 1) := by decide +kernel
theorem d9_1 : decode prog_4_method_4_code 1 = .ok (.getfield 13, 3) := by decide +kernel
theorem d9_4 : decode prog_4_method_4_code 4 = .ok (.iload_n 1, 1) := by decide +kernel
theorem d9_5 : decode prog_4_method_4_code 5 = .ok (.iaload, 1) := by decide +kernel
theorem d9_6 : decode prog_4_method_4_code 6 = .ok (.ireturn, 1) := by decide +kernel
def Q9 (Z : State) (x0 : Int32) (h0 : Heap) (n0 : Nat) (v : Option Value) (h : Heap) (L : List Loc) : Prop := v = some (.int x0) ∧ Fr n0 L ∧ h = h0
set_option maxRecDepth 65536 in
set_option maxHeartbeats 40000000 in
theorem rm9 (l : Launch) (Z : State) (a0 : Array Value) (hw : ∀ d ∈ tables_1, d.before a0 Z = true) (ws : List Jvm.Cond) (a1 : Addr) (a2 : Addr) (k2 : ClassId) (x0 x1 x2 x3 : Int32) (h0 : Heap) (n0 : Nat) (Z0 : n0 ≤ h0.size) (E_a1 : Exa Z h0 a1 "com/example/fast_taxonomy/fasttaxonomy/calculus/IntList") (F_values_a1 : Fld Z h0 a1 "com/example/fast_taxonomy/fasttaxonomy/calculus/IntList" "values" "[I" (.ref a2)) (V_a2 : Arv Z h0 a2 k2 .int (8 : Int32) [(.int x0), (.int x1), (.int x2), (.int x3), (.int (0 : Int32)), (.int (0 : Int32)), (.int (0 : Int32)), (.int (0 : Int32))] (.int (0 : Int32))) :
    MetFree l (⟨"com/example/fast_taxonomy/fasttaxonomy/calculus/IntList", "get", "(I)I"⟩ : MethodName) (head1 (Jvm.Cond.code (⟨"com/example/fast_taxonomy/fasttaxonomy/calculus/IntList", "get", "(I)I"⟩ : MethodName) prog_4_method_4_code 2 (some .int) :: ws) ({ frames := 0, cells := 0, slots := 0, locals := 0 } : Room)) (fun a U => a = #[(.ref a1), (.int (0 : Int32))] ∧ Z.Warmed39 U.vm ∧ U.heap = h0) (fun _ _ _ _ _ => True) (fun _ U o U' => ∃ v L, o = .returned v ∧ Q9 Z x0 h0 n0 v U'.heap L ∧ FrameEnd U o U' L ({ frames := 0, cells := 0, slots := 0, locals := 0 } : Room).cells ({ frames := 0, cells := 0, slots := 0, locals := 0 } : Room).slots) := by
  refine MetFree.of_bodySF (plainFor_of_name pn_com_example_fast_taxonomy_fasttaxonomy_calculus_IntList) hisR ?_
  intro p e s m args below meth c s₁ Bd hml0 hP hK
  obtain ⟨rfl, hZ, hh⟩ := hP
  have hx := Bd.exec
  have hby := Bd.bytes
  have hlk := BodyLoose.notSynchronized Bd
  have hml : c.maxLocals = 2 := hml0
  have hown : s.vm.findClass "com/example/fast_taxonomy/fasttaxonomy/calculus/IntList" = some m.cls := findClass_of_methodNamed Bd.named
  have hnm := (name_of_methodNamed Bd.named Bd.method).1
  have X0 : Stand p l e ({ frames := 0, cells := 0, slots := 0, locals := 0 } : Room) s m #[(.ref a1), (.int (0 : Int32))] below meth c s₁ [] 0 0 := Stand.of_body Bd
  have e0 : s₁.heap = h0 := by rw [← hh, Bd.state]; rfl
  have N0 := Fr.nil n0
  refine OwnR.of (s := s) (Q := Q9 Z x0 h0 n0) (fun t k => castTop (ef_rm9 m a1) k) ?_
  show OwnR _ _ _ _ _ _ _ (s₁.setTop (mkF m 0 #[.val (.ref a1), .val (.int (0 : Int32))] []))
  refine OwnR.of (fun _ hr => XS.aloadN X0.here hx rfl (hb hby d9_0) rfl rfl hr) ?_
  show OwnR _ _ _ _ _ _ _ (s₁.setTop (mkF m 1 #[.val (.ref a1), .val (.int (0 : Int32))] [(.ref a1)]))
  obtain ⟨T1, X1, e1, st1⟩ := getF X0 hx hZ hown (host := "") (Or.inl (hw _ (List.mem_of_getElem? (i := 11) rfl))) Via.refl e0 F_values_a1 (g := (mkF m 1 #[.val (.ref a1), .val (.int (0 : Int32))] [(.ref a1)])) rfl rfl (hb hby d9_1)
  refine OwnR.of (st1) ?_
  show OwnR _ _ _ _ _ _ _ (T1.setTop (mkF m 4 #[.val (.ref a1), .val (.int (0 : Int32))] [(.ref a2)]))
  refine OwnR.of (fun _ hr => XS.iloadN X1.here hx rfl (hb hby d9_4) rfl hr) ?_
  show OwnR _ _ _ _ _ _ _ (T1.setTop (mkF m 5 #[.val (.ref a1), .val (.int (0 : Int32))] [(.int (0 : Int32)), (.ref a2)]))
  obtain ⟨cl2, Ar2, -, S2, N2, H2, G2⟩ := id V_a2
  have hin2 : ¬ ((0 : Int32) < 0 ∨ cl2.slots.size ≤ ((0 : Int32)).toNatClampNeg) := (inb_of S2 ⟨by decide, by decide⟩)
  refine OwnR.of (X1.iaload hx (j := (0 : Int32)) (v := (.int x0)) (by rw [e1]; exact Ar2.1) (State.isArrayOf_alike hZ.alike Ar2.2.1) Ar2.2.2 hin2 (Has.at H2 hin2 rfl) (g := (mkF m 5 #[.val (.ref a1), .val (.int (0 : Int32))] [(.int (0 : Int32)), (.ref a2)])) rfl rfl (hb hby d9_5)) ?_
  show OwnR _ _ _ _ _ _ _ (T1.setTop (mkF m 6 #[.val (.ref a1), .val (.int (0 : Int32))] [(.int x0)]))
  refine own_leafI X1 hx hlk Bd.returns (hb hby d9_6) (by decide) (by decide) ?_
  show Q9 Z x0 h0 n0 _ T1.heap _
  rw [show T1.heap = h0 from e1]
  refine ⟨?_, N0, rfl⟩
  show (some (.int x0) : Option Value) = some (.int x0)
  rfl
theorem pn_com_example_fast_taxonomy_fasttaxonomy_calculus_IntListRemoveLastPinLaw : plainName "com/example/fast_taxonomy/fasttaxonomy/calculus/IntListRemoveLastPinLaw" = true := by first | (simp [plainName, overriddenIn]; done) | decide +kernel
theorem ef_rm0 (m : MethodId) (x0 : Int32) (x1 : Int32) (x2 : Int32) (x3 : Int32) (x4 : Int32) : entryFrame m #[(.int x0), (.int x1), (.int x2), (.int x3), (.int x4)] maxLocals = mkF m 0 #[.val (.int x0), .val (.int x1), .val (.int x2), .val (.int x3), .val (.int x4), .unset, .unset, .unset, .unset, .unset, .unset, .unset] [] := by first | (simp [entryFrame, mkF, argsToLocals, Value.category, maxLocals]; done) | rfl
theorem pd___V : parseMethodDescriptor "()V" = some ⟨[], none⟩ := by decide +kernel
theorem pd__I_V : parseMethodDescriptor "(I)V" = some ⟨[.int], none⟩ := by decide +kernel
theorem pd___I : parseMethodDescriptor "()I" = some ⟨[], some .int⟩ := by decide +kernel
theorem pd__I_I : parseMethodDescriptor "(I)I" = some ⟨[.int], some .int⟩ := by decide +kernel
def Q0 (Z : State)  (h0 : Heap) (n0 : Nat) (v : Option Value) (h : Heap) (L : List Loc) : Prop := v = some (.int (1 : Int32)) ∧ Fr n0 L
set_option maxRecDepth 65536 in
set_option maxHeartbeats 40000000 in
theorem rm0 (l : Launch) (Z : State) (a0 : Array Value) (hw : ∀ d ∈ tables_1, d.before a0 Z = true) (ws : List Jvm.Cond) (p1 : Int32) (p2 : Int32) (p3 : Int32) (p4 : Int32) (p5 : Int32) (se : Addr) (ke : ClassId) (h0 : Heap) (n0 : Nat) (Z0 : n0 ≤ h0.size) (S_EMPTY : Sta Z h0 "com/example/fast_taxonomy/fasttaxonomy/calculus/IntList" "EMPTY" "[I" (.ref se)) (V_EMPTY : Arv Z h0 se ke .int (0 : Int32) [] (.int (0 : Int32))) :
    MetFree l x (head1 (Jvm.Cond.code x code maxLocals ret :: ws) room_1) (fun a U => a = #[(.int p1), (.int p2), (.int p3), (.int p4), (.int p5)] ∧ Z.Warmed39 U.vm ∧ U.heap = h0) (fun _ _ _ _ _ => True) (fun _ U o U' => ∃ v L, o = .returned v ∧ Q0 Z  h0 n0 v U'.heap L ∧ FrameEnd U o U' L 16 128) := by
  refine MetFree.of_bodySF (plainFor_of_name pn_com_example_fast_taxonomy_fasttaxonomy_calculus_IntListRemoveLastPinLaw) hisR ?_
  intro p e s m args below meth c s₁ Bd hml0 hP hK
  obtain ⟨rfl, hZ, hh⟩ := hP
  have hx := Bd.exec
  have hby := Bd.bytes
  have hlk := BodyLoose.notSynchronized Bd
  have hml : c.maxLocals = 12 := hml0
  have hown : s.vm.findClass "com/example/fast_taxonomy/fasttaxonomy/calculus/IntListRemoveLastPinLaw" = some m.cls := findClass_of_methodNamed Bd.named
  have hnm := (name_of_methodNamed Bd.named Bd.method).1
  have X0 : Stand p l e room_1 s m #[(.int p1), (.int p2), (.int p3), (.int p4), (.int p5)] below meth c s₁ [] 0 0 := Stand.of_body Bd
  have e0 : s₁.heap = h0 := by rw [← hh, Bd.state]; rfl
  have N0 := Fr.nil n0
  refine OwnR.of (s := s) (Q := Q0 Z  h0 n0) (fun t k => castTop (ef_rm0 m p1 p2 p3 p4 p5) k) ?_
  show OwnR _ _ _ _ _ _ _ (s₁.setTop (mkF m 0 #[.val (.int p1), .val (.int p2), .val (.int p3), .val (.int p4), .val (.int p5), .unset, .unset, .unset, .unset, .unset, .unset, .unset] []))
  obtain ⟨T6, h6, X6, e6, E6, A6, D6, -, st6⟩ := newO X0 hx hZ hown (hw _ (List.mem_of_getElem? (i := 0) rfl)) (hw _ (List.mem_of_getElem? (i := 1) rfl)) (hw _ (List.mem_of_getElem? (i := 2) rfl)) e0 (g := (mkF m 0 #[.val (.int p1), .val (.int p2), .val (.int p3), .val (.int p4), .val (.int p5), .unset, .unset, .unset, .unset, .unset, .unset, .unset] [])) rfl (hb hby at_0) (by decide) (by decide)
  obtain ⟨b6, g6⟩ : ∃ z, z = h0.size := ⟨_, rfl⟩
  rw [← g6] at A6 D6 st6
  refine OwnR.of (st6) ?_
  have gn_b6 : n0 ≤ b6 := Nat.le_trans (Nat.le_trans Z0 (Keep.refl h0 []).1) (Nat.le_of_eq g6.symm)
  have sz_b6 : h0.size ≤ b6 := Nat.le_trans (Keep.refl h0 []).1 (Nat.le_of_eq g6.symm)
  have K6 : Keep h0 h6 [] := Keep.ext (Keep.refl h0 []) E6
  have F_values_b6 : Fld Z h6 b6 "com/example/fast_taxonomy/fasttaxonomy/calculus/IntList" "values" "[I" .null := D6 (Or.inl (hw _ (List.mem_of_getElem? (i := 12) rfl))) (ty := (.array .int)) (by decide)
  have F_size_b6 : Fld Z h6 b6 "com/example/fast_taxonomy/fasttaxonomy/calculus/IntList" "size" "I" (.int (0 : Int32)) := D6 (Or.inl (hw _ (List.mem_of_getElem? (i := 19) rfl))) (ty := .int) (by decide)
  show OwnR _ _ _ _ _ _ _ (T6.setTop (mkF m 3 #[.val (.int p1), .val (.int p2), .val (.int p3), .val (.int p4), .val (.int p5), .unset, .unset, .unset, .unset, .unset, .unset, .unset] [(.ref b6)]))
  refine OwnR.of (fun _ hr => XS.dup X6.here hx rfl (hb hby at_3) rfl rfl hr) ?_
  show OwnR _ _ _ _ _ _ _ (T6.setTop (mkF m 4 #[.val (.int p1), .val (.int p2), .val (.int p3), .val (.int p4), .val (.int p5), .unset, .unset, .unset, .unset, .unset, .unset, .unset] [(.ref b6), (.ref b6)]))
  obtain ⟨_, _, ⟨T7, L7, kc7, ns7⟩, -, X7, ⟨Lc7, hQ7, l7, y7, z7⟩, st7⟩ := X6.specialBack hx (y := (⟨"com/example/fast_taxonomy/fasttaxonomy/calculus/IntList", "<init>", "()V"⟩ : MethodName)) rfl hown (mvT hZ (hw _ (List.mem_of_getElem? (i := 3) rfl))) (mvT hZ (hw _ (List.mem_of_getElem? (i := 4) rfl))) (mvT hZ (hw _ (List.mem_of_getElem? (i := 5) rfl))) (by decide) (backOf (W := 1) (rm1 l Z a0 hw [] b6 se h6 n0 (Nat.le_trans Z0 K6.1) A6 F_values_b6 F_size_b6 (own_sta S_EMPTY K6) gn_b6) hZ (hw _ (List.mem_of_getElem? (i := 5) rfl)) (hw _ (List.mem_of_getElem? (i := 2) rfl)) (by decide) (by decide)) (g := (mkF m 4 #[.val (.int p1), .val (.int p2), .val (.int p3), .val (.int p4), .val (.int p5), .unset, .unset, .unset, .unset, .unset, .unset, .unset] [(.ref b6), (.ref b6)])) rfl (by rw [hml]; rfl) (Steps.refl _) (a := b6) (argsL := []) (rest := [(.ref b6)]) (lenOf pd___V rfl) rfl (by show 2 * 0 + _ ≤ _; exact Nat.le_of_eq rfl) (hb hby at_4) (fun _ _ => ⟨rfl, e6, (by decide : 1 + 0 ≤ _), (by decide : 2 + 0 ≤ _)⟩)
  dsimp only [Pt.U, Pt.locs, Pt.cells, Pt.slots] at X7 l7 y7 z7 st7 hQ7
  subst l7 y7 z7
  obtain ⟨rfl, N7q, P7_0, P7_1, P7_2, P7_3⟩ := hQ7
  have K7 : Keep h0 T7.heap [] := Keep.trans K6 P7_0 (allS (Or.inr sz_b6) all0)
  have N7 := Fr.app N0 N7q
  refine OwnR.of (fun _ hr => st7.trans hr) ?_
  show OwnR _ _ _ _ _ _ _ (T7.setTop (mkF m 7 #[.val (.int p1), .val (.int p2), .val (.int p3), .val (.int p4), .val (.int p5), .unset, .unset, .unset, .unset, .unset, .unset, .unset] [(.ref b6)]))
  refine OwnR.of (fun _ hr => XS.astore X7.here hx rfl (hb hby at_7) rfl rfl (l' := #[.val (.int p1), .val (.int p2), .val (.int p3), .val (.int p4), .val (.int p5), .val (.ref b6), .unset, .unset, .unset, .unset, .unset, .unset]) rfl hr) ?_
  show OwnR _ _ _ _ _ _ _ (T7.setTop (mkF m 9 #[.val (.int p1), .val (.int p2), .val (.int p3), .val (.int p4), .val (.int p5), .val (.ref b6), .unset, .unset, .unset, .unset, .unset, .unset] []))
  refine OwnR.of (fun _ hr => XS.iloadN X7.here hx rfl (hb hby at_9) rfl hr) ?_
  show OwnR _ _ _ _ _ _ _ (T7.setTop (mkF m 10 #[.val (.int p1), .val (.int p2), .val (.int p3), .val (.int p4), .val (.int p5), .val (.ref b6), .unset, .unset, .unset, .unset, .unset, .unset] [(.int p1)]))
  refine OwnR.of (fun _ hr => XS.iconst X7.here hx rfl (hb hby at_10) hr) ?_
  show OwnR _ _ _ _ _ _ _ (T7.setTop (mkF m 11 #[.val (.int p1), .val (.int p2), .val (.int p3), .val (.int p4), .val (.int p5), .val (.ref b6), .unset, .unset, .unset, .unset, .unset, .unset] [(.int (3 : Int32)), (.int p1)]))
  refine OwnR.of (fun _ hr => XS.iand X7.here hx rfl (hb hby at_11) rfl hr) ?_
  show OwnR _ _ _ _ _ _ _ (T7.setTop (mkF m 12 #[.val (.int p1), .val (.int p2), .val (.int p3), .val (.int p4), .val (.int p5), .val (.ref b6), .unset, .unset, .unset, .unset, .unset, .unset] [(.int (p1 &&& (3 : Int32)))]))
  refine OwnR.of (fun _ hr => XS.iconst X7.here hx rfl (hb hby at_12) hr) ?_
  show OwnR _ _ _ _ _ _ _ (T7.setTop (mkF m 13 #[.val (.int p1), .val (.int p2), .val (.int p3), .val (.int p4), .val (.int p5), .val (.ref b6), .unset, .unset, .unset, .unset, .unset, .unset] [(.int (1 : Int32)), (.int (p1 &&& (3 : Int32)))]))
  refine OwnR.of (fun _ hr => XS.iadd X7.here hx rfl (hb hby at_13) rfl hr) ?_
  show OwnR _ _ _ _ _ _ _ (T7.setTop (mkF m 14 #[.val (.int p1), .val (.int p2), .val (.int p3), .val (.int p4), .val (.int p5), .val (.ref b6), .unset, .unset, .unset, .unset, .unset, .unset] [(.int ((p1 &&& (3 : Int32)) + (1 : Int32)))]))
  refine OwnR.of (fun _ hr => XS.istore X7.here hx rfl (hb hby at_14) rfl (l' := #[.val (.int p1), .val (.int p2), .val (.int p3), .val (.int p4), .val (.int p5), .val (.ref b6), .val (.int ((p1 &&& (3 : Int32)) + (1 : Int32))), .unset, .unset, .unset, .unset, .unset]) rfl hr) ?_
  show OwnR _ _ _ _ _ _ _ (T7.setTop (mkF m 16 #[.val (.int p1), .val (.int p2), .val (.int p3), .val (.int p4), .val (.int p5), .val (.ref b6), .val (.int ((p1 &&& (3 : Int32)) + (1 : Int32))), .unset, .unset, .unset, .unset, .unset] []))
  obtain ⟨n, hn⟩ : ∃ z : Int32, z = ((p1 &&& (3 : Int32)) + (1 : Int32)) := ⟨_, rfl⟩
  rw [← hn]
  show OwnR _ _ _ _ _ _ _ (T7.setTop (mkF m 16 #[.val (.int p1), .val (.int p2), .val (.int p3), .val (.int p4), .val (.int p5), .val (.ref b6), .val (.int n), .unset, .unset, .unset, .unset, .unset] []))
  have hn4 : n = (1 : Int32) ∨ n = (2 : Int32) ∨ n = (3 : Int32) ∨ n = (4 : Int32) := by rw [hn]; exact own_four p1
  rcases hn4 with rfl | rfl | rfl | rfl
  · skip
    show OwnR _ _ _ _ _ _ _ (T7.setTop (mkF m 16 #[.val (.int p1), .val (.int p2), .val (.int p3), .val (.int p4), .val (.int p5), .val (.ref b6), .val (.int (1 : Int32)), .unset, .unset, .unset, .unset, .unset] []))
    refine OwnR.of (fun _ hr => XS.aload X7.here hx rfl (hb hby at_16) rfl rfl hr) ?_
    show OwnR _ _ _ _ _ _ _ (T7.setTop (mkF m 18 #[.val (.int p1), .val (.int p2), .val (.int p3), .val (.int p4), .val (.int p5), .val (.ref b6), .val (.int (1 : Int32)), .unset, .unset, .unset, .unset, .unset] [(.ref b6)]))
    refine OwnR.of (fun _ hr => XS.iloadN X7.here hx rfl (hb hby at_18) rfl hr) ?_
    show OwnR _ _ _ _ _ _ _ (T7.setTop (mkF m 19 #[.val (.int p1), .val (.int p2), .val (.int p3), .val (.int p4), .val (.int p5), .val (.ref b6), .val (.int (1 : Int32)), .unset, .unset, .unset, .unset, .unset] [(.int p2), (.ref b6)]))
    obtain ⟨cq8, kq8, q8a, q8b, q8c⟩ := isOf hZ rfl P7_1
    obtain ⟨_, _, ⟨T8, L8, kc8, ns8⟩, -, X8, ⟨Lc8, hQ8, l8, y8, z8⟩, st8⟩ := X7.virtualBack hx (y := (⟨"com/example/fast_taxonomy/fasttaxonomy/calculus/IntList", "add", "(I)V"⟩ : MethodName)) (z := (⟨"com/example/fast_taxonomy/fasttaxonomy/calculus/IntList", "add", "(I)V"⟩ : MethodName)) hown (mvT hZ (hw _ (List.mem_of_getElem? (i := 13) rfl))) (mvT hZ (hw _ (List.mem_of_getElem? (i := 14) rfl))) (notFace_of_selects (args := #[]) (mvT hZ (hw _ (List.mem_of_getElem? (i := 16) rfl)))) (mvT hZ (hw _ (List.mem_of_getElem? (i := 16) rfl))) (mvT hZ (hw _ (List.mem_of_getElem? (i := 15) rfl))) (by decide) (backOf (W := 0) (rm3_0 l Z a0 hw [] b6 p2 se ke (T7.heap) n0 (Nat.le_trans Z0 K7.1) P7_1 P7_2 P7_3 (Arv.keep V_EMPTY K7 nin0) gn_b6 (Ne.symm (Nat.ne_of_lt (Nat.lt_of_lt_of_le V_EMPTY.lt (Nat.le_of_eq g6.symm))))) hZ (hw _ (List.mem_of_getElem? (i := 17) rfl)) (hw _ (List.mem_of_getElem? (i := 2) rfl)) (by decide) (by decide)) q8a q8c (g := (mkF m 19 #[.val (.int p1), .val (.int p2), .val (.int p3), .val (.int p4), .val (.int p5), .val (.ref b6), .val (.int (1 : Int32)), .unset, .unset, .unset, .unset, .unset] [(.int p2), (.ref b6)])) rfl (by rw [hml]; rfl) (Steps.refl _) (argsL := [(.int p2)]) (rest := []) (lenOf pd__I_V rfl) rfl (by show 2 * 0 + _ ≤ _; exact Nat.le_of_eq rfl) (hb hby at_19) (fun _ _ => ⟨rfl, rfl, (by decide : 1 + 1 ≤ _), (by decide : 2 + 8 ≤ _)⟩)
    dsimp only [Pt.U, Pt.locs, Pt.cells, Pt.slots] at X8 l8 y8 z8 st8 hQ8
    subst l8 y8 z8
    obtain ⟨b_8, kb_8, rfl, N8q, P8_0, P8_1, P8_2, P8_3, P8_4, P8_5, P8_6⟩ := hQ8
    have K8 : Keep h0 T8.heap [] := Keep.trans K7 P8_0 (allS (Or.inr sz_b6) all0)
    have sz_b_8 : h0.size ≤ b_8 := Nat.le_trans K7.1 P8_5
    have N8 := Fr.app N7 N8q
    refine OwnR.of (fun _ hr => st8.trans hr) ?_
    show OwnR _ _ _ _ _ _ _ (T8.setTop (mkF m 22 #[.val (.int p1), .val (.int p2), .val (.int p3), .val (.int p4), .val (.int p5), .val (.ref b6), .val (.int (1 : Int32)), .unset, .unset, .unset, .unset, .unset] []))
    refine OwnR.of (fun _ hr => XS.iload X8.here hx rfl (hb hby at_22) rfl hr) ?_
    show OwnR _ _ _ _ _ _ _ (T8.setTop (mkF m 24 #[.val (.int p1), .val (.int p2), .val (.int p3), .val (.int p4), .val (.int p5), .val (.ref b6), .val (.int (1 : Int32)), .unset, .unset, .unset, .unset, .unset] [(.int (1 : Int32))]))
    refine OwnR.of (fun _ hr => XS.iconst X8.here hx rfl (hb hby at_24) hr) ?_
    show OwnR _ _ _ _ _ _ _ (T8.setTop (mkF m 25 #[.val (.int p1), .val (.int p2), .val (.int p3), .val (.int p4), .val (.int p5), .val (.ref b6), .val (.int (1 : Int32)), .unset, .unset, .unset, .unset, .unset] [(.int (2 : Int32)), (.int (1 : Int32))]))
    refine OwnR.of (fun _ hr => XS.icmpYes X8.here hx rfl (pc0 := 25) (pc' := 34) rfl (hb hby at_25) rfl (tlt (by decide : (1 : Int32) < (2 : Int32))).1 (by decide) (by decide) hr) ?_
    show OwnR _ _ _ _ _ _ _ (T8.setTop (mkF m 34 #[.val (.int p1), .val (.int p2), .val (.int p3), .val (.int p4), .val (.int p5), .val (.ref b6), .val (.int (1 : Int32)), .unset, .unset, .unset, .unset, .unset] []))
    refine OwnR.of (fun _ hr => XS.iload X8.here hx rfl (hb hby at_34) rfl hr) ?_
    show OwnR _ _ _ _ _ _ _ (T8.setTop (mkF m 36 #[.val (.int p1), .val (.int p2), .val (.int p3), .val (.int p4), .val (.int p5), .val (.ref b6), .val (.int (1 : Int32)), .unset, .unset, .unset, .unset, .unset] [(.int (1 : Int32))]))
    refine OwnR.of (fun _ hr => XS.iconst X8.here hx rfl (hb hby at_36) hr) ?_
    show OwnR _ _ _ _ _ _ _ (T8.setTop (mkF m 37 #[.val (.int p1), .val (.int p2), .val (.int p3), .val (.int p4), .val (.int p5), .val (.ref b6), .val (.int (1 : Int32)), .unset, .unset, .unset, .unset, .unset] [(.int (3 : Int32)), (.int (1 : Int32))]))
    refine OwnR.of (fun _ hr => XS.icmpYes X8.here hx rfl (pc0 := 37) (pc' := 46) rfl (hb hby at_37) rfl (tlt (by decide : (1 : Int32) < (3 : Int32))).1 (by decide) (by decide) hr) ?_
    show OwnR _ _ _ _ _ _ _ (T8.setTop (mkF m 46 #[.val (.int p1), .val (.int p2), .val (.int p3), .val (.int p4), .val (.int p5), .val (.ref b6), .val (.int (1 : Int32)), .unset, .unset, .unset, .unset, .unset] []))
    refine OwnR.of (fun _ hr => XS.iload X8.here hx rfl (hb hby at_46) rfl hr) ?_
    show OwnR _ _ _ _ _ _ _ (T8.setTop (mkF m 48 #[.val (.int p1), .val (.int p2), .val (.int p3), .val (.int p4), .val (.int p5), .val (.ref b6), .val (.int (1 : Int32)), .unset, .unset, .unset, .unset, .unset] [(.int (1 : Int32))]))
    refine OwnR.of (fun _ hr => XS.iconst X8.here hx rfl (hb hby at_48) hr) ?_
    show OwnR _ _ _ _ _ _ _ (T8.setTop (mkF m 49 #[.val (.int p1), .val (.int p2), .val (.int p3), .val (.int p4), .val (.int p5), .val (.ref b6), .val (.int (1 : Int32)), .unset, .unset, .unset, .unset, .unset] [(.int (4 : Int32)), (.int (1 : Int32))]))
    refine OwnR.of (fun _ hr => XS.icmpYes X8.here hx rfl (pc0 := 49) (pc' := 59) rfl (hb hby at_49) rfl (tlt (by decide : (1 : Int32) < (4 : Int32))).1 (by decide) (by decide) hr) ?_
    show OwnR _ _ _ _ _ _ _ (T8.setTop (mkF m 59 #[.val (.int p1), .val (.int p2), .val (.int p3), .val (.int p4), .val (.int p5), .val (.ref b6), .val (.int (1 : Int32)), .unset, .unset, .unset, .unset, .unset] []))
    refine OwnR.of (fun _ hr => XS.iload X8.here hx rfl (hb hby at_59) rfl hr) ?_
    show OwnR _ _ _ _ _ _ _ (T8.setTop (mkF m 61 #[.val (.int p1), .val (.int p2), .val (.int p3), .val (.int p4), .val (.int p5), .val (.ref b6), .val (.int (1 : Int32)), .unset, .unset, .unset, .unset, .unset] [(.int (1 : Int32))]))
    refine OwnR.of (fun _ hr => XS.iconst X8.here hx rfl (hb hby at_61) hr) ?_
    show OwnR _ _ _ _ _ _ _ (T8.setTop (mkF m 62 #[.val (.int p1), .val (.int p2), .val (.int p3), .val (.int p4), .val (.int p5), .val (.ref b6), .val (.int (1 : Int32)), .unset, .unset, .unset, .unset, .unset] [(.int (1 : Int32)), (.int (1 : Int32))]))
    refine OwnR.of (fun _ hr => XS.icmpNo X8.here hx rfl (hb hby at_62) rfl (teq (by decide : (1 : Int32) = (1 : Int32))).2 hr) ?_
    show OwnR _ _ _ _ _ _ _ (T8.setTop (mkF m 65 #[.val (.int p1), .val (.int p2), .val (.int p3), .val (.int p4), .val (.int p5), .val (.ref b6), .val (.int (1 : Int32)), .unset, .unset, .unset, .unset, .unset] []))
    refine OwnR.of (fun _ hr => XS.iloadN X8.here hx rfl (hb hby at_65) rfl hr) ?_
    show OwnR _ _ _ _ _ _ _ (T8.setTop (mkF m 66 #[.val (.int p1), .val (.int p2), .val (.int p3), .val (.int p4), .val (.int p5), .val (.ref b6), .val (.int (1 : Int32)), .unset, .unset, .unset, .unset, .unset] [(.int p2)]))
    refine OwnR.of (fun _ hr => XS.goto X8.here hx rfl (pc0 := 66) (pc' := 91) rfl (hb hby at_66) (by decide) (by decide) hr) ?_
    show OwnR _ _ _ _ _ _ _ (T8.setTop (mkF m 91 #[.val (.int p1), .val (.int p2), .val (.int p3), .val (.int p4), .val (.int p5), .val (.ref b6), .val (.int (1 : Int32)), .unset, .unset, .unset, .unset, .unset] [(.int p2)]))
    refine OwnR.of (fun _ hr => XS.istore X8.here hx rfl (hb hby at_91) rfl (l' := #[.val (.int p1), .val (.int p2), .val (.int p3), .val (.int p4), .val (.int p5), .val (.ref b6), .val (.int (1 : Int32)), .val (.int p2), .unset, .unset, .unset, .unset]) rfl hr) ?_
    show OwnR _ _ _ _ _ _ _ (T8.setTop (mkF m 93 #[.val (.int p1), .val (.int p2), .val (.int p3), .val (.int p4), .val (.int p5), .val (.ref b6), .val (.int (1 : Int32)), .val (.int p2), .unset, .unset, .unset, .unset] []))
    refine OwnR.of (fun _ hr => XS.aload X8.here hx rfl (hb hby at_93) rfl rfl hr) ?_
    show OwnR _ _ _ _ _ _ _ (T8.setTop (mkF m 95 #[.val (.int p1), .val (.int p2), .val (.int p3), .val (.int p4), .val (.int p5), .val (.ref b6), .val (.int (1 : Int32)), .val (.int p2), .unset, .unset, .unset, .unset] [(.ref b6)]))
    obtain ⟨cq9, kq9, q9a, q9b, q9c⟩ := isOf hZ rfl P8_1
    obtain ⟨_, _, ⟨T9, L9, kc9, ns9⟩, -, X9, ⟨Lc9, hQ9, l9, y9, z9⟩, st9⟩ := X8.virtualBack hx (y := (⟨"com/example/fast_taxonomy/fasttaxonomy/calculus/IntList", "removeLast", "()I"⟩ : MethodName)) (z := (⟨"com/example/fast_taxonomy/fasttaxonomy/calculus/IntList", "removeLast", "()I"⟩ : MethodName)) hown (mvT hZ (hw _ (List.mem_of_getElem? (i := 36) rfl))) (mvT hZ (hw _ (List.mem_of_getElem? (i := 37) rfl))) (notFace_of_selects (args := #[]) (mvT hZ (hw _ (List.mem_of_getElem? (i := 39) rfl)))) (mvT hZ (hw _ (List.mem_of_getElem? (i := 39) rfl))) (mvT hZ (hw _ (List.mem_of_getElem? (i := 38) rfl))) (by decide) (backOf (W := 0) (rm7_1 l Z a0 hw [] b6 b_8 kb_8 p2 (0 : Int32) (0 : Int32) (0 : Int32) (T8.heap) n0 (Nat.le_trans Z0 K8.1) P8_1 P8_2 P8_3 P8_4 gn_b6 (Nat.ne_of_lt (Nat.lt_of_lt_of_le (A6.keep P7_0).lt P8_5))) hZ (hw _ (List.mem_of_getElem? (i := 40) rfl)) (hw _ (List.mem_of_getElem? (i := 2) rfl)) (by decide) (by decide)) q9a q9c (g := (mkF m 95 #[.val (.int p1), .val (.int p2), .val (.int p3), .val (.int p4), .val (.int p5), .val (.ref b6), .val (.int (1 : Int32)), .val (.int p2), .unset, .unset, .unset, .unset] [(.ref b6)])) rfl (by rw [hml]; rfl) (Steps.refl _) (argsL := []) (rest := []) (lenOf pd___I rfl) rfl (by show 2 * 0 + _ ≤ _; exact Nat.le_of_eq rfl) (hb hby at_95) (fun _ _ => ⟨rfl, rfl, (by decide : 2 + 0 ≤ _), (by decide : 10 + 0 ≤ _)⟩)
    dsimp only [Pt.U, Pt.locs, Pt.cells, Pt.slots] at X9 l9 y9 z9 st9 hQ9
    subst l9 y9 z9
    obtain ⟨rfl, N9q, P9_0, P9_1, P9_2, P9_3⟩ := hQ9
    have K9 : Keep h0 T9.heap [] := Keep.trans K8 P9_0 (allS (Or.inr sz_b6) all0)
    have N9 := Fr.app N8 N9q
    refine OwnR.of (fun _ hr => st9.trans hr) ?_
    show OwnR _ _ _ _ _ _ _ (T9.setTop (mkF m 98 #[.val (.int p1), .val (.int p2), .val (.int p3), .val (.int p4), .val (.int p5), .val (.ref b6), .val (.int (1 : Int32)), .val (.int p2), .unset, .unset, .unset, .unset] [(.int p2)]))
    refine OwnR.of (fun _ hr => XS.istore X9.here hx rfl (hb hby at_98) rfl (l' := #[.val (.int p1), .val (.int p2), .val (.int p3), .val (.int p4), .val (.int p5), .val (.ref b6), .val (.int (1 : Int32)), .val (.int p2), .val (.int p2), .unset, .unset, .unset]) rfl hr) ?_
    show OwnR _ _ _ _ _ _ _ (T9.setTop (mkF m 100 #[.val (.int p1), .val (.int p2), .val (.int p3), .val (.int p4), .val (.int p5), .val (.ref b6), .val (.int (1 : Int32)), .val (.int p2), .val (.int p2), .unset, .unset, .unset] []))
    refine OwnR.of (fun _ hr => XS.iload X9.here hx rfl (hb hby at_100) rfl hr) ?_
    show OwnR _ _ _ _ _ _ _ (T9.setTop (mkF m 102 #[.val (.int p1), .val (.int p2), .val (.int p3), .val (.int p4), .val (.int p5), .val (.ref b6), .val (.int (1 : Int32)), .val (.int p2), .val (.int p2), .unset, .unset, .unset] [(.int p2)]))
    refine OwnR.of (fun _ hr => XS.iload X9.here hx rfl (hb hby at_102) rfl hr) ?_
    show OwnR _ _ _ _ _ _ _ (T9.setTop (mkF m 104 #[.val (.int p1), .val (.int p2), .val (.int p3), .val (.int p4), .val (.int p5), .val (.ref b6), .val (.int (1 : Int32)), .val (.int p2), .val (.int p2), .unset, .unset, .unset] [(.int p2), (.int p2)]))
    refine OwnR.of (fun _ hr => XS.icmpNo X9.here hx rfl (hb hby at_104) rfl (teq rfl).2 hr) ?_
    show OwnR _ _ _ _ _ _ _ (T9.setTop (mkF m 107 #[.val (.int p1), .val (.int p2), .val (.int p3), .val (.int p4), .val (.int p5), .val (.ref b6), .val (.int (1 : Int32)), .val (.int p2), .val (.int p2), .unset, .unset, .unset] []))
    refine OwnR.of (fun _ hr => XS.aload X9.here hx rfl (hb hby at_107) rfl rfl hr) ?_
    show OwnR _ _ _ _ _ _ _ (T9.setTop (mkF m 109 #[.val (.int p1), .val (.int p2), .val (.int p3), .val (.int p4), .val (.int p5), .val (.ref b6), .val (.int (1 : Int32)), .val (.int p2), .val (.int p2), .unset, .unset, .unset] [(.ref b6)]))
    obtain ⟨cq10, kq10, q10a, q10b, q10c⟩ := isOf hZ rfl P9_1
    obtain ⟨_, _, ⟨T10, L10, kc10, ns10⟩, -, X10, ⟨Lc10, hQ10, l10, y10, z10⟩, st10⟩ := X9.virtualBack hx (y := (⟨"com/example/fast_taxonomy/fasttaxonomy/calculus/IntList", "size", "()I"⟩ : MethodName)) (z := (⟨"com/example/fast_taxonomy/fasttaxonomy/calculus/IntList", "size", "()I"⟩ : MethodName)) hown (mvT hZ (hw _ (List.mem_of_getElem? (i := 41) rfl))) (mvT hZ (hw _ (List.mem_of_getElem? (i := 42) rfl))) (notFace_of_selects (args := #[]) (mvT hZ (hw _ (List.mem_of_getElem? (i := 44) rfl)))) (mvT hZ (hw _ (List.mem_of_getElem? (i := 44) rfl))) (mvT hZ (hw _ (List.mem_of_getElem? (i := 43) rfl))) (by decide) (backOf (W := 0) (rm8 l Z a0 hw [] b6 (0 : Int32) (T9.heap) n0 (Nat.le_trans Z0 K9.1) P9_1 P9_3) hZ (hw _ (List.mem_of_getElem? (i := 45) rfl)) (hw _ (List.mem_of_getElem? (i := 2) rfl)) (by decide) (by decide)) q10a q10c (g := (mkF m 109 #[.val (.int p1), .val (.int p2), .val (.int p3), .val (.int p4), .val (.int p5), .val (.ref b6), .val (.int (1 : Int32)), .val (.int p2), .val (.int p2), .unset, .unset, .unset] [(.ref b6)])) rfl (by rw [hml]; rfl) (Steps.refl _) (argsL := []) (rest := []) (lenOf pd___I rfl) rfl (by show 2 * 0 + _ ≤ _; exact Nat.le_of_eq rfl) (hb hby at_109) (fun _ _ => ⟨rfl, rfl, (by decide : 2 + 0 ≤ _), (by decide : 10 + 0 ≤ _)⟩)
    dsimp only [Pt.U, Pt.locs, Pt.cells, Pt.slots] at X10 l10 y10 z10 st10 hQ10
    subst l10 y10 z10
    obtain ⟨rfl, N10q, e10⟩ := hQ10
    have N10 := Fr.app N9 N10q
    refine OwnR.of (fun _ hr => st10.trans hr) ?_
    show OwnR _ _ _ _ _ _ _ (T10.setTop (mkF m 112 #[.val (.int p1), .val (.int p2), .val (.int p3), .val (.int p4), .val (.int p5), .val (.ref b6), .val (.int (1 : Int32)), .val (.int p2), .val (.int p2), .unset, .unset, .unset] [(.int (0 : Int32))]))
    refine OwnR.of (fun _ hr => XS.iload X10.here hx rfl (hb hby at_112) rfl hr) ?_
    show OwnR _ _ _ _ _ _ _ (T10.setTop (mkF m 114 #[.val (.int p1), .val (.int p2), .val (.int p3), .val (.int p4), .val (.int p5), .val (.ref b6), .val (.int (1 : Int32)), .val (.int p2), .val (.int p2), .unset, .unset, .unset] [(.int (1 : Int32)), (.int (0 : Int32))]))
    refine OwnR.of (fun _ hr => XS.iconst X10.here hx rfl (hb hby at_114) hr) ?_
    show OwnR _ _ _ _ _ _ _ (T10.setTop (mkF m 115 #[.val (.int p1), .val (.int p2), .val (.int p3), .val (.int p4), .val (.int p5), .val (.ref b6), .val (.int (1 : Int32)), .val (.int p2), .val (.int p2), .unset, .unset, .unset] [(.int (1 : Int32)), (.int (1 : Int32)), (.int (0 : Int32))]))
    refine OwnR.of (fun _ hr => XS.isub X10.here hx rfl (hb hby at_115) rfl hr) ?_
    show OwnR _ _ _ _ _ _ _ (T10.setTop (mkF m 116 #[.val (.int p1), .val (.int p2), .val (.int p3), .val (.int p4), .val (.int p5), .val (.ref b6), .val (.int (1 : Int32)), .val (.int p2), .val (.int p2), .unset, .unset, .unset] [(.int ((1 : Int32) - (1 : Int32))), (.int (0 : Int32))]))
    rw [(by decide : ((1 : Int32) - (1 : Int32)) = (0 : Int32))]
    show OwnR _ _ _ _ _ _ _ (T10.setTop (mkF m 116 #[.val (.int p1), .val (.int p2), .val (.int p3), .val (.int p4), .val (.int p5), .val (.ref b6), .val (.int (1 : Int32)), .val (.int p2), .val (.int p2), .unset, .unset, .unset] [(.int (0 : Int32)), (.int (0 : Int32))]))
    refine OwnR.of (fun _ hr => XS.icmpNo X10.here hx rfl (hb hby at_116) rfl (teq (by decide : (0 : Int32) = (0 : Int32))).2 hr) ?_
    show OwnR _ _ _ _ _ _ _ (T10.setTop (mkF m 119 #[.val (.int p1), .val (.int p2), .val (.int p3), .val (.int p4), .val (.int p5), .val (.ref b6), .val (.int (1 : Int32)), .val (.int p2), .val (.int p2), .unset, .unset, .unset] []))
    refine OwnR.of (fun _ hr => XS.iconst X10.here hx rfl (hb hby at_119) hr) ?_
    show OwnR _ _ _ _ _ _ _ (T10.setTop (mkF m 120 #[.val (.int p1), .val (.int p2), .val (.int p3), .val (.int p4), .val (.int p5), .val (.ref b6), .val (.int (1 : Int32)), .val (.int p2), .val (.int p2), .unset, .unset, .unset] [(.int (1 : Int32))]))
    refine OwnR.of (fun _ hr => XS.goto X10.here hx rfl (pc0 := 120) (pc' := 124) rfl (hb hby at_120) (by decide) (by decide) hr) ?_
    show OwnR _ _ _ _ _ _ _ (T10.setTop (mkF m 124 #[.val (.int p1), .val (.int p2), .val (.int p3), .val (.int p4), .val (.int p5), .val (.ref b6), .val (.int (1 : Int32)), .val (.int p2), .val (.int p2), .unset, .unset, .unset] [(.int (1 : Int32))]))
    refine OwnR.of (fun _ hr => XS.istore X10.here hx rfl (hb hby at_124) rfl (l' := #[.val (.int p1), .val (.int p2), .val (.int p3), .val (.int p4), .val (.int p5), .val (.ref b6), .val (.int (1 : Int32)), .val (.int p2), .val (.int p2), .val (.int (1 : Int32)), .unset, .unset]) rfl hr) ?_
    show OwnR _ _ _ _ _ _ _ (T10.setTop (mkF m 126 #[.val (.int p1), .val (.int p2), .val (.int p3), .val (.int p4), .val (.int p5), .val (.ref b6), .val (.int (1 : Int32)), .val (.int p2), .val (.int p2), .val (.int (1 : Int32)), .unset, .unset] []))
    refine OwnR.of (fun _ hr => XS.iload X10.here hx rfl (hb hby at_126) rfl hr) ?_
    show OwnR _ _ _ _ _ _ _ (T10.setTop (mkF m 128 #[.val (.int p1), .val (.int p2), .val (.int p3), .val (.int p4), .val (.int p5), .val (.ref b6), .val (.int (1 : Int32)), .val (.int p2), .val (.int p2), .val (.int (1 : Int32)), .unset, .unset] [(.int (1 : Int32))]))
    refine OwnR.of (fun _ hr => XS.iconst X10.here hx rfl (hb hby at_128) hr) ?_
    show OwnR _ _ _ _ _ _ _ (T10.setTop (mkF m 129 #[.val (.int p1), .val (.int p2), .val (.int p3), .val (.int p4), .val (.int p5), .val (.ref b6), .val (.int (1 : Int32)), .val (.int p2), .val (.int p2), .val (.int (1 : Int32)), .unset, .unset] [(.int (2 : Int32)), (.int (1 : Int32))]))
    refine OwnR.of (fun _ hr => XS.icmpYes X10.here hx rfl (pc0 := 129) (pc' := 193) rfl (hb hby at_129) rfl (tlt (by decide : (1 : Int32) < (2 : Int32))).1 (by decide) (by decide) hr) ?_
    show OwnR _ _ _ _ _ _ _ (T10.setTop (mkF m 193 #[.val (.int p1), .val (.int p2), .val (.int p3), .val (.int p4), .val (.int p5), .val (.ref b6), .val (.int (1 : Int32)), .val (.int p2), .val (.int p2), .val (.int (1 : Int32)), .unset, .unset] []))
    refine OwnR.of (fun _ hr => XS.iload X10.here hx rfl (hb hby at_193) rfl hr) ?_
    show OwnR _ _ _ _ _ _ _ (T10.setTop (mkF m 195 #[.val (.int p1), .val (.int p2), .val (.int p3), .val (.int p4), .val (.int p5), .val (.ref b6), .val (.int (1 : Int32)), .val (.int p2), .val (.int p2), .val (.int (1 : Int32)), .unset, .unset] [(.int (1 : Int32))]))
    refine OwnR.of (fun _ hr => XS.iconst X10.here hx rfl (hb hby at_195) hr) ?_
    show OwnR _ _ _ _ _ _ _ (T10.setTop (mkF m 196 #[.val (.int p1), .val (.int p2), .val (.int p3), .val (.int p4), .val (.int p5), .val (.ref b6), .val (.int (1 : Int32)), .val (.int p2), .val (.int p2), .val (.int (1 : Int32)), .unset, .unset] [(.int (3 : Int32)), (.int (1 : Int32))]))
    refine OwnR.of (fun _ hr => XS.icmpYes X10.here hx rfl (pc0 := 196) (pc' := 221) rfl (hb hby at_196) rfl (tlt (by decide : (1 : Int32) < (3 : Int32))).1 (by decide) (by decide) hr) ?_
    show OwnR _ _ _ _ _ _ _ (T10.setTop (mkF m 221 #[.val (.int p1), .val (.int p2), .val (.int p3), .val (.int p4), .val (.int p5), .val (.ref b6), .val (.int (1 : Int32)), .val (.int p2), .val (.int p2), .val (.int (1 : Int32)), .unset, .unset] []))
    refine OwnR.of (fun _ hr => XS.iload X10.here hx rfl (hb hby at_221) rfl hr) ?_
    show OwnR _ _ _ _ _ _ _ (T10.setTop (mkF m 223 #[.val (.int p1), .val (.int p2), .val (.int p3), .val (.int p4), .val (.int p5), .val (.ref b6), .val (.int (1 : Int32)), .val (.int p2), .val (.int p2), .val (.int (1 : Int32)), .unset, .unset] [(.int (1 : Int32))]))
    refine own_leafN X10 hx hlk (t := .boolean) Bd.returns (by simp) (hb hby at_223) (z' := (1 : Int32)) rfl (by decide) (by decide) ?_
    show Q0 Z  h0 n0 _ T10.heap _
    rw [show T10.heap = T9.heap from e10]
    refine ⟨?_, N10⟩
    show (some (.int (1 : Int32)) : Option Value) = some (.int (1 : Int32))
    rfl
  · skip
    show OwnR _ _ _ _ _ _ _ (T7.setTop (mkF m 16 #[.val (.int p1), .val (.int p2), .val (.int p3), .val (.int p4), .val (.int p5), .val (.ref b6), .val (.int (2 : Int32)), .unset, .unset, .unset, .unset, .unset] []))
    refine OwnR.of (fun _ hr => XS.aload X7.here hx rfl (hb hby at_16) rfl rfl hr) ?_
    show OwnR _ _ _ _ _ _ _ (T7.setTop (mkF m 18 #[.val (.int p1), .val (.int p2), .val (.int p3), .val (.int p4), .val (.int p5), .val (.ref b6), .val (.int (2 : Int32)), .unset, .unset, .unset, .unset, .unset] [(.ref b6)]))
    refine OwnR.of (fun _ hr => XS.iloadN X7.here hx rfl (hb hby at_18) rfl hr) ?_
    show OwnR _ _ _ _ _ _ _ (T7.setTop (mkF m 19 #[.val (.int p1), .val (.int p2), .val (.int p3), .val (.int p4), .val (.int p5), .val (.ref b6), .val (.int (2 : Int32)), .unset, .unset, .unset, .unset, .unset] [(.int p2), (.ref b6)]))
    obtain ⟨cq11, kq11, q11a, q11b, q11c⟩ := isOf hZ rfl P7_1
    obtain ⟨_, _, ⟨T11, L11, kc11, ns11⟩, -, X11, ⟨Lc11, hQ11, l11, y11, z11⟩, st11⟩ := X7.virtualBack hx (y := (⟨"com/example/fast_taxonomy/fasttaxonomy/calculus/IntList", "add", "(I)V"⟩ : MethodName)) (z := (⟨"com/example/fast_taxonomy/fasttaxonomy/calculus/IntList", "add", "(I)V"⟩ : MethodName)) hown (mvT hZ (hw _ (List.mem_of_getElem? (i := 13) rfl))) (mvT hZ (hw _ (List.mem_of_getElem? (i := 14) rfl))) (notFace_of_selects (args := #[]) (mvT hZ (hw _ (List.mem_of_getElem? (i := 16) rfl)))) (mvT hZ (hw _ (List.mem_of_getElem? (i := 16) rfl))) (mvT hZ (hw _ (List.mem_of_getElem? (i := 15) rfl))) (by decide) (backOf (W := 0) (rm3_0 l Z a0 hw [] b6 p2 se ke (T7.heap) n0 (Nat.le_trans Z0 K7.1) P7_1 P7_2 P7_3 (Arv.keep V_EMPTY K7 nin0) gn_b6 (Ne.symm (Nat.ne_of_lt (Nat.lt_of_lt_of_le V_EMPTY.lt (Nat.le_of_eq g6.symm))))) hZ (hw _ (List.mem_of_getElem? (i := 17) rfl)) (hw _ (List.mem_of_getElem? (i := 2) rfl)) (by decide) (by decide)) q11a q11c (g := (mkF m 19 #[.val (.int p1), .val (.int p2), .val (.int p3), .val (.int p4), .val (.int p5), .val (.ref b6), .val (.int (2 : Int32)), .unset, .unset, .unset, .unset, .unset] [(.int p2), (.ref b6)])) rfl (by rw [hml]; rfl) (Steps.refl _) (argsL := [(.int p2)]) (rest := []) (lenOf pd__I_V rfl) rfl (by show 2 * 0 + _ ≤ _; exact Nat.le_of_eq rfl) (hb hby at_19) (fun _ _ => ⟨rfl, rfl, (by decide : 1 + 1 ≤ _), (by decide : 2 + 8 ≤ _)⟩)
    dsimp only [Pt.U, Pt.locs, Pt.cells, Pt.slots] at X11 l11 y11 z11 st11 hQ11
    subst l11 y11 z11
    obtain ⟨b_11, kb_11, rfl, N11q, P11_0, P11_1, P11_2, P11_3, P11_4, P11_5, P11_6⟩ := hQ11
    have K11 : Keep h0 T11.heap [] := Keep.trans K7 P11_0 (allS (Or.inr sz_b6) all0)
    have sz_b_11 : h0.size ≤ b_11 := Nat.le_trans K7.1 P11_5
    have N11 := Fr.app N7 N11q
    refine OwnR.of (fun _ hr => st11.trans hr) ?_
    show OwnR _ _ _ _ _ _ _ (T11.setTop (mkF m 22 #[.val (.int p1), .val (.int p2), .val (.int p3), .val (.int p4), .val (.int p5), .val (.ref b6), .val (.int (2 : Int32)), .unset, .unset, .unset, .unset, .unset] []))
    refine OwnR.of (fun _ hr => XS.iload X11.here hx rfl (hb hby at_22) rfl hr) ?_
    show OwnR _ _ _ _ _ _ _ (T11.setTop (mkF m 24 #[.val (.int p1), .val (.int p2), .val (.int p3), .val (.int p4), .val (.int p5), .val (.ref b6), .val (.int (2 : Int32)), .unset, .unset, .unset, .unset, .unset] [(.int (2 : Int32))]))
    refine OwnR.of (fun _ hr => XS.iconst X11.here hx rfl (hb hby at_24) hr) ?_
    show OwnR _ _ _ _ _ _ _ (T11.setTop (mkF m 25 #[.val (.int p1), .val (.int p2), .val (.int p3), .val (.int p4), .val (.int p5), .val (.ref b6), .val (.int (2 : Int32)), .unset, .unset, .unset, .unset, .unset] [(.int (2 : Int32)), (.int (2 : Int32))]))
    refine OwnR.of (fun _ hr => XS.icmpNo X11.here hx rfl (hb hby at_25) rfl (flt (by decide : ¬ ((2 : Int32) < (2 : Int32)))).1 hr) ?_
    show OwnR _ _ _ _ _ _ _ (T11.setTop (mkF m 28 #[.val (.int p1), .val (.int p2), .val (.int p3), .val (.int p4), .val (.int p5), .val (.ref b6), .val (.int (2 : Int32)), .unset, .unset, .unset, .unset, .unset] []))
    refine OwnR.of (fun _ hr => XS.aload X11.here hx rfl (hb hby at_28) rfl rfl hr) ?_
    show OwnR _ _ _ _ _ _ _ (T11.setTop (mkF m 30 #[.val (.int p1), .val (.int p2), .val (.int p3), .val (.int p4), .val (.int p5), .val (.ref b6), .val (.int (2 : Int32)), .unset, .unset, .unset, .unset, .unset] [(.ref b6)]))
    refine OwnR.of (fun _ hr => XS.iloadN X11.here hx rfl (hb hby at_30) rfl hr) ?_
    show OwnR _ _ _ _ _ _ _ (T11.setTop (mkF m 31 #[.val (.int p1), .val (.int p2), .val (.int p3), .val (.int p4), .val (.int p5), .val (.ref b6), .val (.int (2 : Int32)), .unset, .unset, .unset, .unset, .unset] [(.int p3), (.ref b6)]))
    obtain ⟨cq12, kq12, q12a, q12b, q12c⟩ := isOf hZ rfl P11_1
    obtain ⟨_, _, ⟨T12, L12, kc12, ns12⟩, -, X12, ⟨Lc12, hQ12, l12, y12, z12⟩, st12⟩ := X11.virtualBack hx (y := (⟨"com/example/fast_taxonomy/fasttaxonomy/calculus/IntList", "add", "(I)V"⟩ : MethodName)) (z := (⟨"com/example/fast_taxonomy/fasttaxonomy/calculus/IntList", "add", "(I)V"⟩ : MethodName)) hown (mvT hZ (hw _ (List.mem_of_getElem? (i := 13) rfl))) (mvT hZ (hw _ (List.mem_of_getElem? (i := 14) rfl))) (notFace_of_selects (args := #[]) (mvT hZ (hw _ (List.mem_of_getElem? (i := 16) rfl)))) (mvT hZ (hw _ (List.mem_of_getElem? (i := 16) rfl))) (mvT hZ (hw _ (List.mem_of_getElem? (i := 15) rfl))) (by decide) (backOf (W := 0) (rm3_1 l Z a0 hw [] b6 p3 b_11 kb_11 p2 (T11.heap) n0 (Nat.le_trans Z0 K11.1) P11_1 P11_2 P11_3 P11_4 gn_b6 P11_6 (Nat.ne_of_lt (Nat.lt_of_lt_of_le (A6.keep P7_0).lt P11_5))) hZ (hw _ (List.mem_of_getElem? (i := 17) rfl)) (hw _ (List.mem_of_getElem? (i := 2) rfl)) (by decide) (by decide)) q12a q12c (g := (mkF m 31 #[.val (.int p1), .val (.int p2), .val (.int p3), .val (.int p4), .val (.int p5), .val (.ref b6), .val (.int (2 : Int32)), .unset, .unset, .unset, .unset, .unset] [(.int p3), (.ref b6)])) rfl (by rw [hml]; rfl) (Steps.refl _) (argsL := [(.int p3)]) (rest := []) (lenOf pd__I_V rfl) rfl (by show 2 * 0 + _ ≤ _; exact Nat.le_of_eq rfl) (hb hby at_31) (fun _ _ => ⟨rfl, rfl, (by decide : 2 + 0 ≤ _), (by decide : 10 + 0 ≤ _)⟩)
    dsimp only [Pt.U, Pt.locs, Pt.cells, Pt.slots] at X12 l12 y12 z12 st12 hQ12
    subst l12 y12 z12
    obtain ⟨rfl, N12q, P12_0, P12_1, P12_2, P12_3, P12_4⟩ := hQ12
    have K12 : Keep h0 T12.heap [] := Keep.trans K11 P12_0 (allS (Or.inr sz_b6) (allS (Or.inr sz_b_11) all0))
    have N12 := Fr.app N11 N12q
    refine OwnR.of (fun _ hr => st12.trans hr) ?_
    show OwnR _ _ _ _ _ _ _ (T12.setTop (mkF m 34 #[.val (.int p1), .val (.int p2), .val (.int p3), .val (.int p4), .val (.int p5), .val (.ref b6), .val (.int (2 : Int32)), .unset, .unset, .unset, .unset, .unset] []))
    refine OwnR.of (fun _ hr => XS.iload X12.here hx rfl (hb hby at_34) rfl hr) ?_
    show OwnR _ _ _ _ _ _ _ (T12.setTop (mkF m 36 #[.val (.int p1), .val (.int p2), .val (.int p3), .val (.int p4), .val (.int p5), .val (.ref b6), .val (.int (2 : Int32)), .unset, .unset, .unset, .unset, .unset] [(.int (2 : Int32))]))
    refine OwnR.of (fun _ hr => XS.iconst X12.here hx rfl (hb hby at_36) hr) ?_
    show OwnR _ _ _ _ _ _ _ (T12.setTop (mkF m 37 #[.val (.int p1), .val (.int p2), .val (.int p3), .val (.int p4), .val (.int p5), .val (.ref b6), .val (.int (2 : Int32)), .unset, .unset, .unset, .unset, .unset] [(.int (3 : Int32)), (.int (2 : Int32))]))
    refine OwnR.of (fun _ hr => XS.icmpYes X12.here hx rfl (pc0 := 37) (pc' := 46) rfl (hb hby at_37) rfl (tlt (by decide : (2 : Int32) < (3 : Int32))).1 (by decide) (by decide) hr) ?_
    show OwnR _ _ _ _ _ _ _ (T12.setTop (mkF m 46 #[.val (.int p1), .val (.int p2), .val (.int p3), .val (.int p4), .val (.int p5), .val (.ref b6), .val (.int (2 : Int32)), .unset, .unset, .unset, .unset, .unset] []))
    refine OwnR.of (fun _ hr => XS.iload X12.here hx rfl (hb hby at_46) rfl hr) ?_
    show OwnR _ _ _ _ _ _ _ (T12.setTop (mkF m 48 #[.val (.int p1), .val (.int p2), .val (.int p3), .val (.int p4), .val (.int p5), .val (.ref b6), .val (.int (2 : Int32)), .unset, .unset, .unset, .unset, .unset] [(.int (2 : Int32))]))
    refine OwnR.of (fun _ hr => XS.iconst X12.here hx rfl (hb hby at_48) hr) ?_
    show OwnR _ _ _ _ _ _ _ (T12.setTop (mkF m 49 #[.val (.int p1), .val (.int p2), .val (.int p3), .val (.int p4), .val (.int p5), .val (.ref b6), .val (.int (2 : Int32)), .unset, .unset, .unset, .unset, .unset] [(.int (4 : Int32)), (.int (2 : Int32))]))
    refine OwnR.of (fun _ hr => XS.icmpYes X12.here hx rfl (pc0 := 49) (pc' := 59) rfl (hb hby at_49) rfl (tlt (by decide : (2 : Int32) < (4 : Int32))).1 (by decide) (by decide) hr) ?_
    show OwnR _ _ _ _ _ _ _ (T12.setTop (mkF m 59 #[.val (.int p1), .val (.int p2), .val (.int p3), .val (.int p4), .val (.int p5), .val (.ref b6), .val (.int (2 : Int32)), .unset, .unset, .unset, .unset, .unset] []))
    refine OwnR.of (fun _ hr => XS.iload X12.here hx rfl (hb hby at_59) rfl hr) ?_
    show OwnR _ _ _ _ _ _ _ (T12.setTop (mkF m 61 #[.val (.int p1), .val (.int p2), .val (.int p3), .val (.int p4), .val (.int p5), .val (.ref b6), .val (.int (2 : Int32)), .unset, .unset, .unset, .unset, .unset] [(.int (2 : Int32))]))
    refine OwnR.of (fun _ hr => XS.iconst X12.here hx rfl (hb hby at_61) hr) ?_
    show OwnR _ _ _ _ _ _ _ (T12.setTop (mkF m 62 #[.val (.int p1), .val (.int p2), .val (.int p3), .val (.int p4), .val (.int p5), .val (.ref b6), .val (.int (2 : Int32)), .unset, .unset, .unset, .unset, .unset] [(.int (1 : Int32)), (.int (2 : Int32))]))
    refine OwnR.of (fun _ hr => XS.icmpYes X12.here hx rfl (pc0 := 62) (pc' := 69) rfl (hb hby at_62) rfl (feq (by decide : ¬ ((2 : Int32) = (1 : Int32)))).2 (by decide) (by decide) hr) ?_
    show OwnR _ _ _ _ _ _ _ (T12.setTop (mkF m 69 #[.val (.int p1), .val (.int p2), .val (.int p3), .val (.int p4), .val (.int p5), .val (.ref b6), .val (.int (2 : Int32)), .unset, .unset, .unset, .unset, .unset] []))
    refine OwnR.of (fun _ hr => XS.iload X12.here hx rfl (hb hby at_69) rfl hr) ?_
    show OwnR _ _ _ _ _ _ _ (T12.setTop (mkF m 71 #[.val (.int p1), .val (.int p2), .val (.int p3), .val (.int p4), .val (.int p5), .val (.ref b6), .val (.int (2 : Int32)), .unset, .unset, .unset, .unset, .unset] [(.int (2 : Int32))]))
    refine OwnR.of (fun _ hr => XS.iconst X12.here hx rfl (hb hby at_71) hr) ?_
    show OwnR _ _ _ _ _ _ _ (T12.setTop (mkF m 72 #[.val (.int p1), .val (.int p2), .val (.int p3), .val (.int p4), .val (.int p5), .val (.ref b6), .val (.int (2 : Int32)), .unset, .unset, .unset, .unset, .unset] [(.int (2 : Int32)), (.int (2 : Int32))]))
    refine OwnR.of (fun _ hr => XS.icmpNo X12.here hx rfl (hb hby at_72) rfl (teq (by decide : (2 : Int32) = (2 : Int32))).2 hr) ?_
    show OwnR _ _ _ _ _ _ _ (T12.setTop (mkF m 75 #[.val (.int p1), .val (.int p2), .val (.int p3), .val (.int p4), .val (.int p5), .val (.ref b6), .val (.int (2 : Int32)), .unset, .unset, .unset, .unset, .unset] []))
    refine OwnR.of (fun _ hr => XS.iloadN X12.here hx rfl (hb hby at_75) rfl hr) ?_
    show OwnR _ _ _ _ _ _ _ (T12.setTop (mkF m 76 #[.val (.int p1), .val (.int p2), .val (.int p3), .val (.int p4), .val (.int p5), .val (.ref b6), .val (.int (2 : Int32)), .unset, .unset, .unset, .unset, .unset] [(.int p3)]))
    refine OwnR.of (fun _ hr => XS.goto X12.here hx rfl (pc0 := 76) (pc' := 91) rfl (hb hby at_76) (by decide) (by decide) hr) ?_
    show OwnR _ _ _ _ _ _ _ (T12.setTop (mkF m 91 #[.val (.int p1), .val (.int p2), .val (.int p3), .val (.int p4), .val (.int p5), .val (.ref b6), .val (.int (2 : Int32)), .unset, .unset, .unset, .unset, .unset] [(.int p3)]))
    refine OwnR.of (fun _ hr => XS.istore X12.here hx rfl (hb hby at_91) rfl (l' := #[.val (.int p1), .val (.int p2), .val (.int p3), .val (.int p4), .val (.int p5), .val (.ref b6), .val (.int (2 : Int32)), .val (.int p3), .unset, .unset, .unset, .unset]) rfl hr) ?_
    show OwnR _ _ _ _ _ _ _ (T12.setTop (mkF m 93 #[.val (.int p1), .val (.int p2), .val (.int p3), .val (.int p4), .val (.int p5), .val (.ref b6), .val (.int (2 : Int32)), .val (.int p3), .unset, .unset, .unset, .unset] []))
    refine OwnR.of (fun _ hr => XS.aload X12.here hx rfl (hb hby at_93) rfl rfl hr) ?_
    show OwnR _ _ _ _ _ _ _ (T12.setTop (mkF m 95 #[.val (.int p1), .val (.int p2), .val (.int p3), .val (.int p4), .val (.int p5), .val (.ref b6), .val (.int (2 : Int32)), .val (.int p3), .unset, .unset, .unset, .unset] [(.ref b6)]))
    obtain ⟨cq13, kq13, q13a, q13b, q13c⟩ := isOf hZ rfl P12_1
    obtain ⟨_, _, ⟨T13, L13, kc13, ns13⟩, -, X13, ⟨Lc13, hQ13, l13, y13, z13⟩, st13⟩ := X12.virtualBack hx (y := (⟨"com/example/fast_taxonomy/fasttaxonomy/calculus/IntList", "removeLast", "()I"⟩ : MethodName)) (z := (⟨"com/example/fast_taxonomy/fasttaxonomy/calculus/IntList", "removeLast", "()I"⟩ : MethodName)) hown (mvT hZ (hw _ (List.mem_of_getElem? (i := 36) rfl))) (mvT hZ (hw _ (List.mem_of_getElem? (i := 37) rfl))) (notFace_of_selects (args := #[]) (mvT hZ (hw _ (List.mem_of_getElem? (i := 39) rfl)))) (mvT hZ (hw _ (List.mem_of_getElem? (i := 39) rfl))) (mvT hZ (hw _ (List.mem_of_getElem? (i := 38) rfl))) (by decide) (backOf (W := 0) (rm7_2 l Z a0 hw [] b6 b_11 kb_11 p2 p3 (0 : Int32) (0 : Int32) (T12.heap) n0 (Nat.le_trans Z0 K12.1) P12_1 P12_2 P12_3 P12_4 gn_b6 (Nat.ne_of_lt (Nat.lt_of_lt_of_le (A6.keep P7_0).lt P11_5))) hZ (hw _ (List.mem_of_getElem? (i := 40) rfl)) (hw _ (List.mem_of_getElem? (i := 2) rfl)) (by decide) (by decide)) q13a q13c (g := (mkF m 95 #[.val (.int p1), .val (.int p2), .val (.int p3), .val (.int p4), .val (.int p5), .val (.ref b6), .val (.int (2 : Int32)), .val (.int p3), .unset, .unset, .unset, .unset] [(.ref b6)])) rfl (by rw [hml]; rfl) (Steps.refl _) (argsL := []) (rest := []) (lenOf pd___I rfl) rfl (by show 2 * 0 + _ ≤ _; exact Nat.le_of_eq rfl) (hb hby at_95) (fun _ _ => ⟨rfl, rfl, (by decide : 2 + 0 ≤ _), (by decide : 10 + 0 ≤ _)⟩)
    dsimp only [Pt.U, Pt.locs, Pt.cells, Pt.slots] at X13 l13 y13 z13 st13 hQ13
    subst l13 y13 z13
    obtain ⟨rfl, N13q, P13_0, P13_1, P13_2, P13_3⟩ := hQ13
    have K13 : Keep h0 T13.heap [] := Keep.trans K12 P13_0 (allS (Or.inr sz_b6) all0)
    have N13 := Fr.app N12 N13q
    refine OwnR.of (fun _ hr => st13.trans hr) ?_
    show OwnR _ _ _ _ _ _ _ (T13.setTop (mkF m 98 #[.val (.int p1), .val (.int p2), .val (.int p3), .val (.int p4), .val (.int p5), .val (.ref b6), .val (.int (2 : Int32)), .val (.int p3), .unset, .unset, .unset, .unset] [(.int p3)]))
    refine OwnR.of (fun _ hr => XS.istore X13.here hx rfl (hb hby at_98) rfl (l' := #[.val (.int p1), .val (.int p2), .val (.int p3), .val (.int p4), .val (.int p5), .val (.ref b6), .val (.int (2 : Int32)), .val (.int p3), .val (.int p3), .unset, .unset, .unset]) rfl hr) ?_
    show OwnR _ _ _ _ _ _ _ (T13.setTop (mkF m 100 #[.val (.int p1), .val (.int p2), .val (.int p3), .val (.int p4), .val (.int p5), .val (.ref b6), .val (.int (2 : Int32)), .val (.int p3), .val (.int p3), .unset, .unset, .unset] []))
    refine OwnR.of (fun _ hr => XS.iload X13.here hx rfl (hb hby at_100) rfl hr) ?_
    show OwnR _ _ _ _ _ _ _ (T13.setTop (mkF m 102 #[.val (.int p1), .val (.int p2), .val (.int p3), .val (.int p4), .val (.int p5), .val (.ref b6), .val (.int (2 : Int32)), .val (.int p3), .val (.int p3), .unset, .unset, .unset] [(.int p3)]))
    refine OwnR.of (fun _ hr => XS.iload X13.here hx rfl (hb hby at_102) rfl hr) ?_
    show OwnR _ _ _ _ _ _ _ (T13.setTop (mkF m 104 #[.val (.int p1), .val (.int p2), .val (.int p3), .val (.int p4), .val (.int p5), .val (.ref b6), .val (.int (2 : Int32)), .val (.int p3), .val (.int p3), .unset, .unset, .unset] [(.int p3), (.int p3)]))
    refine OwnR.of (fun _ hr => XS.icmpNo X13.here hx rfl (hb hby at_104) rfl (teq rfl).2 hr) ?_
    show OwnR _ _ _ _ _ _ _ (T13.setTop (mkF m 107 #[.val (.int p1), .val (.int p2), .val (.int p3), .val (.int p4), .val (.int p5), .val (.ref b6), .val (.int (2 : Int32)), .val (.int p3), .val (.int p3), .unset, .unset, .unset] []))
    refine OwnR.of (fun _ hr => XS.aload X13.here hx rfl (hb hby at_107) rfl rfl hr) ?_
    show OwnR _ _ _ _ _ _ _ (T13.setTop (mkF m 109 #[.val (.int p1), .val (.int p2), .val (.int p3), .val (.int p4), .val (.int p5), .val (.ref b6), .val (.int (2 : Int32)), .val (.int p3), .val (.int p3), .unset, .unset, .unset] [(.ref b6)]))
    obtain ⟨cq14, kq14, q14a, q14b, q14c⟩ := isOf hZ rfl P13_1
    obtain ⟨_, _, ⟨T14, L14, kc14, ns14⟩, -, X14, ⟨Lc14, hQ14, l14, y14, z14⟩, st14⟩ := X13.virtualBack hx (y := (⟨"com/example/fast_taxonomy/fasttaxonomy/calculus/IntList", "size", "()I"⟩ : MethodName)) (z := (⟨"com/example/fast_taxonomy/fasttaxonomy/calculus/IntList", "size", "()I"⟩ : MethodName)) hown (mvT hZ (hw _ (List.mem_of_getElem? (i := 41) rfl))) (mvT hZ (hw _ (List.mem_of_getElem? (i := 42) rfl))) (notFace_of_selects (args := #[]) (mvT hZ (hw _ (List.mem_of_getElem? (i := 44) rfl)))) (mvT hZ (hw _ (List.mem_of_getElem? (i := 44) rfl))) (mvT hZ (hw _ (List.mem_of_getElem? (i := 43) rfl))) (by decide) (backOf (W := 0) (rm8 l Z a0 hw [] b6 (1 : Int32) (T13.heap) n0 (Nat.le_trans Z0 K13.1) P13_1 P13_3) hZ (hw _ (List.mem_of_getElem? (i := 45) rfl)) (hw _ (List.mem_of_getElem? (i := 2) rfl)) (by decide) (by decide)) q14a q14c (g := (mkF m 109 #[.val (.int p1), .val (.int p2), .val (.int p3), .val (.int p4), .val (.int p5), .val (.ref b6), .val (.int (2 : Int32)), .val (.int p3), .val (.int p3), .unset, .unset, .unset] [(.ref b6)])) rfl (by rw [hml]; rfl) (Steps.refl _) (argsL := []) (rest := []) (lenOf pd___I rfl) rfl (by show 2 * 0 + _ ≤ _; exact Nat.le_of_eq rfl) (hb hby at_109) (fun _ _ => ⟨rfl, rfl, (by decide : 2 + 0 ≤ _), (by decide : 10 + 0 ≤ _)⟩)
    dsimp only [Pt.U, Pt.locs, Pt.cells, Pt.slots] at X14 l14 y14 z14 st14 hQ14
    subst l14 y14 z14
    obtain ⟨rfl, N14q, e14⟩ := hQ14
    have N14 := Fr.app N13 N14q
    refine OwnR.of (fun _ hr => st14.trans hr) ?_
    show OwnR _ _ _ _ _ _ _ (T14.setTop (mkF m 112 #[.val (.int p1), .val (.int p2), .val (.int p3), .val (.int p4), .val (.int p5), .val (.ref b6), .val (.int (2 : Int32)), .val (.int p3), .val (.int p3), .unset, .unset, .unset] [(.int (1 : Int32))]))
    refine OwnR.of (fun _ hr => XS.iload X14.here hx rfl (hb hby at_112) rfl hr) ?_
    show OwnR _ _ _ _ _ _ _ (T14.setTop (mkF m 114 #[.val (.int p1), .val (.int p2), .val (.int p3), .val (.int p4), .val (.int p5), .val (.ref b6), .val (.int (2 : Int32)), .val (.int p3), .val (.int p3), .unset, .unset, .unset] [(.int (2 : Int32)), (.int (1 : Int32))]))
    refine OwnR.of (fun _ hr => XS.iconst X14.here hx rfl (hb hby at_114) hr) ?_
    show OwnR _ _ _ _ _ _ _ (T14.setTop (mkF m 115 #[.val (.int p1), .val (.int p2), .val (.int p3), .val (.int p4), .val (.int p5), .val (.ref b6), .val (.int (2 : Int32)), .val (.int p3), .val (.int p3), .unset, .unset, .unset] [(.int (1 : Int32)), (.int (2 : Int32)), (.int (1 : Int32))]))
    refine OwnR.of (fun _ hr => XS.isub X14.here hx rfl (hb hby at_115) rfl hr) ?_
    show OwnR _ _ _ _ _ _ _ (T14.setTop (mkF m 116 #[.val (.int p1), .val (.int p2), .val (.int p3), .val (.int p4), .val (.int p5), .val (.ref b6), .val (.int (2 : Int32)), .val (.int p3), .val (.int p3), .unset, .unset, .unset] [(.int ((2 : Int32) - (1 : Int32))), (.int (1 : Int32))]))
    rw [(by decide : ((2 : Int32) - (1 : Int32)) = (1 : Int32))]
    show OwnR _ _ _ _ _ _ _ (T14.setTop (mkF m 116 #[.val (.int p1), .val (.int p2), .val (.int p3), .val (.int p4), .val (.int p5), .val (.ref b6), .val (.int (2 : Int32)), .val (.int p3), .val (.int p3), .unset, .unset, .unset] [(.int (1 : Int32)), (.int (1 : Int32))]))
    refine OwnR.of (fun _ hr => XS.icmpNo X14.here hx rfl (hb hby at_116) rfl (teq (by decide : (1 : Int32) = (1 : Int32))).2 hr) ?_
    show OwnR _ _ _ _ _ _ _ (T14.setTop (mkF m 119 #[.val (.int p1), .val (.int p2), .val (.int p3), .val (.int p4), .val (.int p5), .val (.ref b6), .val (.int (2 : Int32)), .val (.int p3), .val (.int p3), .unset, .unset, .unset] []))
    refine OwnR.of (fun _ hr => XS.iconst X14.here hx rfl (hb hby at_119) hr) ?_
    show OwnR _ _ _ _ _ _ _ (T14.setTop (mkF m 120 #[.val (.int p1), .val (.int p2), .val (.int p3), .val (.int p4), .val (.int p5), .val (.ref b6), .val (.int (2 : Int32)), .val (.int p3), .val (.int p3), .unset, .unset, .unset] [(.int (1 : Int32))]))
    refine OwnR.of (fun _ hr => XS.goto X14.here hx rfl (pc0 := 120) (pc' := 124) rfl (hb hby at_120) (by decide) (by decide) hr) ?_
    show OwnR _ _ _ _ _ _ _ (T14.setTop (mkF m 124 #[.val (.int p1), .val (.int p2), .val (.int p3), .val (.int p4), .val (.int p5), .val (.ref b6), .val (.int (2 : Int32)), .val (.int p3), .val (.int p3), .unset, .unset, .unset] [(.int (1 : Int32))]))
    refine OwnR.of (fun _ hr => XS.istore X14.here hx rfl (hb hby at_124) rfl (l' := #[.val (.int p1), .val (.int p2), .val (.int p3), .val (.int p4), .val (.int p5), .val (.ref b6), .val (.int (2 : Int32)), .val (.int p3), .val (.int p3), .val (.int (1 : Int32)), .unset, .unset]) rfl hr) ?_
    show OwnR _ _ _ _ _ _ _ (T14.setTop (mkF m 126 #[.val (.int p1), .val (.int p2), .val (.int p3), .val (.int p4), .val (.int p5), .val (.ref b6), .val (.int (2 : Int32)), .val (.int p3), .val (.int p3), .val (.int (1 : Int32)), .unset, .unset] []))
    refine OwnR.of (fun _ hr => XS.iload X14.here hx rfl (hb hby at_126) rfl hr) ?_
    show OwnR _ _ _ _ _ _ _ (T14.setTop (mkF m 128 #[.val (.int p1), .val (.int p2), .val (.int p3), .val (.int p4), .val (.int p5), .val (.ref b6), .val (.int (2 : Int32)), .val (.int p3), .val (.int p3), .val (.int (1 : Int32)), .unset, .unset] [(.int (2 : Int32))]))
    refine OwnR.of (fun _ hr => XS.iconst X14.here hx rfl (hb hby at_128) hr) ?_
    show OwnR _ _ _ _ _ _ _ (T14.setTop (mkF m 129 #[.val (.int p1), .val (.int p2), .val (.int p3), .val (.int p4), .val (.int p5), .val (.ref b6), .val (.int (2 : Int32)), .val (.int p3), .val (.int p3), .val (.int (1 : Int32)), .unset, .unset] [(.int (2 : Int32)), (.int (2 : Int32))]))
    refine OwnR.of (fun _ hr => XS.icmpNo X14.here hx rfl (hb hby at_129) rfl (flt (by decide : ¬ ((2 : Int32) < (2 : Int32)))).1 hr) ?_
    show OwnR _ _ _ _ _ _ _ (T14.setTop (mkF m 132 #[.val (.int p1), .val (.int p2), .val (.int p3), .val (.int p4), .val (.int p5), .val (.ref b6), .val (.int (2 : Int32)), .val (.int p3), .val (.int p3), .val (.int (1 : Int32)), .unset, .unset] []))
    refine OwnR.of (fun _ hr => XS.iload X14.here hx rfl (hb hby at_132) rfl hr) ?_
    show OwnR _ _ _ _ _ _ _ (T14.setTop (mkF m 134 #[.val (.int p1), .val (.int p2), .val (.int p3), .val (.int p4), .val (.int p5), .val (.ref b6), .val (.int (2 : Int32)), .val (.int p3), .val (.int p3), .val (.int (1 : Int32)), .unset, .unset] [(.int (2 : Int32))]))
    refine OwnR.of (fun _ hr => XS.iconst X14.here hx rfl (hb hby at_134) hr) ?_
    show OwnR _ _ _ _ _ _ _ (T14.setTop (mkF m 135 #[.val (.int p1), .val (.int p2), .val (.int p3), .val (.int p4), .val (.int p5), .val (.ref b6), .val (.int (2 : Int32)), .val (.int p3), .val (.int p3), .val (.int (1 : Int32)), .unset, .unset] [(.int (2 : Int32)), (.int (2 : Int32))]))
    refine OwnR.of (fun _ hr => XS.icmpNo X14.here hx rfl (hb hby at_135) rfl (teq (by decide : (2 : Int32) = (2 : Int32))).2 hr) ?_
    show OwnR _ _ _ _ _ _ _ (T14.setTop (mkF m 138 #[.val (.int p1), .val (.int p2), .val (.int p3), .val (.int p4), .val (.int p5), .val (.ref b6), .val (.int (2 : Int32)), .val (.int p3), .val (.int p3), .val (.int (1 : Int32)), .unset, .unset] []))
    refine OwnR.of (fun _ hr => XS.iloadN X14.here hx rfl (hb hby at_138) rfl hr) ?_
    show OwnR _ _ _ _ _ _ _ (T14.setTop (mkF m 139 #[.val (.int p1), .val (.int p2), .val (.int p3), .val (.int p4), .val (.int p5), .val (.ref b6), .val (.int (2 : Int32)), .val (.int p3), .val (.int p3), .val (.int (1 : Int32)), .unset, .unset] [(.int p2)]))
    refine OwnR.of (fun _ hr => XS.goto X14.here hx rfl (pc0 := 139) (pc' := 153) rfl (hb hby at_139) (by decide) (by decide) hr) ?_
    show OwnR _ _ _ _ _ _ _ (T14.setTop (mkF m 153 #[.val (.int p1), .val (.int p2), .val (.int p3), .val (.int p4), .val (.int p5), .val (.ref b6), .val (.int (2 : Int32)), .val (.int p3), .val (.int p3), .val (.int (1 : Int32)), .unset, .unset] [(.int p2)]))
    refine OwnR.of (fun _ hr => XS.istore X14.here hx rfl (hb hby at_153) rfl (l' := #[.val (.int p1), .val (.int p2), .val (.int p3), .val (.int p4), .val (.int p5), .val (.ref b6), .val (.int (2 : Int32)), .val (.int p3), .val (.int p3), .val (.int (1 : Int32)), .val (.int p2), .unset]) rfl hr) ?_
    show OwnR _ _ _ _ _ _ _ (T14.setTop (mkF m 155 #[.val (.int p1), .val (.int p2), .val (.int p3), .val (.int p4), .val (.int p5), .val (.ref b6), .val (.int (2 : Int32)), .val (.int p3), .val (.int p3), .val (.int (1 : Int32)), .val (.int p2), .unset] []))
    refine OwnR.of (fun _ hr => XS.aload X14.here hx rfl (hb hby at_155) rfl rfl hr) ?_
    show OwnR _ _ _ _ _ _ _ (T14.setTop (mkF m 157 #[.val (.int p1), .val (.int p2), .val (.int p3), .val (.int p4), .val (.int p5), .val (.ref b6), .val (.int (2 : Int32)), .val (.int p3), .val (.int p3), .val (.int (1 : Int32)), .val (.int p2), .unset] [(.ref b6)]))
    obtain ⟨cq15, kq15, q15a, q15b, q15c⟩ := isOf hZ e14 P13_1
    obtain ⟨_, _, ⟨T15, L15, kc15, ns15⟩, -, X15, ⟨Lc15, hQ15, l15, y15, z15⟩, st15⟩ := X14.virtualBack hx (y := (⟨"com/example/fast_taxonomy/fasttaxonomy/calculus/IntList", "removeLast", "()I"⟩ : MethodName)) (z := (⟨"com/example/fast_taxonomy/fasttaxonomy/calculus/IntList", "removeLast", "()I"⟩ : MethodName)) hown (mvT hZ (hw _ (List.mem_of_getElem? (i := 36) rfl))) (mvT hZ (hw _ (List.mem_of_getElem? (i := 37) rfl))) (notFace_of_selects (args := #[]) (mvT hZ (hw _ (List.mem_of_getElem? (i := 39) rfl)))) (mvT hZ (hw _ (List.mem_of_getElem? (i := 39) rfl))) (mvT hZ (hw _ (List.mem_of_getElem? (i := 38) rfl))) (by decide) (backOf (W := 0) (rm7_1 l Z a0 hw [] b6 b_11 kb_11 p2 p3 (0 : Int32) (0 : Int32) (T13.heap) n0 (Nat.le_trans Z0 K13.1) P13_1 P13_2 P13_3 (P12_4.keep P13_0 (ninS (Ne.symm (Nat.ne_of_lt (Nat.lt_of_lt_of_le (A6.keep P7_0).lt P11_5))) nin0)) gn_b6 (Nat.ne_of_lt (Nat.lt_of_lt_of_le (A6.keep P7_0).lt P11_5))) hZ (hw _ (List.mem_of_getElem? (i := 40) rfl)) (hw _ (List.mem_of_getElem? (i := 2) rfl)) (by decide) (by decide)) q15a q15c (g := (mkF m 157 #[.val (.int p1), .val (.int p2), .val (.int p3), .val (.int p4), .val (.int p5), .val (.ref b6), .val (.int (2 : Int32)), .val (.int p3), .val (.int p3), .val (.int (1 : Int32)), .val (.int p2), .unset] [(.ref b6)])) rfl (by rw [hml]; rfl) (Steps.refl _) (argsL := []) (rest := []) (lenOf pd___I rfl) rfl (by show 2 * 0 + _ ≤ _; exact Nat.le_of_eq rfl) (hb hby at_157) (fun _ _ => ⟨rfl, e14, (by decide : 2 + 0 ≤ _), (by decide : 10 + 0 ≤ _)⟩)
    dsimp only [Pt.U, Pt.locs, Pt.cells, Pt.slots] at X15 l15 y15 z15 st15 hQ15
    subst l15 y15 z15
    obtain ⟨rfl, N15q, P15_0, P15_1, P15_2, P15_3⟩ := hQ15
    have K15 : Keep h0 T15.heap [] := Keep.trans K13 P15_0 (allS (Or.inr sz_b6) all0)
    have N15 := Fr.app N14 N15q
    refine OwnR.of (fun _ hr => st15.trans hr) ?_
    show OwnR _ _ _ _ _ _ _ (T15.setTop (mkF m 160 #[.val (.int p1), .val (.int p2), .val (.int p3), .val (.int p4), .val (.int p5), .val (.ref b6), .val (.int (2 : Int32)), .val (.int p3), .val (.int p3), .val (.int (1 : Int32)), .val (.int p2), .unset] [(.int p2)]))
    refine OwnR.of (fun _ hr => XS.istore X15.here hx rfl (hb hby at_160) rfl (l' := #[.val (.int p1), .val (.int p2), .val (.int p3), .val (.int p4), .val (.int p5), .val (.ref b6), .val (.int (2 : Int32)), .val (.int p3), .val (.int p3), .val (.int (1 : Int32)), .val (.int p2), .val (.int p2)]) rfl hr) ?_
    show OwnR _ _ _ _ _ _ _ (T15.setTop (mkF m 162 #[.val (.int p1), .val (.int p2), .val (.int p3), .val (.int p4), .val (.int p5), .val (.ref b6), .val (.int (2 : Int32)), .val (.int p3), .val (.int p3), .val (.int (1 : Int32)), .val (.int p2), .val (.int p2)] []))
    refine OwnR.of (fun _ hr => XS.iload X15.here hx rfl (hb hby at_162) rfl hr) ?_
    show OwnR _ _ _ _ _ _ _ (T15.setTop (mkF m 164 #[.val (.int p1), .val (.int p2), .val (.int p3), .val (.int p4), .val (.int p5), .val (.ref b6), .val (.int (2 : Int32)), .val (.int p3), .val (.int p3), .val (.int (1 : Int32)), .val (.int p2), .val (.int p2)] [(.int (1 : Int32))]))
    refine OwnR.of (fun _ hr => XS.ifNo X15.here hx rfl (hb hby at_164) rfl ((if0 _ _).trans (feq (by decide : ¬ ((1 : Int32) = (0 : Int32)))).1) hr) ?_
    show OwnR _ _ _ _ _ _ _ (T15.setTop (mkF m 167 #[.val (.int p1), .val (.int p2), .val (.int p3), .val (.int p4), .val (.int p5), .val (.ref b6), .val (.int (2 : Int32)), .val (.int p3), .val (.int p3), .val (.int (1 : Int32)), .val (.int p2), .val (.int p2)] []))
    refine OwnR.of (fun _ hr => XS.iload X15.here hx rfl (hb hby at_167) rfl hr) ?_
    show OwnR _ _ _ _ _ _ _ (T15.setTop (mkF m 169 #[.val (.int p1), .val (.int p2), .val (.int p3), .val (.int p4), .val (.int p5), .val (.ref b6), .val (.int (2 : Int32)), .val (.int p3), .val (.int p3), .val (.int (1 : Int32)), .val (.int p2), .val (.int p2)] [(.int p2)]))
    refine OwnR.of (fun _ hr => XS.iload X15.here hx rfl (hb hby at_169) rfl hr) ?_
    show OwnR _ _ _ _ _ _ _ (T15.setTop (mkF m 171 #[.val (.int p1), .val (.int p2), .val (.int p3), .val (.int p4), .val (.int p5), .val (.ref b6), .val (.int (2 : Int32)), .val (.int p3), .val (.int p3), .val (.int (1 : Int32)), .val (.int p2), .val (.int p2)] [(.int p2), (.int p2)]))
    refine OwnR.of (fun _ hr => XS.icmpNo X15.here hx rfl (hb hby at_171) rfl (teq rfl).2 hr) ?_
    show OwnR _ _ _ _ _ _ _ (T15.setTop (mkF m 174 #[.val (.int p1), .val (.int p2), .val (.int p3), .val (.int p4), .val (.int p5), .val (.ref b6), .val (.int (2 : Int32)), .val (.int p3), .val (.int p3), .val (.int (1 : Int32)), .val (.int p2), .val (.int p2)] []))
    refine OwnR.of (fun _ hr => XS.aload X15.here hx rfl (hb hby at_174) rfl rfl hr) ?_
    show OwnR _ _ _ _ _ _ _ (T15.setTop (mkF m 176 #[.val (.int p1), .val (.int p2), .val (.int p3), .val (.int p4), .val (.int p5), .val (.ref b6), .val (.int (2 : Int32)), .val (.int p3), .val (.int p3), .val (.int (1 : Int32)), .val (.int p2), .val (.int p2)] [(.ref b6)]))
    obtain ⟨cq16, kq16, q16a, q16b, q16c⟩ := isOf hZ rfl P15_1
    obtain ⟨_, _, ⟨T16, L16, kc16, ns16⟩, -, X16, ⟨Lc16, hQ16, l16, y16, z16⟩, st16⟩ := X15.virtualBack hx (y := (⟨"com/example/fast_taxonomy/fasttaxonomy/calculus/IntList", "size", "()I"⟩ : MethodName)) (z := (⟨"com/example/fast_taxonomy/fasttaxonomy/calculus/IntList", "size", "()I"⟩ : MethodName)) hown (mvT hZ (hw _ (List.mem_of_getElem? (i := 41) rfl))) (mvT hZ (hw _ (List.mem_of_getElem? (i := 42) rfl))) (notFace_of_selects (args := #[]) (mvT hZ (hw _ (List.mem_of_getElem? (i := 44) rfl)))) (mvT hZ (hw _ (List.mem_of_getElem? (i := 44) rfl))) (mvT hZ (hw _ (List.mem_of_getElem? (i := 43) rfl))) (by decide) (backOf (W := 0) (rm8 l Z a0 hw [] b6 (0 : Int32) (T15.heap) n0 (Nat.le_trans Z0 K15.1) P15_1 P15_3) hZ (hw _ (List.mem_of_getElem? (i := 45) rfl)) (hw _ (List.mem_of_getElem? (i := 2) rfl)) (by decide) (by decide)) q16a q16c (g := (mkF m 176 #[.val (.int p1), .val (.int p2), .val (.int p3), .val (.int p4), .val (.int p5), .val (.ref b6), .val (.int (2 : Int32)), .val (.int p3), .val (.int p3), .val (.int (1 : Int32)), .val (.int p2), .val (.int p2)] [(.ref b6)])) rfl (by rw [hml]; rfl) (Steps.refl _) (argsL := []) (rest := []) (lenOf pd___I rfl) rfl (by show 2 * 0 + _ ≤ _; exact Nat.le_of_eq rfl) (hb hby at_176) (fun _ _ => ⟨rfl, rfl, (by decide : 2 + 0 ≤ _), (by decide : 10 + 0 ≤ _)⟩)
    dsimp only [Pt.U, Pt.locs, Pt.cells, Pt.slots] at X16 l16 y16 z16 st16 hQ16
    subst l16 y16 z16
    obtain ⟨rfl, N16q, e16⟩ := hQ16
    have N16 := Fr.app N15 N16q
    refine OwnR.of (fun _ hr => st16.trans hr) ?_
    show OwnR _ _ _ _ _ _ _ (T16.setTop (mkF m 179 #[.val (.int p1), .val (.int p2), .val (.int p3), .val (.int p4), .val (.int p5), .val (.ref b6), .val (.int (2 : Int32)), .val (.int p3), .val (.int p3), .val (.int (1 : Int32)), .val (.int p2), .val (.int p2)] [(.int (0 : Int32))]))
    refine OwnR.of (fun _ hr => XS.iload X16.here hx rfl (hb hby at_179) rfl hr) ?_
    show OwnR _ _ _ _ _ _ _ (T16.setTop (mkF m 181 #[.val (.int p1), .val (.int p2), .val (.int p3), .val (.int p4), .val (.int p5), .val (.ref b6), .val (.int (2 : Int32)), .val (.int p3), .val (.int p3), .val (.int (1 : Int32)), .val (.int p2), .val (.int p2)] [(.int (2 : Int32)), (.int (0 : Int32))]))
    refine OwnR.of (fun _ hr => XS.iconst X16.here hx rfl (hb hby at_181) hr) ?_
    show OwnR _ _ _ _ _ _ _ (T16.setTop (mkF m 182 #[.val (.int p1), .val (.int p2), .val (.int p3), .val (.int p4), .val (.int p5), .val (.ref b6), .val (.int (2 : Int32)), .val (.int p3), .val (.int p3), .val (.int (1 : Int32)), .val (.int p2), .val (.int p2)] [(.int (2 : Int32)), (.int (2 : Int32)), (.int (0 : Int32))]))
    refine OwnR.of (fun _ hr => XS.isub X16.here hx rfl (hb hby at_182) rfl hr) ?_
    show OwnR _ _ _ _ _ _ _ (T16.setTop (mkF m 183 #[.val (.int p1), .val (.int p2), .val (.int p3), .val (.int p4), .val (.int p5), .val (.ref b6), .val (.int (2 : Int32)), .val (.int p3), .val (.int p3), .val (.int (1 : Int32)), .val (.int p2), .val (.int p2)] [(.int ((2 : Int32) - (2 : Int32))), (.int (0 : Int32))]))
    rw [(by decide : ((2 : Int32) - (2 : Int32)) = (0 : Int32))]
    show OwnR _ _ _ _ _ _ _ (T16.setTop (mkF m 183 #[.val (.int p1), .val (.int p2), .val (.int p3), .val (.int p4), .val (.int p5), .val (.ref b6), .val (.int (2 : Int32)), .val (.int p3), .val (.int p3), .val (.int (1 : Int32)), .val (.int p2), .val (.int p2)] [(.int (0 : Int32)), (.int (0 : Int32))]))
    refine OwnR.of (fun _ hr => XS.icmpNo X16.here hx rfl (hb hby at_183) rfl (teq (by decide : (0 : Int32) = (0 : Int32))).2 hr) ?_
    show OwnR _ _ _ _ _ _ _ (T16.setTop (mkF m 186 #[.val (.int p1), .val (.int p2), .val (.int p3), .val (.int p4), .val (.int p5), .val (.ref b6), .val (.int (2 : Int32)), .val (.int p3), .val (.int p3), .val (.int (1 : Int32)), .val (.int p2), .val (.int p2)] []))
    refine OwnR.of (fun _ hr => XS.iconst X16.here hx rfl (hb hby at_186) hr) ?_
    show OwnR _ _ _ _ _ _ _ (T16.setTop (mkF m 187 #[.val (.int p1), .val (.int p2), .val (.int p3), .val (.int p4), .val (.int p5), .val (.ref b6), .val (.int (2 : Int32)), .val (.int p3), .val (.int p3), .val (.int (1 : Int32)), .val (.int p2), .val (.int p2)] [(.int (1 : Int32))]))
    refine OwnR.of (fun _ hr => XS.goto X16.here hx rfl (pc0 := 187) (pc' := 191) rfl (hb hby at_187) (by decide) (by decide) hr) ?_
    show OwnR _ _ _ _ _ _ _ (T16.setTop (mkF m 191 #[.val (.int p1), .val (.int p2), .val (.int p3), .val (.int p4), .val (.int p5), .val (.ref b6), .val (.int (2 : Int32)), .val (.int p3), .val (.int p3), .val (.int (1 : Int32)), .val (.int p2), .val (.int p2)] [(.int (1 : Int32))]))
    refine OwnR.of (fun _ hr => XS.istore X16.here hx rfl (hb hby at_191) rfl (l' := #[.val (.int p1), .val (.int p2), .val (.int p3), .val (.int p4), .val (.int p5), .val (.ref b6), .val (.int (2 : Int32)), .val (.int p3), .val (.int p3), .val (.int (1 : Int32)), .val (.int p2), .val (.int p2)]) rfl hr) ?_
    show OwnR _ _ _ _ _ _ _ (T16.setTop (mkF m 193 #[.val (.int p1), .val (.int p2), .val (.int p3), .val (.int p4), .val (.int p5), .val (.ref b6), .val (.int (2 : Int32)), .val (.int p3), .val (.int p3), .val (.int (1 : Int32)), .val (.int p2), .val (.int p2)] []))
    refine OwnR.of (fun _ hr => XS.iload X16.here hx rfl (hb hby at_193) rfl hr) ?_
    show OwnR _ _ _ _ _ _ _ (T16.setTop (mkF m 195 #[.val (.int p1), .val (.int p2), .val (.int p3), .val (.int p4), .val (.int p5), .val (.ref b6), .val (.int (2 : Int32)), .val (.int p3), .val (.int p3), .val (.int (1 : Int32)), .val (.int p2), .val (.int p2)] [(.int (2 : Int32))]))
    refine OwnR.of (fun _ hr => XS.iconst X16.here hx rfl (hb hby at_195) hr) ?_
    show OwnR _ _ _ _ _ _ _ (T16.setTop (mkF m 196 #[.val (.int p1), .val (.int p2), .val (.int p3), .val (.int p4), .val (.int p5), .val (.ref b6), .val (.int (2 : Int32)), .val (.int p3), .val (.int p3), .val (.int (1 : Int32)), .val (.int p2), .val (.int p2)] [(.int (3 : Int32)), (.int (2 : Int32))]))
    refine OwnR.of (fun _ hr => XS.icmpYes X16.here hx rfl (pc0 := 196) (pc' := 221) rfl (hb hby at_196) rfl (tlt (by decide : (2 : Int32) < (3 : Int32))).1 (by decide) (by decide) hr) ?_
    show OwnR _ _ _ _ _ _ _ (T16.setTop (mkF m 221 #[.val (.int p1), .val (.int p2), .val (.int p3), .val (.int p4), .val (.int p5), .val (.ref b6), .val (.int (2 : Int32)), .val (.int p3), .val (.int p3), .val (.int (1 : Int32)), .val (.int p2), .val (.int p2)] []))
    refine OwnR.of (fun _ hr => XS.iload X16.here hx rfl (hb hby at_221) rfl hr) ?_
    show OwnR _ _ _ _ _ _ _ (T16.setTop (mkF m 223 #[.val (.int p1), .val (.int p2), .val (.int p3), .val (.int p4), .val (.int p5), .val (.ref b6), .val (.int (2 : Int32)), .val (.int p3), .val (.int p3), .val (.int (1 : Int32)), .val (.int p2), .val (.int p2)] [(.int (1 : Int32))]))
    refine own_leafN X16 hx hlk (t := .boolean) Bd.returns (by simp) (hb hby at_223) (z' := (1 : Int32)) rfl (by decide) (by decide) ?_
    show Q0 Z  h0 n0 _ T16.heap _
    rw [show T16.heap = T15.heap from e16]
    refine ⟨?_, N16⟩
    show (some (.int (1 : Int32)) : Option Value) = some (.int (1 : Int32))
    rfl
  · skip
    show OwnR _ _ _ _ _ _ _ (T7.setTop (mkF m 16 #[.val (.int p1), .val (.int p2), .val (.int p3), .val (.int p4), .val (.int p5), .val (.ref b6), .val (.int (3 : Int32)), .unset, .unset, .unset, .unset, .unset] []))
    refine OwnR.of (fun _ hr => XS.aload X7.here hx rfl (hb hby at_16) rfl rfl hr) ?_
    show OwnR _ _ _ _ _ _ _ (T7.setTop (mkF m 18 #[.val (.int p1), .val (.int p2), .val (.int p3), .val (.int p4), .val (.int p5), .val (.ref b6), .val (.int (3 : Int32)), .unset, .unset, .unset, .unset, .unset] [(.ref b6)]))
    refine OwnR.of (fun _ hr => XS.iloadN X7.here hx rfl (hb hby at_18) rfl hr) ?_
    show OwnR _ _ _ _ _ _ _ (T7.setTop (mkF m 19 #[.val (.int p1), .val (.int p2), .val (.int p3), .val (.int p4), .val (.int p5), .val (.ref b6), .val (.int (3 : Int32)), .unset, .unset, .unset, .unset, .unset] [(.int p2), (.ref b6)]))
    obtain ⟨cq17, kq17, q17a, q17b, q17c⟩ := isOf hZ rfl P7_1
    obtain ⟨_, _, ⟨T17, L17, kc17, ns17⟩, -, X17, ⟨Lc17, hQ17, l17, y17, z17⟩, st17⟩ := X7.virtualBack hx (y := (⟨"com/example/fast_taxonomy/fasttaxonomy/calculus/IntList", "add", "(I)V"⟩ : MethodName)) (z := (⟨"com/example/fast_taxonomy/fasttaxonomy/calculus/IntList", "add", "(I)V"⟩ : MethodName)) hown (mvT hZ (hw _ (List.mem_of_getElem? (i := 13) rfl))) (mvT hZ (hw _ (List.mem_of_getElem? (i := 14) rfl))) (notFace_of_selects (args := #[]) (mvT hZ (hw _ (List.mem_of_getElem? (i := 16) rfl)))) (mvT hZ (hw _ (List.mem_of_getElem? (i := 16) rfl))) (mvT hZ (hw _ (List.mem_of_getElem? (i := 15) rfl))) (by decide) (backOf (W := 0) (rm3_0 l Z a0 hw [] b6 p2 se ke (T7.heap) n0 (Nat.le_trans Z0 K7.1) P7_1 P7_2 P7_3 (Arv.keep V_EMPTY K7 nin0) gn_b6 (Ne.symm (Nat.ne_of_lt (Nat.lt_of_lt_of_le V_EMPTY.lt (Nat.le_of_eq g6.symm))))) hZ (hw _ (List.mem_of_getElem? (i := 17) rfl)) (hw _ (List.mem_of_getElem? (i := 2) rfl)) (by decide) (by decide)) q17a q17c (g := (mkF m 19 #[.val (.int p1), .val (.int p2), .val (.int p3), .val (.int p4), .val (.int p5), .val (.ref b6), .val (.int (3 : Int32)), .unset, .unset, .unset, .unset, .unset] [(.int p2), (.ref b6)])) rfl (by rw [hml]; rfl) (Steps.refl _) (argsL := [(.int p2)]) (rest := []) (lenOf pd__I_V rfl) rfl (by show 2 * 0 + _ ≤ _; exact Nat.le_of_eq rfl) (hb hby at_19) (fun _ _ => ⟨rfl, rfl, (by decide : 1 + 1 ≤ _), (by decide : 2 + 8 ≤ _)⟩)
    dsimp only [Pt.U, Pt.locs, Pt.cells, Pt.slots] at X17 l17 y17 z17 st17 hQ17
    subst l17 y17 z17
    obtain ⟨b_17, kb_17, rfl, N17q, P17_0, P17_1, P17_2, P17_3, P17_4, P17_5, P17_6⟩ := hQ17
    have K17 : Keep h0 T17.heap [] := Keep.trans K7 P17_0 (allS (Or.inr sz_b6) all0)
    have sz_b_17 : h0.size ≤ b_17 := Nat.le_trans K7.1 P17_5
    have N17 := Fr.app N7 N17q
    refine OwnR.of (fun _ hr => st17.trans hr) ?_
    show OwnR _ _ _ _ _ _ _ (T17.setTop (mkF m 22 #[.val (.int p1), .val (.int p2), .val (.int p3), .val (.int p4), .val (.int p5), .val (.ref b6), .val (.int (3 : Int32)), .unset, .unset, .unset, .unset, .unset] []))
    refine OwnR.of (fun _ hr => XS.iload X17.here hx rfl (hb hby at_22) rfl hr) ?_
    show OwnR _ _ _ _ _ _ _ (T17.setTop (mkF m 24 #[.val (.int p1), .val (.int p2), .val (.int p3), .val (.int p4), .val (.int p5), .val (.ref b6), .val (.int (3 : Int32)), .unset, .unset, .unset, .unset, .unset] [(.int (3 : Int32))]))
    refine OwnR.of (fun _ hr => XS.iconst X17.here hx rfl (hb hby at_24) hr) ?_
    show OwnR _ _ _ _ _ _ _ (T17.setTop (mkF m 25 #[.val (.int p1), .val (.int p2), .val (.int p3), .val (.int p4), .val (.int p5), .val (.ref b6), .val (.int (3 : Int32)), .unset, .unset, .unset, .unset, .unset] [(.int (2 : Int32)), (.int (3 : Int32))]))
    refine OwnR.of (fun _ hr => XS.icmpNo X17.here hx rfl (hb hby at_25) rfl (flt (by decide : ¬ ((3 : Int32) < (2 : Int32)))).1 hr) ?_
    show OwnR _ _ _ _ _ _ _ (T17.setTop (mkF m 28 #[.val (.int p1), .val (.int p2), .val (.int p3), .val (.int p4), .val (.int p5), .val (.ref b6), .val (.int (3 : Int32)), .unset, .unset, .unset, .unset, .unset] []))
    refine OwnR.of (fun _ hr => XS.aload X17.here hx rfl (hb hby at_28) rfl rfl hr) ?_
    show OwnR _ _ _ _ _ _ _ (T17.setTop (mkF m 30 #[.val (.int p1), .val (.int p2), .val (.int p3), .val (.int p4), .val (.int p5), .val (.ref b6), .val (.int (3 : Int32)), .unset, .unset, .unset, .unset, .unset] [(.ref b6)]))
    refine OwnR.of (fun _ hr => XS.iloadN X17.here hx rfl (hb hby at_30) rfl hr) ?_
    show OwnR _ _ _ _ _ _ _ (T17.setTop (mkF m 31 #[.val (.int p1), .val (.int p2), .val (.int p3), .val (.int p4), .val (.int p5), .val (.ref b6), .val (.int (3 : Int32)), .unset, .unset, .unset, .unset, .unset] [(.int p3), (.ref b6)]))
    obtain ⟨cq18, kq18, q18a, q18b, q18c⟩ := isOf hZ rfl P17_1
    obtain ⟨_, _, ⟨T18, L18, kc18, ns18⟩, -, X18, ⟨Lc18, hQ18, l18, y18, z18⟩, st18⟩ := X17.virtualBack hx (y := (⟨"com/example/fast_taxonomy/fasttaxonomy/calculus/IntList", "add", "(I)V"⟩ : MethodName)) (z := (⟨"com/example/fast_taxonomy/fasttaxonomy/calculus/IntList", "add", "(I)V"⟩ : MethodName)) hown (mvT hZ (hw _ (List.mem_of_getElem? (i := 13) rfl))) (mvT hZ (hw _ (List.mem_of_getElem? (i := 14) rfl))) (notFace_of_selects (args := #[]) (mvT hZ (hw _ (List.mem_of_getElem? (i := 16) rfl)))) (mvT hZ (hw _ (List.mem_of_getElem? (i := 16) rfl))) (mvT hZ (hw _ (List.mem_of_getElem? (i := 15) rfl))) (by decide) (backOf (W := 0) (rm3_1 l Z a0 hw [] b6 p3 b_17 kb_17 p2 (T17.heap) n0 (Nat.le_trans Z0 K17.1) P17_1 P17_2 P17_3 P17_4 gn_b6 P17_6 (Nat.ne_of_lt (Nat.lt_of_lt_of_le (A6.keep P7_0).lt P17_5))) hZ (hw _ (List.mem_of_getElem? (i := 17) rfl)) (hw _ (List.mem_of_getElem? (i := 2) rfl)) (by decide) (by decide)) q18a q18c (g := (mkF m 31 #[.val (.int p1), .val (.int p2), .val (.int p3), .val (.int p4), .val (.int p5), .val (.ref b6), .val (.int (3 : Int32)), .unset, .unset, .unset, .unset, .unset] [(.int p3), (.ref b6)])) rfl (by rw [hml]; rfl) (Steps.refl _) (argsL := [(.int p3)]) (rest := []) (lenOf pd__I_V rfl) rfl (by show 2 * 0 + _ ≤ _; exact Nat.le_of_eq rfl) (hb hby at_31) (fun _ _ => ⟨rfl, rfl, (by decide : 2 + 0 ≤ _), (by decide : 10 + 0 ≤ _)⟩)
    dsimp only [Pt.U, Pt.locs, Pt.cells, Pt.slots] at X18 l18 y18 z18 st18 hQ18
    subst l18 y18 z18
    obtain ⟨rfl, N18q, P18_0, P18_1, P18_2, P18_3, P18_4⟩ := hQ18
    have K18 : Keep h0 T18.heap [] := Keep.trans K17 P18_0 (allS (Or.inr sz_b6) (allS (Or.inr sz_b_17) all0))
    have N18 := Fr.app N17 N18q
    refine OwnR.of (fun _ hr => st18.trans hr) ?_
    show OwnR _ _ _ _ _ _ _ (T18.setTop (mkF m 34 #[.val (.int p1), .val (.int p2), .val (.int p3), .val (.int p4), .val (.int p5), .val (.ref b6), .val (.int (3 : Int32)), .unset, .unset, .unset, .unset, .unset] []))
    refine OwnR.of (fun _ hr => XS.iload X18.here hx rfl (hb hby at_34) rfl hr) ?_
    show OwnR _ _ _ _ _ _ _ (T18.setTop (mkF m 36 #[.val (.int p1), .val (.int p2), .val (.int p3), .val (.int p4), .val (.int p5), .val (.ref b6), .val (.int (3 : Int32)), .unset, .unset, .unset, .unset, .unset] [(.int (3 : Int32))]))
    refine OwnR.of (fun _ hr => XS.iconst X18.here hx rfl (hb hby at_36) hr) ?_
    show OwnR _ _ _ _ _ _ _ (T18.setTop (mkF m 37 #[.val (.int p1), .val (.int p2), .val (.int p3), .val (.int p4), .val (.int p5), .val (.ref b6), .val (.int (3 : Int32)), .unset, .unset, .unset, .unset, .unset] [(.int (3 : Int32)), (.int (3 : Int32))]))
    refine OwnR.of (fun _ hr => XS.icmpNo X18.here hx rfl (hb hby at_37) rfl (flt (by decide : ¬ ((3 : Int32) < (3 : Int32)))).1 hr) ?_
    show OwnR _ _ _ _ _ _ _ (T18.setTop (mkF m 40 #[.val (.int p1), .val (.int p2), .val (.int p3), .val (.int p4), .val (.int p5), .val (.ref b6), .val (.int (3 : Int32)), .unset, .unset, .unset, .unset, .unset] []))
    refine OwnR.of (fun _ hr => XS.aload X18.here hx rfl (hb hby at_40) rfl rfl hr) ?_
    show OwnR _ _ _ _ _ _ _ (T18.setTop (mkF m 42 #[.val (.int p1), .val (.int p2), .val (.int p3), .val (.int p4), .val (.int p5), .val (.ref b6), .val (.int (3 : Int32)), .unset, .unset, .unset, .unset, .unset] [(.ref b6)]))
    refine OwnR.of (fun _ hr => XS.iloadN X18.here hx rfl (hb hby at_42) rfl hr) ?_
    show OwnR _ _ _ _ _ _ _ (T18.setTop (mkF m 43 #[.val (.int p1), .val (.int p2), .val (.int p3), .val (.int p4), .val (.int p5), .val (.ref b6), .val (.int (3 : Int32)), .unset, .unset, .unset, .unset, .unset] [(.int p4), (.ref b6)]))
    obtain ⟨cq19, kq19, q19a, q19b, q19c⟩ := isOf hZ rfl P18_1
    obtain ⟨_, _, ⟨T19, L19, kc19, ns19⟩, -, X19, ⟨Lc19, hQ19, l19, y19, z19⟩, st19⟩ := X18.virtualBack hx (y := (⟨"com/example/fast_taxonomy/fasttaxonomy/calculus/IntList", "add", "(I)V"⟩ : MethodName)) (z := (⟨"com/example/fast_taxonomy/fasttaxonomy/calculus/IntList", "add", "(I)V"⟩ : MethodName)) hown (mvT hZ (hw _ (List.mem_of_getElem? (i := 13) rfl))) (mvT hZ (hw _ (List.mem_of_getElem? (i := 14) rfl))) (notFace_of_selects (args := #[]) (mvT hZ (hw _ (List.mem_of_getElem? (i := 16) rfl)))) (mvT hZ (hw _ (List.mem_of_getElem? (i := 16) rfl))) (mvT hZ (hw _ (List.mem_of_getElem? (i := 15) rfl))) (by decide) (backOf (W := 0) (rm3_2 l Z a0 hw [] b6 p4 b_17 kb_17 p2 p3 (T18.heap) n0 (Nat.le_trans Z0 K18.1) P18_1 P18_2 P18_3 P18_4 gn_b6 P17_6 (Nat.ne_of_lt (Nat.lt_of_lt_of_le (A6.keep P7_0).lt P17_5))) hZ (hw _ (List.mem_of_getElem? (i := 17) rfl)) (hw _ (List.mem_of_getElem? (i := 2) rfl)) (by decide) (by decide)) q19a q19c (g := (mkF m 43 #[.val (.int p1), .val (.int p2), .val (.int p3), .val (.int p4), .val (.int p5), .val (.ref b6), .val (.int (3 : Int32)), .unset, .unset, .unset, .unset, .unset] [(.int p4), (.ref b6)])) rfl (by rw [hml]; rfl) (Steps.refl _) (argsL := [(.int p4)]) (rest := []) (lenOf pd__I_V rfl) rfl (by show 2 * 0 + _ ≤ _; exact Nat.le_of_eq rfl) (hb hby at_43) (fun _ _ => ⟨rfl, rfl, (by decide : 2 + 0 ≤ _), (by decide : 10 + 0 ≤ _)⟩)
    dsimp only [Pt.U, Pt.locs, Pt.cells, Pt.slots] at X19 l19 y19 z19 st19 hQ19
    subst l19 y19 z19
    obtain ⟨rfl, N19q, P19_0, P19_1, P19_2, P19_3, P19_4⟩ := hQ19
    have K19 : Keep h0 T19.heap [] := Keep.trans K18 P19_0 (allS (Or.inr sz_b6) (allS (Or.inr sz_b_17) all0))
    have N19 := Fr.app N18 N19q
    refine OwnR.of (fun _ hr => st19.trans hr) ?_
    show OwnR _ _ _ _ _ _ _ (T19.setTop (mkF m 46 #[.val (.int p1), .val (.int p2), .val (.int p3), .val (.int p4), .val (.int p5), .val (.ref b6), .val (.int (3 : Int32)), .unset, .unset, .unset, .unset, .unset] []))
    refine OwnR.of (fun _ hr => XS.iload X19.here hx rfl (hb hby at_46) rfl hr) ?_
    show OwnR _ _ _ _ _ _ _ (T19.setTop (mkF m 48 #[.val (.int p1), .val (.int p2), .val (.int p3), .val (.int p4), .val (.int p5), .val (.ref b6), .val (.int (3 : Int32)), .unset, .unset, .unset, .unset, .unset] [(.int (3 : Int32))]))
    refine OwnR.of (fun _ hr => XS.iconst X19.here hx rfl (hb hby at_48) hr) ?_
    show OwnR _ _ _ _ _ _ _ (T19.setTop (mkF m 49 #[.val (.int p1), .val (.int p2), .val (.int p3), .val (.int p4), .val (.int p5), .val (.ref b6), .val (.int (3 : Int32)), .unset, .unset, .unset, .unset, .unset] [(.int (4 : Int32)), (.int (3 : Int32))]))
    refine OwnR.of (fun _ hr => XS.icmpYes X19.here hx rfl (pc0 := 49) (pc' := 59) rfl (hb hby at_49) rfl (tlt (by decide : (3 : Int32) < (4 : Int32))).1 (by decide) (by decide) hr) ?_
    show OwnR _ _ _ _ _ _ _ (T19.setTop (mkF m 59 #[.val (.int p1), .val (.int p2), .val (.int p3), .val (.int p4), .val (.int p5), .val (.ref b6), .val (.int (3 : Int32)), .unset, .unset, .unset, .unset, .unset] []))
    refine OwnR.of (fun _ hr => XS.iload X19.here hx rfl (hb hby at_59) rfl hr) ?_
    show OwnR _ _ _ _ _ _ _ (T19.setTop (mkF m 61 #[.val (.int p1), .val (.int p2), .val (.int p3), .val (.int p4), .val (.int p5), .val (.ref b6), .val (.int (3 : Int32)), .unset, .unset, .unset, .unset, .unset] [(.int (3 : Int32))]))
    refine OwnR.of (fun _ hr => XS.iconst X19.here hx rfl (hb hby at_61) hr) ?_
    show OwnR _ _ _ _ _ _ _ (T19.setTop (mkF m 62 #[.val (.int p1), .val (.int p2), .val (.int p3), .val (.int p4), .val (.int p5), .val (.ref b6), .val (.int (3 : Int32)), .unset, .unset, .unset, .unset, .unset] [(.int (1 : Int32)), (.int (3 : Int32))]))
    refine OwnR.of (fun _ hr => XS.icmpYes X19.here hx rfl (pc0 := 62) (pc' := 69) rfl (hb hby at_62) rfl (feq (by decide : ¬ ((3 : Int32) = (1 : Int32)))).2 (by decide) (by decide) hr) ?_
    show OwnR _ _ _ _ _ _ _ (T19.setTop (mkF m 69 #[.val (.int p1), .val (.int p2), .val (.int p3), .val (.int p4), .val (.int p5), .val (.ref b6), .val (.int (3 : Int32)), .unset, .unset, .unset, .unset, .unset] []))
    refine OwnR.of (fun _ hr => XS.iload X19.here hx rfl (hb hby at_69) rfl hr) ?_
    show OwnR _ _ _ _ _ _ _ (T19.setTop (mkF m 71 #[.val (.int p1), .val (.int p2), .val (.int p3), .val (.int p4), .val (.int p5), .val (.ref b6), .val (.int (3 : Int32)), .unset, .unset, .unset, .unset, .unset] [(.int (3 : Int32))]))
    refine OwnR.of (fun _ hr => XS.iconst X19.here hx rfl (hb hby at_71) hr) ?_
    show OwnR _ _ _ _ _ _ _ (T19.setTop (mkF m 72 #[.val (.int p1), .val (.int p2), .val (.int p3), .val (.int p4), .val (.int p5), .val (.ref b6), .val (.int (3 : Int32)), .unset, .unset, .unset, .unset, .unset] [(.int (2 : Int32)), (.int (3 : Int32))]))
    refine OwnR.of (fun _ hr => XS.icmpYes X19.here hx rfl (pc0 := 72) (pc' := 79) rfl (hb hby at_72) rfl (feq (by decide : ¬ ((3 : Int32) = (2 : Int32)))).2 (by decide) (by decide) hr) ?_
    show OwnR _ _ _ _ _ _ _ (T19.setTop (mkF m 79 #[.val (.int p1), .val (.int p2), .val (.int p3), .val (.int p4), .val (.int p5), .val (.ref b6), .val (.int (3 : Int32)), .unset, .unset, .unset, .unset, .unset] []))
    refine OwnR.of (fun _ hr => XS.iload X19.here hx rfl (hb hby at_79) rfl hr) ?_
    show OwnR _ _ _ _ _ _ _ (T19.setTop (mkF m 81 #[.val (.int p1), .val (.int p2), .val (.int p3), .val (.int p4), .val (.int p5), .val (.ref b6), .val (.int (3 : Int32)), .unset, .unset, .unset, .unset, .unset] [(.int (3 : Int32))]))
    refine OwnR.of (fun _ hr => XS.iconst X19.here hx rfl (hb hby at_81) hr) ?_
    show OwnR _ _ _ _ _ _ _ (T19.setTop (mkF m 82 #[.val (.int p1), .val (.int p2), .val (.int p3), .val (.int p4), .val (.int p5), .val (.ref b6), .val (.int (3 : Int32)), .unset, .unset, .unset, .unset, .unset] [(.int (3 : Int32)), (.int (3 : Int32))]))
    refine OwnR.of (fun _ hr => XS.icmpNo X19.here hx rfl (hb hby at_82) rfl (teq (by decide : (3 : Int32) = (3 : Int32))).2 hr) ?_
    show OwnR _ _ _ _ _ _ _ (T19.setTop (mkF m 85 #[.val (.int p1), .val (.int p2), .val (.int p3), .val (.int p4), .val (.int p5), .val (.ref b6), .val (.int (3 : Int32)), .unset, .unset, .unset, .unset, .unset] []))
    refine OwnR.of (fun _ hr => XS.iloadN X19.here hx rfl (hb hby at_85) rfl hr) ?_
    show OwnR _ _ _ _ _ _ _ (T19.setTop (mkF m 86 #[.val (.int p1), .val (.int p2), .val (.int p3), .val (.int p4), .val (.int p5), .val (.ref b6), .val (.int (3 : Int32)), .unset, .unset, .unset, .unset, .unset] [(.int p4)]))
    refine OwnR.of (fun _ hr => XS.goto X19.here hx rfl (pc0 := 86) (pc' := 91) rfl (hb hby at_86) (by decide) (by decide) hr) ?_
    show OwnR _ _ _ _ _ _ _ (T19.setTop (mkF m 91 #[.val (.int p1), .val (.int p2), .val (.int p3), .val (.int p4), .val (.int p5), .val (.ref b6), .val (.int (3 : Int32)), .unset, .unset, .unset, .unset, .unset] [(.int p4)]))
    refine OwnR.of (fun _ hr => XS.istore X19.here hx rfl (hb hby at_91) rfl (l' := #[.val (.int p1), .val (.int p2), .val (.int p3), .val (.int p4), .val (.int p5), .val (.ref b6), .val (.int (3 : Int32)), .val (.int p4), .unset, .unset, .unset, .unset]) rfl hr) ?_
    show OwnR _ _ _ _ _ _ _ (T19.setTop (mkF m 93 #[.val (.int p1), .val (.int p2), .val (.int p3), .val (.int p4), .val (.int p5), .val (.ref b6), .val (.int (3 : Int32)), .val (.int p4), .unset, .unset, .unset, .unset] []))
    refine OwnR.of (fun _ hr => XS.aload X19.here hx rfl (hb hby at_93) rfl rfl hr) ?_
    show OwnR _ _ _ _ _ _ _ (T19.setTop (mkF m 95 #[.val (.int p1), .val (.int p2), .val (.int p3), .val (.int p4), .val (.int p5), .val (.ref b6), .val (.int (3 : Int32)), .val (.int p4), .unset, .unset, .unset, .unset] [(.ref b6)]))
    obtain ⟨cq20, kq20, q20a, q20b, q20c⟩ := isOf hZ rfl P19_1
    obtain ⟨_, _, ⟨T20, L20, kc20, ns20⟩, -, X20, ⟨Lc20, hQ20, l20, y20, z20⟩, st20⟩ := X19.virtualBack hx (y := (⟨"com/example/fast_taxonomy/fasttaxonomy/calculus/IntList", "removeLast", "()I"⟩ : MethodName)) (z := (⟨"com/example/fast_taxonomy/fasttaxonomy/calculus/IntList", "removeLast", "()I"⟩ : MethodName)) hown (mvT hZ (hw _ (List.mem_of_getElem? (i := 36) rfl))) (mvT hZ (hw _ (List.mem_of_getElem? (i := 37) rfl))) (notFace_of_selects (args := #[]) (mvT hZ (hw _ (List.mem_of_getElem? (i := 39) rfl)))) (mvT hZ (hw _ (List.mem_of_getElem? (i := 39) rfl))) (mvT hZ (hw _ (List.mem_of_getElem? (i := 38) rfl))) (by decide) (backOf (W := 0) (rm7_3 l Z a0 hw [] b6 b_17 kb_17 p2 p3 p4 (0 : Int32) (T19.heap) n0 (Nat.le_trans Z0 K19.1) P19_1 P19_2 P19_3 P19_4 gn_b6 (Nat.ne_of_lt (Nat.lt_of_lt_of_le (A6.keep P7_0).lt P17_5))) hZ (hw _ (List.mem_of_getElem? (i := 40) rfl)) (hw _ (List.mem_of_getElem? (i := 2) rfl)) (by decide) (by decide)) q20a q20c (g := (mkF m 95 #[.val (.int p1), .val (.int p2), .val (.int p3), .val (.int p4), .val (.int p5), .val (.ref b6), .val (.int (3 : Int32)), .val (.int p4), .unset, .unset, .unset, .unset] [(.ref b6)])) rfl (by rw [hml]; rfl) (Steps.refl _) (argsL := []) (rest := []) (lenOf pd___I rfl) rfl (by show 2 * 0 + _ ≤ _; exact Nat.le_of_eq rfl) (hb hby at_95) (fun _ _ => ⟨rfl, rfl, (by decide : 2 + 0 ≤ _), (by decide : 10 + 0 ≤ _)⟩)
    dsimp only [Pt.U, Pt.locs, Pt.cells, Pt.slots] at X20 l20 y20 z20 st20 hQ20
    subst l20 y20 z20
    obtain ⟨rfl, N20q, P20_0, P20_1, P20_2, P20_3⟩ := hQ20
    have K20 : Keep h0 T20.heap [] := Keep.trans K19 P20_0 (allS (Or.inr sz_b6) all0)
    have N20 := Fr.app N19 N20q
    refine OwnR.of (fun _ hr => st20.trans hr) ?_
    show OwnR _ _ _ _ _ _ _ (T20.setTop (mkF m 98 #[.val (.int p1), .val (.int p2), .val (.int p3), .val (.int p4), .val (.int p5), .val (.ref b6), .val (.int (3 : Int32)), .val (.int p4), .unset, .unset, .unset, .unset] [(.int p4)]))
    refine OwnR.of (fun _ hr => XS.istore X20.here hx rfl (hb hby at_98) rfl (l' := #[.val (.int p1), .val (.int p2), .val (.int p3), .val (.int p4), .val (.int p5), .val (.ref b6), .val (.int (3 : Int32)), .val (.int p4), .val (.int p4), .unset, .unset, .unset]) rfl hr) ?_
    show OwnR _ _ _ _ _ _ _ (T20.setTop (mkF m 100 #[.val (.int p1), .val (.int p2), .val (.int p3), .val (.int p4), .val (.int p5), .val (.ref b6), .val (.int (3 : Int32)), .val (.int p4), .val (.int p4), .unset, .unset, .unset] []))
    refine OwnR.of (fun _ hr => XS.iload X20.here hx rfl (hb hby at_100) rfl hr) ?_
    show OwnR _ _ _ _ _ _ _ (T20.setTop (mkF m 102 #[.val (.int p1), .val (.int p2), .val (.int p3), .val (.int p4), .val (.int p5), .val (.ref b6), .val (.int (3 : Int32)), .val (.int p4), .val (.int p4), .unset, .unset, .unset] [(.int p4)]))
    refine OwnR.of (fun _ hr => XS.iload X20.here hx rfl (hb hby at_102) rfl hr) ?_
    show OwnR _ _ _ _ _ _ _ (T20.setTop (mkF m 104 #[.val (.int p1), .val (.int p2), .val (.int p3), .val (.int p4), .val (.int p5), .val (.ref b6), .val (.int (3 : Int32)), .val (.int p4), .val (.int p4), .unset, .unset, .unset] [(.int p4), (.int p4)]))
    refine OwnR.of (fun _ hr => XS.icmpNo X20.here hx rfl (hb hby at_104) rfl (teq rfl).2 hr) ?_
    show OwnR _ _ _ _ _ _ _ (T20.setTop (mkF m 107 #[.val (.int p1), .val (.int p2), .val (.int p3), .val (.int p4), .val (.int p5), .val (.ref b6), .val (.int (3 : Int32)), .val (.int p4), .val (.int p4), .unset, .unset, .unset] []))
    refine OwnR.of (fun _ hr => XS.aload X20.here hx rfl (hb hby at_107) rfl rfl hr) ?_
    show OwnR _ _ _ _ _ _ _ (T20.setTop (mkF m 109 #[.val (.int p1), .val (.int p2), .val (.int p3), .val (.int p4), .val (.int p5), .val (.ref b6), .val (.int (3 : Int32)), .val (.int p4), .val (.int p4), .unset, .unset, .unset] [(.ref b6)]))
    obtain ⟨cq21, kq21, q21a, q21b, q21c⟩ := isOf hZ rfl P20_1
    obtain ⟨_, _, ⟨T21, L21, kc21, ns21⟩, -, X21, ⟨Lc21, hQ21, l21, y21, z21⟩, st21⟩ := X20.virtualBack hx (y := (⟨"com/example/fast_taxonomy/fasttaxonomy/calculus/IntList", "size", "()I"⟩ : MethodName)) (z := (⟨"com/example/fast_taxonomy/fasttaxonomy/calculus/IntList", "size", "()I"⟩ : MethodName)) hown (mvT hZ (hw _ (List.mem_of_getElem? (i := 41) rfl))) (mvT hZ (hw _ (List.mem_of_getElem? (i := 42) rfl))) (notFace_of_selects (args := #[]) (mvT hZ (hw _ (List.mem_of_getElem? (i := 44) rfl)))) (mvT hZ (hw _ (List.mem_of_getElem? (i := 44) rfl))) (mvT hZ (hw _ (List.mem_of_getElem? (i := 43) rfl))) (by decide) (backOf (W := 0) (rm8 l Z a0 hw [] b6 (2 : Int32) (T20.heap) n0 (Nat.le_trans Z0 K20.1) P20_1 P20_3) hZ (hw _ (List.mem_of_getElem? (i := 45) rfl)) (hw _ (List.mem_of_getElem? (i := 2) rfl)) (by decide) (by decide)) q21a q21c (g := (mkF m 109 #[.val (.int p1), .val (.int p2), .val (.int p3), .val (.int p4), .val (.int p5), .val (.ref b6), .val (.int (3 : Int32)), .val (.int p4), .val (.int p4), .unset, .unset, .unset] [(.ref b6)])) rfl (by rw [hml]; rfl) (Steps.refl _) (argsL := []) (rest := []) (lenOf pd___I rfl) rfl (by show 2 * 0 + _ ≤ _; exact Nat.le_of_eq rfl) (hb hby at_109) (fun _ _ => ⟨rfl, rfl, (by decide : 2 + 0 ≤ _), (by decide : 10 + 0 ≤ _)⟩)
    dsimp only [Pt.U, Pt.locs, Pt.cells, Pt.slots] at X21 l21 y21 z21 st21 hQ21
    subst l21 y21 z21
    obtain ⟨rfl, N21q, e21⟩ := hQ21
    have N21 := Fr.app N20 N21q
    refine OwnR.of (fun _ hr => st21.trans hr) ?_
    show OwnR _ _ _ _ _ _ _ (T21.setTop (mkF m 112 #[.val (.int p1), .val (.int p2), .val (.int p3), .val (.int p4), .val (.int p5), .val (.ref b6), .val (.int (3 : Int32)), .val (.int p4), .val (.int p4), .unset, .unset, .unset] [(.int (2 : Int32))]))
    refine OwnR.of (fun _ hr => XS.iload X21.here hx rfl (hb hby at_112) rfl hr) ?_
    show OwnR _ _ _ _ _ _ _ (T21.setTop (mkF m 114 #[.val (.int p1), .val (.int p2), .val (.int p3), .val (.int p4), .val (.int p5), .val (.ref b6), .val (.int (3 : Int32)), .val (.int p4), .val (.int p4), .unset, .unset, .unset] [(.int (3 : Int32)), (.int (2 : Int32))]))
    refine OwnR.of (fun _ hr => XS.iconst X21.here hx rfl (hb hby at_114) hr) ?_
    show OwnR _ _ _ _ _ _ _ (T21.setTop (mkF m 115 #[.val (.int p1), .val (.int p2), .val (.int p3), .val (.int p4), .val (.int p5), .val (.ref b6), .val (.int (3 : Int32)), .val (.int p4), .val (.int p4), .unset, .unset, .unset] [(.int (1 : Int32)), (.int (3 : Int32)), (.int (2 : Int32))]))
    refine OwnR.of (fun _ hr => XS.isub X21.here hx rfl (hb hby at_115) rfl hr) ?_
    show OwnR _ _ _ _ _ _ _ (T21.setTop (mkF m 116 #[.val (.int p1), .val (.int p2), .val (.int p3), .val (.int p4), .val (.int p5), .val (.ref b6), .val (.int (3 : Int32)), .val (.int p4), .val (.int p4), .unset, .unset, .unset] [(.int ((3 : Int32) - (1 : Int32))), (.int (2 : Int32))]))
    rw [(by decide : ((3 : Int32) - (1 : Int32)) = (2 : Int32))]
    show OwnR _ _ _ _ _ _ _ (T21.setTop (mkF m 116 #[.val (.int p1), .val (.int p2), .val (.int p3), .val (.int p4), .val (.int p5), .val (.ref b6), .val (.int (3 : Int32)), .val (.int p4), .val (.int p4), .unset, .unset, .unset] [(.int (2 : Int32)), (.int (2 : Int32))]))
    refine OwnR.of (fun _ hr => XS.icmpNo X21.here hx rfl (hb hby at_116) rfl (teq (by decide : (2 : Int32) = (2 : Int32))).2 hr) ?_
    show OwnR _ _ _ _ _ _ _ (T21.setTop (mkF m 119 #[.val (.int p1), .val (.int p2), .val (.int p3), .val (.int p4), .val (.int p5), .val (.ref b6), .val (.int (3 : Int32)), .val (.int p4), .val (.int p4), .unset, .unset, .unset] []))
    refine OwnR.of (fun _ hr => XS.iconst X21.here hx rfl (hb hby at_119) hr) ?_
    show OwnR _ _ _ _ _ _ _ (T21.setTop (mkF m 120 #[.val (.int p1), .val (.int p2), .val (.int p3), .val (.int p4), .val (.int p5), .val (.ref b6), .val (.int (3 : Int32)), .val (.int p4), .val (.int p4), .unset, .unset, .unset] [(.int (1 : Int32))]))
    refine OwnR.of (fun _ hr => XS.goto X21.here hx rfl (pc0 := 120) (pc' := 124) rfl (hb hby at_120) (by decide) (by decide) hr) ?_
    show OwnR _ _ _ _ _ _ _ (T21.setTop (mkF m 124 #[.val (.int p1), .val (.int p2), .val (.int p3), .val (.int p4), .val (.int p5), .val (.ref b6), .val (.int (3 : Int32)), .val (.int p4), .val (.int p4), .unset, .unset, .unset] [(.int (1 : Int32))]))
    refine OwnR.of (fun _ hr => XS.istore X21.here hx rfl (hb hby at_124) rfl (l' := #[.val (.int p1), .val (.int p2), .val (.int p3), .val (.int p4), .val (.int p5), .val (.ref b6), .val (.int (3 : Int32)), .val (.int p4), .val (.int p4), .val (.int (1 : Int32)), .unset, .unset]) rfl hr) ?_
    show OwnR _ _ _ _ _ _ _ (T21.setTop (mkF m 126 #[.val (.int p1), .val (.int p2), .val (.int p3), .val (.int p4), .val (.int p5), .val (.ref b6), .val (.int (3 : Int32)), .val (.int p4), .val (.int p4), .val (.int (1 : Int32)), .unset, .unset] []))
    refine OwnR.of (fun _ hr => XS.iload X21.here hx rfl (hb hby at_126) rfl hr) ?_
    show OwnR _ _ _ _ _ _ _ (T21.setTop (mkF m 128 #[.val (.int p1), .val (.int p2), .val (.int p3), .val (.int p4), .val (.int p5), .val (.ref b6), .val (.int (3 : Int32)), .val (.int p4), .val (.int p4), .val (.int (1 : Int32)), .unset, .unset] [(.int (3 : Int32))]))
    refine OwnR.of (fun _ hr => XS.iconst X21.here hx rfl (hb hby at_128) hr) ?_
    show OwnR _ _ _ _ _ _ _ (T21.setTop (mkF m 129 #[.val (.int p1), .val (.int p2), .val (.int p3), .val (.int p4), .val (.int p5), .val (.ref b6), .val (.int (3 : Int32)), .val (.int p4), .val (.int p4), .val (.int (1 : Int32)), .unset, .unset] [(.int (2 : Int32)), (.int (3 : Int32))]))
    refine OwnR.of (fun _ hr => XS.icmpNo X21.here hx rfl (hb hby at_129) rfl (flt (by decide : ¬ ((3 : Int32) < (2 : Int32)))).1 hr) ?_
    show OwnR _ _ _ _ _ _ _ (T21.setTop (mkF m 132 #[.val (.int p1), .val (.int p2), .val (.int p3), .val (.int p4), .val (.int p5), .val (.ref b6), .val (.int (3 : Int32)), .val (.int p4), .val (.int p4), .val (.int (1 : Int32)), .unset, .unset] []))
    refine OwnR.of (fun _ hr => XS.iload X21.here hx rfl (hb hby at_132) rfl hr) ?_
    show OwnR _ _ _ _ _ _ _ (T21.setTop (mkF m 134 #[.val (.int p1), .val (.int p2), .val (.int p3), .val (.int p4), .val (.int p5), .val (.ref b6), .val (.int (3 : Int32)), .val (.int p4), .val (.int p4), .val (.int (1 : Int32)), .unset, .unset] [(.int (3 : Int32))]))
    refine OwnR.of (fun _ hr => XS.iconst X21.here hx rfl (hb hby at_134) hr) ?_
    show OwnR _ _ _ _ _ _ _ (T21.setTop (mkF m 135 #[.val (.int p1), .val (.int p2), .val (.int p3), .val (.int p4), .val (.int p5), .val (.ref b6), .val (.int (3 : Int32)), .val (.int p4), .val (.int p4), .val (.int (1 : Int32)), .unset, .unset] [(.int (2 : Int32)), (.int (3 : Int32))]))
    refine OwnR.of (fun _ hr => XS.icmpYes X21.here hx rfl (pc0 := 135) (pc' := 142) rfl (hb hby at_135) rfl (feq (by decide : ¬ ((3 : Int32) = (2 : Int32)))).2 (by decide) (by decide) hr) ?_
    show OwnR _ _ _ _ _ _ _ (T21.setTop (mkF m 142 #[.val (.int p1), .val (.int p2), .val (.int p3), .val (.int p4), .val (.int p5), .val (.ref b6), .val (.int (3 : Int32)), .val (.int p4), .val (.int p4), .val (.int (1 : Int32)), .unset, .unset] []))
    refine OwnR.of (fun _ hr => XS.iload X21.here hx rfl (hb hby at_142) rfl hr) ?_
    show OwnR _ _ _ _ _ _ _ (T21.setTop (mkF m 144 #[.val (.int p1), .val (.int p2), .val (.int p3), .val (.int p4), .val (.int p5), .val (.ref b6), .val (.int (3 : Int32)), .val (.int p4), .val (.int p4), .val (.int (1 : Int32)), .unset, .unset] [(.int (3 : Int32))]))
    refine OwnR.of (fun _ hr => XS.iconst X21.here hx rfl (hb hby at_144) hr) ?_
    show OwnR _ _ _ _ _ _ _ (T21.setTop (mkF m 145 #[.val (.int p1), .val (.int p2), .val (.int p3), .val (.int p4), .val (.int p5), .val (.ref b6), .val (.int (3 : Int32)), .val (.int p4), .val (.int p4), .val (.int (1 : Int32)), .unset, .unset] [(.int (3 : Int32)), (.int (3 : Int32))]))
    refine OwnR.of (fun _ hr => XS.icmpNo X21.here hx rfl (hb hby at_145) rfl (teq (by decide : (3 : Int32) = (3 : Int32))).2 hr) ?_
    show OwnR _ _ _ _ _ _ _ (T21.setTop (mkF m 148 #[.val (.int p1), .val (.int p2), .val (.int p3), .val (.int p4), .val (.int p5), .val (.ref b6), .val (.int (3 : Int32)), .val (.int p4), .val (.int p4), .val (.int (1 : Int32)), .unset, .unset] []))
    refine OwnR.of (fun _ hr => XS.iloadN X21.here hx rfl (hb hby at_148) rfl hr) ?_
    show OwnR _ _ _ _ _ _ _ (T21.setTop (mkF m 149 #[.val (.int p1), .val (.int p2), .val (.int p3), .val (.int p4), .val (.int p5), .val (.ref b6), .val (.int (3 : Int32)), .val (.int p4), .val (.int p4), .val (.int (1 : Int32)), .unset, .unset] [(.int p3)]))
    refine OwnR.of (fun _ hr => XS.goto X21.here hx rfl (pc0 := 149) (pc' := 153) rfl (hb hby at_149) (by decide) (by decide) hr) ?_
    show OwnR _ _ _ _ _ _ _ (T21.setTop (mkF m 153 #[.val (.int p1), .val (.int p2), .val (.int p3), .val (.int p4), .val (.int p5), .val (.ref b6), .val (.int (3 : Int32)), .val (.int p4), .val (.int p4), .val (.int (1 : Int32)), .unset, .unset] [(.int p3)]))
    refine OwnR.of (fun _ hr => XS.istore X21.here hx rfl (hb hby at_153) rfl (l' := #[.val (.int p1), .val (.int p2), .val (.int p3), .val (.int p4), .val (.int p5), .val (.ref b6), .val (.int (3 : Int32)), .val (.int p4), .val (.int p4), .val (.int (1 : Int32)), .val (.int p3), .unset]) rfl hr) ?_
    show OwnR _ _ _ _ _ _ _ (T21.setTop (mkF m 155 #[.val (.int p1), .val (.int p2), .val (.int p3), .val (.int p4), .val (.int p5), .val (.ref b6), .val (.int (3 : Int32)), .val (.int p4), .val (.int p4), .val (.int (1 : Int32)), .val (.int p3), .unset] []))
    refine OwnR.of (fun _ hr => XS.aload X21.here hx rfl (hb hby at_155) rfl rfl hr) ?_
    show OwnR _ _ _ _ _ _ _ (T21.setTop (mkF m 157 #[.val (.int p1), .val (.int p2), .val (.int p3), .val (.int p4), .val (.int p5), .val (.ref b6), .val (.int (3 : Int32)), .val (.int p4), .val (.int p4), .val (.int (1 : Int32)), .val (.int p3), .unset] [(.ref b6)]))
    obtain ⟨cq22, kq22, q22a, q22b, q22c⟩ := isOf hZ e21 P20_1
    obtain ⟨_, _, ⟨T22, L22, kc22, ns22⟩, -, X22, ⟨Lc22, hQ22, l22, y22, z22⟩, st22⟩ := X21.virtualBack hx (y := (⟨"com/example/fast_taxonomy/fasttaxonomy/calculus/IntList", "removeLast", "()I"⟩ : MethodName)) (z := (⟨"com/example/fast_taxonomy/fasttaxonomy/calculus/IntList", "removeLast", "()I"⟩ : MethodName)) hown (mvT hZ (hw _ (List.mem_of_getElem? (i := 36) rfl))) (mvT hZ (hw _ (List.mem_of_getElem? (i := 37) rfl))) (notFace_of_selects (args := #[]) (mvT hZ (hw _ (List.mem_of_getElem? (i := 39) rfl)))) (mvT hZ (hw _ (List.mem_of_getElem? (i := 39) rfl))) (mvT hZ (hw _ (List.mem_of_getElem? (i := 38) rfl))) (by decide) (backOf (W := 0) (rm7_2 l Z a0 hw [] b6 b_17 kb_17 p2 p3 p4 (0 : Int32) (T20.heap) n0 (Nat.le_trans Z0 K20.1) P20_1 P20_2 P20_3 (P19_4.keep P20_0 (ninS (Ne.symm (Nat.ne_of_lt (Nat.lt_of_lt_of_le (A6.keep P7_0).lt P17_5))) nin0)) gn_b6 (Nat.ne_of_lt (Nat.lt_of_lt_of_le (A6.keep P7_0).lt P17_5))) hZ (hw _ (List.mem_of_getElem? (i := 40) rfl)) (hw _ (List.mem_of_getElem? (i := 2) rfl)) (by decide) (by decide)) q22a q22c (g := (mkF m 157 #[.val (.int p1), .val (.int p2), .val (.int p3), .val (.int p4), .val (.int p5), .val (.ref b6), .val (.int (3 : Int32)), .val (.int p4), .val (.int p4), .val (.int (1 : Int32)), .val (.int p3), .unset] [(.ref b6)])) rfl (by rw [hml]; rfl) (Steps.refl _) (argsL := []) (rest := []) (lenOf pd___I rfl) rfl (by show 2 * 0 + _ ≤ _; exact Nat.le_of_eq rfl) (hb hby at_157) (fun _ _ => ⟨rfl, e21, (by decide : 2 + 0 ≤ _), (by decide : 10 + 0 ≤ _)⟩)
    dsimp only [Pt.U, Pt.locs, Pt.cells, Pt.slots] at X22 l22 y22 z22 st22 hQ22
    subst l22 y22 z22
    obtain ⟨rfl, N22q, P22_0, P22_1, P22_2, P22_3⟩ := hQ22
    have K22 : Keep h0 T22.heap [] := Keep.trans K20 P22_0 (allS (Or.inr sz_b6) all0)
    have N22 := Fr.app N21 N22q
    refine OwnR.of (fun _ hr => st22.trans hr) ?_
    show OwnR _ _ _ _ _ _ _ (T22.setTop (mkF m 160 #[.val (.int p1), .val (.int p2), .val (.int p3), .val (.int p4), .val (.int p5), .val (.ref b6), .val (.int (3 : Int32)), .val (.int p4), .val (.int p4), .val (.int (1 : Int32)), .val (.int p3), .unset] [(.int p3)]))
    refine OwnR.of (fun _ hr => XS.istore X22.here hx rfl (hb hby at_160) rfl (l' := #[.val (.int p1), .val (.int p2), .val (.int p3), .val (.int p4), .val (.int p5), .val (.ref b6), .val (.int (3 : Int32)), .val (.int p4), .val (.int p4), .val (.int (1 : Int32)), .val (.int p3), .val (.int p3)]) rfl hr) ?_
    show OwnR _ _ _ _ _ _ _ (T22.setTop (mkF m 162 #[.val (.int p1), .val (.int p2), .val (.int p3), .val (.int p4), .val (.int p5), .val (.ref b6), .val (.int (3 : Int32)), .val (.int p4), .val (.int p4), .val (.int (1 : Int32)), .val (.int p3), .val (.int p3)] []))
    refine OwnR.of (fun _ hr => XS.iload X22.here hx rfl (hb hby at_162) rfl hr) ?_
    show OwnR _ _ _ _ _ _ _ (T22.setTop (mkF m 164 #[.val (.int p1), .val (.int p2), .val (.int p3), .val (.int p4), .val (.int p5), .val (.ref b6), .val (.int (3 : Int32)), .val (.int p4), .val (.int p4), .val (.int (1 : Int32)), .val (.int p3), .val (.int p3)] [(.int (1 : Int32))]))
    refine OwnR.of (fun _ hr => XS.ifNo X22.here hx rfl (hb hby at_164) rfl ((if0 _ _).trans (feq (by decide : ¬ ((1 : Int32) = (0 : Int32)))).1) hr) ?_
    show OwnR _ _ _ _ _ _ _ (T22.setTop (mkF m 167 #[.val (.int p1), .val (.int p2), .val (.int p3), .val (.int p4), .val (.int p5), .val (.ref b6), .val (.int (3 : Int32)), .val (.int p4), .val (.int p4), .val (.int (1 : Int32)), .val (.int p3), .val (.int p3)] []))
    refine OwnR.of (fun _ hr => XS.iload X22.here hx rfl (hb hby at_167) rfl hr) ?_
    show OwnR _ _ _ _ _ _ _ (T22.setTop (mkF m 169 #[.val (.int p1), .val (.int p2), .val (.int p3), .val (.int p4), .val (.int p5), .val (.ref b6), .val (.int (3 : Int32)), .val (.int p4), .val (.int p4), .val (.int (1 : Int32)), .val (.int p3), .val (.int p3)] [(.int p3)]))
    refine OwnR.of (fun _ hr => XS.iload X22.here hx rfl (hb hby at_169) rfl hr) ?_
    show OwnR _ _ _ _ _ _ _ (T22.setTop (mkF m 171 #[.val (.int p1), .val (.int p2), .val (.int p3), .val (.int p4), .val (.int p5), .val (.ref b6), .val (.int (3 : Int32)), .val (.int p4), .val (.int p4), .val (.int (1 : Int32)), .val (.int p3), .val (.int p3)] [(.int p3), (.int p3)]))
    refine OwnR.of (fun _ hr => XS.icmpNo X22.here hx rfl (hb hby at_171) rfl (teq rfl).2 hr) ?_
    show OwnR _ _ _ _ _ _ _ (T22.setTop (mkF m 174 #[.val (.int p1), .val (.int p2), .val (.int p3), .val (.int p4), .val (.int p5), .val (.ref b6), .val (.int (3 : Int32)), .val (.int p4), .val (.int p4), .val (.int (1 : Int32)), .val (.int p3), .val (.int p3)] []))
    refine OwnR.of (fun _ hr => XS.aload X22.here hx rfl (hb hby at_174) rfl rfl hr) ?_
    show OwnR _ _ _ _ _ _ _ (T22.setTop (mkF m 176 #[.val (.int p1), .val (.int p2), .val (.int p3), .val (.int p4), .val (.int p5), .val (.ref b6), .val (.int (3 : Int32)), .val (.int p4), .val (.int p4), .val (.int (1 : Int32)), .val (.int p3), .val (.int p3)] [(.ref b6)]))
    obtain ⟨cq23, kq23, q23a, q23b, q23c⟩ := isOf hZ rfl P22_1
    obtain ⟨_, _, ⟨T23, L23, kc23, ns23⟩, -, X23, ⟨Lc23, hQ23, l23, y23, z23⟩, st23⟩ := X22.virtualBack hx (y := (⟨"com/example/fast_taxonomy/fasttaxonomy/calculus/IntList", "size", "()I"⟩ : MethodName)) (z := (⟨"com/example/fast_taxonomy/fasttaxonomy/calculus/IntList", "size", "()I"⟩ : MethodName)) hown (mvT hZ (hw _ (List.mem_of_getElem? (i := 41) rfl))) (mvT hZ (hw _ (List.mem_of_getElem? (i := 42) rfl))) (notFace_of_selects (args := #[]) (mvT hZ (hw _ (List.mem_of_getElem? (i := 44) rfl)))) (mvT hZ (hw _ (List.mem_of_getElem? (i := 44) rfl))) (mvT hZ (hw _ (List.mem_of_getElem? (i := 43) rfl))) (by decide) (backOf (W := 0) (rm8 l Z a0 hw [] b6 (1 : Int32) (T22.heap) n0 (Nat.le_trans Z0 K22.1) P22_1 P22_3) hZ (hw _ (List.mem_of_getElem? (i := 45) rfl)) (hw _ (List.mem_of_getElem? (i := 2) rfl)) (by decide) (by decide)) q23a q23c (g := (mkF m 176 #[.val (.int p1), .val (.int p2), .val (.int p3), .val (.int p4), .val (.int p5), .val (.ref b6), .val (.int (3 : Int32)), .val (.int p4), .val (.int p4), .val (.int (1 : Int32)), .val (.int p3), .val (.int p3)] [(.ref b6)])) rfl (by rw [hml]; rfl) (Steps.refl _) (argsL := []) (rest := []) (lenOf pd___I rfl) rfl (by show 2 * 0 + _ ≤ _; exact Nat.le_of_eq rfl) (hb hby at_176) (fun _ _ => ⟨rfl, rfl, (by decide : 2 + 0 ≤ _), (by decide : 10 + 0 ≤ _)⟩)
    dsimp only [Pt.U, Pt.locs, Pt.cells, Pt.slots] at X23 l23 y23 z23 st23 hQ23
    subst l23 y23 z23
    obtain ⟨rfl, N23q, e23⟩ := hQ23
    have N23 := Fr.app N22 N23q
    refine OwnR.of (fun _ hr => st23.trans hr) ?_
    show OwnR _ _ _ _ _ _ _ (T23.setTop (mkF m 179 #[.val (.int p1), .val (.int p2), .val (.int p3), .val (.int p4), .val (.int p5), .val (.ref b6), .val (.int (3 : Int32)), .val (.int p4), .val (.int p4), .val (.int (1 : Int32)), .val (.int p3), .val (.int p3)] [(.int (1 : Int32))]))
    refine OwnR.of (fun _ hr => XS.iload X23.here hx rfl (hb hby at_179) rfl hr) ?_
    show OwnR _ _ _ _ _ _ _ (T23.setTop (mkF m 181 #[.val (.int p1), .val (.int p2), .val (.int p3), .val (.int p4), .val (.int p5), .val (.ref b6), .val (.int (3 : Int32)), .val (.int p4), .val (.int p4), .val (.int (1 : Int32)), .val (.int p3), .val (.int p3)] [(.int (3 : Int32)), (.int (1 : Int32))]))
    refine OwnR.of (fun _ hr => XS.iconst X23.here hx rfl (hb hby at_181) hr) ?_
    show OwnR _ _ _ _ _ _ _ (T23.setTop (mkF m 182 #[.val (.int p1), .val (.int p2), .val (.int p3), .val (.int p4), .val (.int p5), .val (.ref b6), .val (.int (3 : Int32)), .val (.int p4), .val (.int p4), .val (.int (1 : Int32)), .val (.int p3), .val (.int p3)] [(.int (2 : Int32)), (.int (3 : Int32)), (.int (1 : Int32))]))
    refine OwnR.of (fun _ hr => XS.isub X23.here hx rfl (hb hby at_182) rfl hr) ?_
    show OwnR _ _ _ _ _ _ _ (T23.setTop (mkF m 183 #[.val (.int p1), .val (.int p2), .val (.int p3), .val (.int p4), .val (.int p5), .val (.ref b6), .val (.int (3 : Int32)), .val (.int p4), .val (.int p4), .val (.int (1 : Int32)), .val (.int p3), .val (.int p3)] [(.int ((3 : Int32) - (2 : Int32))), (.int (1 : Int32))]))
    rw [(by decide : ((3 : Int32) - (2 : Int32)) = (1 : Int32))]
    show OwnR _ _ _ _ _ _ _ (T23.setTop (mkF m 183 #[.val (.int p1), .val (.int p2), .val (.int p3), .val (.int p4), .val (.int p5), .val (.ref b6), .val (.int (3 : Int32)), .val (.int p4), .val (.int p4), .val (.int (1 : Int32)), .val (.int p3), .val (.int p3)] [(.int (1 : Int32)), (.int (1 : Int32))]))
    refine OwnR.of (fun _ hr => XS.icmpNo X23.here hx rfl (hb hby at_183) rfl (teq (by decide : (1 : Int32) = (1 : Int32))).2 hr) ?_
    show OwnR _ _ _ _ _ _ _ (T23.setTop (mkF m 186 #[.val (.int p1), .val (.int p2), .val (.int p3), .val (.int p4), .val (.int p5), .val (.ref b6), .val (.int (3 : Int32)), .val (.int p4), .val (.int p4), .val (.int (1 : Int32)), .val (.int p3), .val (.int p3)] []))
    refine OwnR.of (fun _ hr => XS.iconst X23.here hx rfl (hb hby at_186) hr) ?_
    show OwnR _ _ _ _ _ _ _ (T23.setTop (mkF m 187 #[.val (.int p1), .val (.int p2), .val (.int p3), .val (.int p4), .val (.int p5), .val (.ref b6), .val (.int (3 : Int32)), .val (.int p4), .val (.int p4), .val (.int (1 : Int32)), .val (.int p3), .val (.int p3)] [(.int (1 : Int32))]))
    refine OwnR.of (fun _ hr => XS.goto X23.here hx rfl (pc0 := 187) (pc' := 191) rfl (hb hby at_187) (by decide) (by decide) hr) ?_
    show OwnR _ _ _ _ _ _ _ (T23.setTop (mkF m 191 #[.val (.int p1), .val (.int p2), .val (.int p3), .val (.int p4), .val (.int p5), .val (.ref b6), .val (.int (3 : Int32)), .val (.int p4), .val (.int p4), .val (.int (1 : Int32)), .val (.int p3), .val (.int p3)] [(.int (1 : Int32))]))
    refine OwnR.of (fun _ hr => XS.istore X23.here hx rfl (hb hby at_191) rfl (l' := #[.val (.int p1), .val (.int p2), .val (.int p3), .val (.int p4), .val (.int p5), .val (.ref b6), .val (.int (3 : Int32)), .val (.int p4), .val (.int p4), .val (.int (1 : Int32)), .val (.int p3), .val (.int p3)]) rfl hr) ?_
    show OwnR _ _ _ _ _ _ _ (T23.setTop (mkF m 193 #[.val (.int p1), .val (.int p2), .val (.int p3), .val (.int p4), .val (.int p5), .val (.ref b6), .val (.int (3 : Int32)), .val (.int p4), .val (.int p4), .val (.int (1 : Int32)), .val (.int p3), .val (.int p3)] []))
    refine OwnR.of (fun _ hr => XS.iload X23.here hx rfl (hb hby at_193) rfl hr) ?_
    show OwnR _ _ _ _ _ _ _ (T23.setTop (mkF m 195 #[.val (.int p1), .val (.int p2), .val (.int p3), .val (.int p4), .val (.int p5), .val (.ref b6), .val (.int (3 : Int32)), .val (.int p4), .val (.int p4), .val (.int (1 : Int32)), .val (.int p3), .val (.int p3)] [(.int (3 : Int32))]))
    refine OwnR.of (fun _ hr => XS.iconst X23.here hx rfl (hb hby at_195) hr) ?_
    show OwnR _ _ _ _ _ _ _ (T23.setTop (mkF m 196 #[.val (.int p1), .val (.int p2), .val (.int p3), .val (.int p4), .val (.int p5), .val (.ref b6), .val (.int (3 : Int32)), .val (.int p4), .val (.int p4), .val (.int (1 : Int32)), .val (.int p3), .val (.int p3)] [(.int (3 : Int32)), (.int (3 : Int32))]))
    refine OwnR.of (fun _ hr => XS.icmpNo X23.here hx rfl (hb hby at_196) rfl (flt (by decide : ¬ ((3 : Int32) < (3 : Int32)))).1 hr) ?_
    show OwnR _ _ _ _ _ _ _ (T23.setTop (mkF m 199 #[.val (.int p1), .val (.int p2), .val (.int p3), .val (.int p4), .val (.int p5), .val (.ref b6), .val (.int (3 : Int32)), .val (.int p4), .val (.int p4), .val (.int (1 : Int32)), .val (.int p3), .val (.int p3)] []))
    refine OwnR.of (fun _ hr => XS.iload X23.here hx rfl (hb hby at_199) rfl hr) ?_
    show OwnR _ _ _ _ _ _ _ (T23.setTop (mkF m 201 #[.val (.int p1), .val (.int p2), .val (.int p3), .val (.int p4), .val (.int p5), .val (.ref b6), .val (.int (3 : Int32)), .val (.int p4), .val (.int p4), .val (.int (1 : Int32)), .val (.int p3), .val (.int p3)] [(.int (1 : Int32))]))
    refine OwnR.of (fun _ hr => XS.ifNo X23.here hx rfl (hb hby at_201) rfl ((if0 _ _).trans (feq (by decide : ¬ ((1 : Int32) = (0 : Int32)))).1) hr) ?_
    show OwnR _ _ _ _ _ _ _ (T23.setTop (mkF m 204 #[.val (.int p1), .val (.int p2), .val (.int p3), .val (.int p4), .val (.int p5), .val (.ref b6), .val (.int (3 : Int32)), .val (.int p4), .val (.int p4), .val (.int (1 : Int32)), .val (.int p3), .val (.int p3)] []))
    refine OwnR.of (fun _ hr => XS.aload X23.here hx rfl (hb hby at_204) rfl rfl hr) ?_
    show OwnR _ _ _ _ _ _ _ (T23.setTop (mkF m 206 #[.val (.int p1), .val (.int p2), .val (.int p3), .val (.int p4), .val (.int p5), .val (.ref b6), .val (.int (3 : Int32)), .val (.int p4), .val (.int p4), .val (.int (1 : Int32)), .val (.int p3), .val (.int p3)] [(.ref b6)]))
    refine OwnR.of (fun _ hr => XS.iconst X23.here hx rfl (hb hby at_206) hr) ?_
    show OwnR _ _ _ _ _ _ _ (T23.setTop (mkF m 207 #[.val (.int p1), .val (.int p2), .val (.int p3), .val (.int p4), .val (.int p5), .val (.ref b6), .val (.int (3 : Int32)), .val (.int p4), .val (.int p4), .val (.int (1 : Int32)), .val (.int p3), .val (.int p3)] [(.int (0 : Int32)), (.ref b6)]))
    obtain ⟨cq24, kq24, q24a, q24b, q24c⟩ := isOf hZ e23 P22_1
    obtain ⟨_, _, ⟨T24, L24, kc24, ns24⟩, -, X24, ⟨Lc24, hQ24, l24, y24, z24⟩, st24⟩ := X23.virtualBack hx (y := (⟨"com/example/fast_taxonomy/fasttaxonomy/calculus/IntList", "get", "(I)I"⟩ : MethodName)) (z := (⟨"com/example/fast_taxonomy/fasttaxonomy/calculus/IntList", "get", "(I)I"⟩ : MethodName)) hown (mvT hZ (hw _ (List.mem_of_getElem? (i := 46) rfl))) (mvT hZ (hw _ (List.mem_of_getElem? (i := 47) rfl))) (notFace_of_selects (args := #[]) (mvT hZ (hw _ (List.mem_of_getElem? (i := 49) rfl)))) (mvT hZ (hw _ (List.mem_of_getElem? (i := 49) rfl))) (mvT hZ (hw _ (List.mem_of_getElem? (i := 48) rfl))) (by decide) (backOf (W := 0) (rm9 l Z a0 hw [] b6 b_17 kb_17 p2 p3 p4 (0 : Int32) (T22.heap) n0 (Nat.le_trans Z0 K22.1) P22_1 P22_2 ((P19_4.keep P20_0 (ninS (Ne.symm (Nat.ne_of_lt (Nat.lt_of_lt_of_le (A6.keep P7_0).lt P17_5))) nin0)).keep P22_0 (ninS (Ne.symm (Nat.ne_of_lt (Nat.lt_of_lt_of_le (A6.keep P7_0).lt P17_5))) nin0))) hZ (hw _ (List.mem_of_getElem? (i := 50) rfl)) (hw _ (List.mem_of_getElem? (i := 2) rfl)) (by decide) (by decide)) q24a q24c (g := (mkF m 207 #[.val (.int p1), .val (.int p2), .val (.int p3), .val (.int p4), .val (.int p5), .val (.ref b6), .val (.int (3 : Int32)), .val (.int p4), .val (.int p4), .val (.int (1 : Int32)), .val (.int p3), .val (.int p3)] [(.int (0 : Int32)), (.ref b6)])) rfl (by rw [hml]; rfl) (Steps.refl _) (argsL := [(.int (0 : Int32))]) (rest := []) (lenOf pd__I_I rfl) rfl (by show 2 * 0 + _ ≤ _; exact Nat.le_of_eq rfl) (hb hby at_207) (fun _ _ => ⟨rfl, e23, (by decide : 2 + 0 ≤ _), (by decide : 10 + 0 ≤ _)⟩)
    dsimp only [Pt.U, Pt.locs, Pt.cells, Pt.slots] at X24 l24 y24 z24 st24 hQ24
    subst l24 y24 z24
    obtain ⟨rfl, N24q, e24⟩ := hQ24
    have N24 := Fr.app N23 N24q
    refine OwnR.of (fun _ hr => st24.trans hr) ?_
    show OwnR _ _ _ _ _ _ _ (T24.setTop (mkF m 210 #[.val (.int p1), .val (.int p2), .val (.int p3), .val (.int p4), .val (.int p5), .val (.ref b6), .val (.int (3 : Int32)), .val (.int p4), .val (.int p4), .val (.int (1 : Int32)), .val (.int p3), .val (.int p3)] [(.int p2)]))
    refine OwnR.of (fun _ hr => XS.iloadN X24.here hx rfl (hb hby at_210) rfl hr) ?_
    show OwnR _ _ _ _ _ _ _ (T24.setTop (mkF m 211 #[.val (.int p1), .val (.int p2), .val (.int p3), .val (.int p4), .val (.int p5), .val (.ref b6), .val (.int (3 : Int32)), .val (.int p4), .val (.int p4), .val (.int (1 : Int32)), .val (.int p3), .val (.int p3)] [(.int p2), (.int p2)]))
    refine OwnR.of (fun _ hr => XS.icmpNo X24.here hx rfl (hb hby at_211) rfl (teq rfl).2 hr) ?_
    show OwnR _ _ _ _ _ _ _ (T24.setTop (mkF m 214 #[.val (.int p1), .val (.int p2), .val (.int p3), .val (.int p4), .val (.int p5), .val (.ref b6), .val (.int (3 : Int32)), .val (.int p4), .val (.int p4), .val (.int (1 : Int32)), .val (.int p3), .val (.int p3)] []))
    refine OwnR.of (fun _ hr => XS.iconst X24.here hx rfl (hb hby at_214) hr) ?_
    show OwnR _ _ _ _ _ _ _ (T24.setTop (mkF m 215 #[.val (.int p1), .val (.int p2), .val (.int p3), .val (.int p4), .val (.int p5), .val (.ref b6), .val (.int (3 : Int32)), .val (.int p4), .val (.int p4), .val (.int (1 : Int32)), .val (.int p3), .val (.int p3)] [(.int (1 : Int32))]))
    refine OwnR.of (fun _ hr => XS.goto X24.here hx rfl (pc0 := 215) (pc' := 219) rfl (hb hby at_215) (by decide) (by decide) hr) ?_
    show OwnR _ _ _ _ _ _ _ (T24.setTop (mkF m 219 #[.val (.int p1), .val (.int p2), .val (.int p3), .val (.int p4), .val (.int p5), .val (.ref b6), .val (.int (3 : Int32)), .val (.int p4), .val (.int p4), .val (.int (1 : Int32)), .val (.int p3), .val (.int p3)] [(.int (1 : Int32))]))
    refine OwnR.of (fun _ hr => XS.istore X24.here hx rfl (hb hby at_219) rfl (l' := #[.val (.int p1), .val (.int p2), .val (.int p3), .val (.int p4), .val (.int p5), .val (.ref b6), .val (.int (3 : Int32)), .val (.int p4), .val (.int p4), .val (.int (1 : Int32)), .val (.int p3), .val (.int p3)]) rfl hr) ?_
    show OwnR _ _ _ _ _ _ _ (T24.setTop (mkF m 221 #[.val (.int p1), .val (.int p2), .val (.int p3), .val (.int p4), .val (.int p5), .val (.ref b6), .val (.int (3 : Int32)), .val (.int p4), .val (.int p4), .val (.int (1 : Int32)), .val (.int p3), .val (.int p3)] []))
    refine OwnR.of (fun _ hr => XS.iload X24.here hx rfl (hb hby at_221) rfl hr) ?_
    show OwnR _ _ _ _ _ _ _ (T24.setTop (mkF m 223 #[.val (.int p1), .val (.int p2), .val (.int p3), .val (.int p4), .val (.int p5), .val (.ref b6), .val (.int (3 : Int32)), .val (.int p4), .val (.int p4), .val (.int (1 : Int32)), .val (.int p3), .val (.int p3)] [(.int (1 : Int32))]))
    refine own_leafN X24 hx hlk (t := .boolean) Bd.returns (by simp) (hb hby at_223) (z' := (1 : Int32)) rfl (by decide) (by decide) ?_
    show Q0 Z  h0 n0 _ T24.heap _
    rw [show T24.heap = T22.heap from e24]
    refine ⟨?_, N24⟩
    show (some (.int (1 : Int32)) : Option Value) = some (.int (1 : Int32))
    rfl
  · skip
    show OwnR _ _ _ _ _ _ _ (T7.setTop (mkF m 16 #[.val (.int p1), .val (.int p2), .val (.int p3), .val (.int p4), .val (.int p5), .val (.ref b6), .val (.int (4 : Int32)), .unset, .unset, .unset, .unset, .unset] []))
    refine OwnR.of (fun _ hr => XS.aload X7.here hx rfl (hb hby at_16) rfl rfl hr) ?_
    show OwnR _ _ _ _ _ _ _ (T7.setTop (mkF m 18 #[.val (.int p1), .val (.int p2), .val (.int p3), .val (.int p4), .val (.int p5), .val (.ref b6), .val (.int (4 : Int32)), .unset, .unset, .unset, .unset, .unset] [(.ref b6)]))
    refine OwnR.of (fun _ hr => XS.iloadN X7.here hx rfl (hb hby at_18) rfl hr) ?_
    show OwnR _ _ _ _ _ _ _ (T7.setTop (mkF m 19 #[.val (.int p1), .val (.int p2), .val (.int p3), .val (.int p4), .val (.int p5), .val (.ref b6), .val (.int (4 : Int32)), .unset, .unset, .unset, .unset, .unset] [(.int p2), (.ref b6)]))
    obtain ⟨cq25, kq25, q25a, q25b, q25c⟩ := isOf hZ rfl P7_1
    obtain ⟨_, _, ⟨T25, L25, kc25, ns25⟩, -, X25, ⟨Lc25, hQ25, l25, y25, z25⟩, st25⟩ := X7.virtualBack hx (y := (⟨"com/example/fast_taxonomy/fasttaxonomy/calculus/IntList", "add", "(I)V"⟩ : MethodName)) (z := (⟨"com/example/fast_taxonomy/fasttaxonomy/calculus/IntList", "add", "(I)V"⟩ : MethodName)) hown (mvT hZ (hw _ (List.mem_of_getElem? (i := 13) rfl))) (mvT hZ (hw _ (List.mem_of_getElem? (i := 14) rfl))) (notFace_of_selects (args := #[]) (mvT hZ (hw _ (List.mem_of_getElem? (i := 16) rfl)))) (mvT hZ (hw _ (List.mem_of_getElem? (i := 16) rfl))) (mvT hZ (hw _ (List.mem_of_getElem? (i := 15) rfl))) (by decide) (backOf (W := 0) (rm3_0 l Z a0 hw [] b6 p2 se ke (T7.heap) n0 (Nat.le_trans Z0 K7.1) P7_1 P7_2 P7_3 (Arv.keep V_EMPTY K7 nin0) gn_b6 (Ne.symm (Nat.ne_of_lt (Nat.lt_of_lt_of_le V_EMPTY.lt (Nat.le_of_eq g6.symm))))) hZ (hw _ (List.mem_of_getElem? (i := 17) rfl)) (hw _ (List.mem_of_getElem? (i := 2) rfl)) (by decide) (by decide)) q25a q25c (g := (mkF m 19 #[.val (.int p1), .val (.int p2), .val (.int p3), .val (.int p4), .val (.int p5), .val (.ref b6), .val (.int (4 : Int32)), .unset, .unset, .unset, .unset, .unset] [(.int p2), (.ref b6)])) rfl (by rw [hml]; rfl) (Steps.refl _) (argsL := [(.int p2)]) (rest := []) (lenOf pd__I_V rfl) rfl (by show 2 * 0 + _ ≤ _; exact Nat.le_of_eq rfl) (hb hby at_19) (fun _ _ => ⟨rfl, rfl, (by decide : 1 + 1 ≤ _), (by decide : 2 + 8 ≤ _)⟩)
    dsimp only [Pt.U, Pt.locs, Pt.cells, Pt.slots] at X25 l25 y25 z25 st25 hQ25
    subst l25 y25 z25
    obtain ⟨b_25, kb_25, rfl, N25q, P25_0, P25_1, P25_2, P25_3, P25_4, P25_5, P25_6⟩ := hQ25
    have K25 : Keep h0 T25.heap [] := Keep.trans K7 P25_0 (allS (Or.inr sz_b6) all0)
    have sz_b_25 : h0.size ≤ b_25 := Nat.le_trans K7.1 P25_5
    have N25 := Fr.app N7 N25q
    refine OwnR.of (fun _ hr => st25.trans hr) ?_
    show OwnR _ _ _ _ _ _ _ (T25.setTop (mkF m 22 #[.val (.int p1), .val (.int p2), .val (.int p3), .val (.int p4), .val (.int p5), .val (.ref b6), .val (.int (4 : Int32)), .unset, .unset, .unset, .unset, .unset] []))
    refine OwnR.of (fun _ hr => XS.iload X25.here hx rfl (hb hby at_22) rfl hr) ?_
    show OwnR _ _ _ _ _ _ _ (T25.setTop (mkF m 24 #[.val (.int p1), .val (.int p2), .val (.int p3), .val (.int p4), .val (.int p5), .val (.ref b6), .val (.int (4 : Int32)), .unset, .unset, .unset, .unset, .unset] [(.int (4 : Int32))]))
    refine OwnR.of (fun _ hr => XS.iconst X25.here hx rfl (hb hby at_24) hr) ?_
    show OwnR _ _ _ _ _ _ _ (T25.setTop (mkF m 25 #[.val (.int p1), .val (.int p2), .val (.int p3), .val (.int p4), .val (.int p5), .val (.ref b6), .val (.int (4 : Int32)), .unset, .unset, .unset, .unset, .unset] [(.int (2 : Int32)), (.int (4 : Int32))]))
    refine OwnR.of (fun _ hr => XS.icmpNo X25.here hx rfl (hb hby at_25) rfl (flt (by decide : ¬ ((4 : Int32) < (2 : Int32)))).1 hr) ?_
    show OwnR _ _ _ _ _ _ _ (T25.setTop (mkF m 28 #[.val (.int p1), .val (.int p2), .val (.int p3), .val (.int p4), .val (.int p5), .val (.ref b6), .val (.int (4 : Int32)), .unset, .unset, .unset, .unset, .unset] []))
    refine OwnR.of (fun _ hr => XS.aload X25.here hx rfl (hb hby at_28) rfl rfl hr) ?_
    show OwnR _ _ _ _ _ _ _ (T25.setTop (mkF m 30 #[.val (.int p1), .val (.int p2), .val (.int p3), .val (.int p4), .val (.int p5), .val (.ref b6), .val (.int (4 : Int32)), .unset, .unset, .unset, .unset, .unset] [(.ref b6)]))
    refine OwnR.of (fun _ hr => XS.iloadN X25.here hx rfl (hb hby at_30) rfl hr) ?_
    show OwnR _ _ _ _ _ _ _ (T25.setTop (mkF m 31 #[.val (.int p1), .val (.int p2), .val (.int p3), .val (.int p4), .val (.int p5), .val (.ref b6), .val (.int (4 : Int32)), .unset, .unset, .unset, .unset, .unset] [(.int p3), (.ref b6)]))
    obtain ⟨cq26, kq26, q26a, q26b, q26c⟩ := isOf hZ rfl P25_1
    obtain ⟨_, _, ⟨T26, L26, kc26, ns26⟩, -, X26, ⟨Lc26, hQ26, l26, y26, z26⟩, st26⟩ := X25.virtualBack hx (y := (⟨"com/example/fast_taxonomy/fasttaxonomy/calculus/IntList", "add", "(I)V"⟩ : MethodName)) (z := (⟨"com/example/fast_taxonomy/fasttaxonomy/calculus/IntList", "add", "(I)V"⟩ : MethodName)) hown (mvT hZ (hw _ (List.mem_of_getElem? (i := 13) rfl))) (mvT hZ (hw _ (List.mem_of_getElem? (i := 14) rfl))) (notFace_of_selects (args := #[]) (mvT hZ (hw _ (List.mem_of_getElem? (i := 16) rfl)))) (mvT hZ (hw _ (List.mem_of_getElem? (i := 16) rfl))) (mvT hZ (hw _ (List.mem_of_getElem? (i := 15) rfl))) (by decide) (backOf (W := 0) (rm3_1 l Z a0 hw [] b6 p3 b_25 kb_25 p2 (T25.heap) n0 (Nat.le_trans Z0 K25.1) P25_1 P25_2 P25_3 P25_4 gn_b6 P25_6 (Nat.ne_of_lt (Nat.lt_of_lt_of_le (A6.keep P7_0).lt P25_5))) hZ (hw _ (List.mem_of_getElem? (i := 17) rfl)) (hw _ (List.mem_of_getElem? (i := 2) rfl)) (by decide) (by decide)) q26a q26c (g := (mkF m 31 #[.val (.int p1), .val (.int p2), .val (.int p3), .val (.int p4), .val (.int p5), .val (.ref b6), .val (.int (4 : Int32)), .unset, .unset, .unset, .unset, .unset] [(.int p3), (.ref b6)])) rfl (by rw [hml]; rfl) (Steps.refl _) (argsL := [(.int p3)]) (rest := []) (lenOf pd__I_V rfl) rfl (by show 2 * 0 + _ ≤ _; exact Nat.le_of_eq rfl) (hb hby at_31) (fun _ _ => ⟨rfl, rfl, (by decide : 2 + 0 ≤ _), (by decide : 10 + 0 ≤ _)⟩)
    dsimp only [Pt.U, Pt.locs, Pt.cells, Pt.slots] at X26 l26 y26 z26 st26 hQ26
    subst l26 y26 z26
    obtain ⟨rfl, N26q, P26_0, P26_1, P26_2, P26_3, P26_4⟩ := hQ26
    have K26 : Keep h0 T26.heap [] := Keep.trans K25 P26_0 (allS (Or.inr sz_b6) (allS (Or.inr sz_b_25) all0))
    have N26 := Fr.app N25 N26q
    refine OwnR.of (fun _ hr => st26.trans hr) ?_
    show OwnR _ _ _ _ _ _ _ (T26.setTop (mkF m 34 #[.val (.int p1), .val (.int p2), .val (.int p3), .val (.int p4), .val (.int p5), .val (.ref b6), .val (.int (4 : Int32)), .unset, .unset, .unset, .unset, .unset] []))
    refine OwnR.of (fun _ hr => XS.iload X26.here hx rfl (hb hby at_34) rfl hr) ?_
    show OwnR _ _ _ _ _ _ _ (T26.setTop (mkF m 36 #[.val (.int p1), .val (.int p2), .val (.int p3), .val (.int p4), .val (.int p5), .val (.ref b6), .val (.int (4 : Int32)), .unset, .unset, .unset, .unset, .unset] [(.int (4 : Int32))]))
    refine OwnR.of (fun _ hr => XS.iconst X26.here hx rfl (hb hby at_36) hr) ?_
    show OwnR _ _ _ _ _ _ _ (T26.setTop (mkF m 37 #[.val (.int p1), .val (.int p2), .val (.int p3), .val (.int p4), .val (.int p5), .val (.ref b6), .val (.int (4 : Int32)), .unset, .unset, .unset, .unset, .unset] [(.int (3 : Int32)), (.int (4 : Int32))]))
    refine OwnR.of (fun _ hr => XS.icmpNo X26.here hx rfl (hb hby at_37) rfl (flt (by decide : ¬ ((4 : Int32) < (3 : Int32)))).1 hr) ?_
    show OwnR _ _ _ _ _ _ _ (T26.setTop (mkF m 40 #[.val (.int p1), .val (.int p2), .val (.int p3), .val (.int p4), .val (.int p5), .val (.ref b6), .val (.int (4 : Int32)), .unset, .unset, .unset, .unset, .unset] []))
    refine OwnR.of (fun _ hr => XS.aload X26.here hx rfl (hb hby at_40) rfl rfl hr) ?_
    show OwnR _ _ _ _ _ _ _ (T26.setTop (mkF m 42 #[.val (.int p1), .val (.int p2), .val (.int p3), .val (.int p4), .val (.int p5), .val (.ref b6), .val (.int (4 : Int32)), .unset, .unset, .unset, .unset, .unset] [(.ref b6)]))
    refine OwnR.of (fun _ hr => XS.iloadN X26.here hx rfl (hb hby at_42) rfl hr) ?_
    show OwnR _ _ _ _ _ _ _ (T26.setTop (mkF m 43 #[.val (.int p1), .val (.int p2), .val (.int p3), .val (.int p4), .val (.int p5), .val (.ref b6), .val (.int (4 : Int32)), .unset, .unset, .unset, .unset, .unset] [(.int p4), (.ref b6)]))
    obtain ⟨cq27, kq27, q27a, q27b, q27c⟩ := isOf hZ rfl P26_1
    obtain ⟨_, _, ⟨T27, L27, kc27, ns27⟩, -, X27, ⟨Lc27, hQ27, l27, y27, z27⟩, st27⟩ := X26.virtualBack hx (y := (⟨"com/example/fast_taxonomy/fasttaxonomy/calculus/IntList", "add", "(I)V"⟩ : MethodName)) (z := (⟨"com/example/fast_taxonomy/fasttaxonomy/calculus/IntList", "add", "(I)V"⟩ : MethodName)) hown (mvT hZ (hw _ (List.mem_of_getElem? (i := 13) rfl))) (mvT hZ (hw _ (List.mem_of_getElem? (i := 14) rfl))) (notFace_of_selects (args := #[]) (mvT hZ (hw _ (List.mem_of_getElem? (i := 16) rfl)))) (mvT hZ (hw _ (List.mem_of_getElem? (i := 16) rfl))) (mvT hZ (hw _ (List.mem_of_getElem? (i := 15) rfl))) (by decide) (backOf (W := 0) (rm3_2 l Z a0 hw [] b6 p4 b_25 kb_25 p2 p3 (T26.heap) n0 (Nat.le_trans Z0 K26.1) P26_1 P26_2 P26_3 P26_4 gn_b6 P25_6 (Nat.ne_of_lt (Nat.lt_of_lt_of_le (A6.keep P7_0).lt P25_5))) hZ (hw _ (List.mem_of_getElem? (i := 17) rfl)) (hw _ (List.mem_of_getElem? (i := 2) rfl)) (by decide) (by decide)) q27a q27c (g := (mkF m 43 #[.val (.int p1), .val (.int p2), .val (.int p3), .val (.int p4), .val (.int p5), .val (.ref b6), .val (.int (4 : Int32)), .unset, .unset, .unset, .unset, .unset] [(.int p4), (.ref b6)])) rfl (by rw [hml]; rfl) (Steps.refl _) (argsL := [(.int p4)]) (rest := []) (lenOf pd__I_V rfl) rfl (by show 2 * 0 + _ ≤ _; exact Nat.le_of_eq rfl) (hb hby at_43) (fun _ _ => ⟨rfl, rfl, (by decide : 2 + 0 ≤ _), (by decide : 10 + 0 ≤ _)⟩)
    dsimp only [Pt.U, Pt.locs, Pt.cells, Pt.slots] at X27 l27 y27 z27 st27 hQ27
    subst l27 y27 z27
    obtain ⟨rfl, N27q, P27_0, P27_1, P27_2, P27_3, P27_4⟩ := hQ27
    have K27 : Keep h0 T27.heap [] := Keep.trans K26 P27_0 (allS (Or.inr sz_b6) (allS (Or.inr sz_b_25) all0))
    have N27 := Fr.app N26 N27q
    refine OwnR.of (fun _ hr => st27.trans hr) ?_
    show OwnR _ _ _ _ _ _ _ (T27.setTop (mkF m 46 #[.val (.int p1), .val (.int p2), .val (.int p3), .val (.int p4), .val (.int p5), .val (.ref b6), .val (.int (4 : Int32)), .unset, .unset, .unset, .unset, .unset] []))
    refine OwnR.of (fun _ hr => XS.iload X27.here hx rfl (hb hby at_46) rfl hr) ?_
    show OwnR _ _ _ _ _ _ _ (T27.setTop (mkF m 48 #[.val (.int p1), .val (.int p2), .val (.int p3), .val (.int p4), .val (.int p5), .val (.ref b6), .val (.int (4 : Int32)), .unset, .unset, .unset, .unset, .unset] [(.int (4 : Int32))]))
    refine OwnR.of (fun _ hr => XS.iconst X27.here hx rfl (hb hby at_48) hr) ?_
    show OwnR _ _ _ _ _ _ _ (T27.setTop (mkF m 49 #[.val (.int p1), .val (.int p2), .val (.int p3), .val (.int p4), .val (.int p5), .val (.ref b6), .val (.int (4 : Int32)), .unset, .unset, .unset, .unset, .unset] [(.int (4 : Int32)), (.int (4 : Int32))]))
    refine OwnR.of (fun _ hr => XS.icmpNo X27.here hx rfl (hb hby at_49) rfl (flt (by decide : ¬ ((4 : Int32) < (4 : Int32)))).1 hr) ?_
    show OwnR _ _ _ _ _ _ _ (T27.setTop (mkF m 52 #[.val (.int p1), .val (.int p2), .val (.int p3), .val (.int p4), .val (.int p5), .val (.ref b6), .val (.int (4 : Int32)), .unset, .unset, .unset, .unset, .unset] []))
    refine OwnR.of (fun _ hr => XS.aload X27.here hx rfl (hb hby at_52) rfl rfl hr) ?_
    show OwnR _ _ _ _ _ _ _ (T27.setTop (mkF m 54 #[.val (.int p1), .val (.int p2), .val (.int p3), .val (.int p4), .val (.int p5), .val (.ref b6), .val (.int (4 : Int32)), .unset, .unset, .unset, .unset, .unset] [(.ref b6)]))
    refine OwnR.of (fun _ hr => XS.iload X27.here hx rfl (hb hby at_54) rfl hr) ?_
    show OwnR _ _ _ _ _ _ _ (T27.setTop (mkF m 56 #[.val (.int p1), .val (.int p2), .val (.int p3), .val (.int p4), .val (.int p5), .val (.ref b6), .val (.int (4 : Int32)), .unset, .unset, .unset, .unset, .unset] [(.int p5), (.ref b6)]))
    obtain ⟨cq28, kq28, q28a, q28b, q28c⟩ := isOf hZ rfl P27_1
    obtain ⟨_, _, ⟨T28, L28, kc28, ns28⟩, -, X28, ⟨Lc28, hQ28, l28, y28, z28⟩, st28⟩ := X27.virtualBack hx (y := (⟨"com/example/fast_taxonomy/fasttaxonomy/calculus/IntList", "add", "(I)V"⟩ : MethodName)) (z := (⟨"com/example/fast_taxonomy/fasttaxonomy/calculus/IntList", "add", "(I)V"⟩ : MethodName)) hown (mvT hZ (hw _ (List.mem_of_getElem? (i := 13) rfl))) (mvT hZ (hw _ (List.mem_of_getElem? (i := 14) rfl))) (notFace_of_selects (args := #[]) (mvT hZ (hw _ (List.mem_of_getElem? (i := 16) rfl)))) (mvT hZ (hw _ (List.mem_of_getElem? (i := 16) rfl))) (mvT hZ (hw _ (List.mem_of_getElem? (i := 15) rfl))) (by decide) (backOf (W := 0) (rm3_3 l Z a0 hw [] b6 p5 b_25 kb_25 p2 p3 p4 (T27.heap) n0 (Nat.le_trans Z0 K27.1) P27_1 P27_2 P27_3 P27_4 gn_b6 P25_6 (Nat.ne_of_lt (Nat.lt_of_lt_of_le (A6.keep P7_0).lt P25_5))) hZ (hw _ (List.mem_of_getElem? (i := 17) rfl)) (hw _ (List.mem_of_getElem? (i := 2) rfl)) (by decide) (by decide)) q28a q28c (g := (mkF m 56 #[.val (.int p1), .val (.int p2), .val (.int p3), .val (.int p4), .val (.int p5), .val (.ref b6), .val (.int (4 : Int32)), .unset, .unset, .unset, .unset, .unset] [(.int p5), (.ref b6)])) rfl (by rw [hml]; rfl) (Steps.refl _) (argsL := [(.int p5)]) (rest := []) (lenOf pd__I_V rfl) rfl (by show 2 * 0 + _ ≤ _; exact Nat.le_of_eq rfl) (hb hby at_56) (fun _ _ => ⟨rfl, rfl, (by decide : 2 + 0 ≤ _), (by decide : 10 + 0 ≤ _)⟩)
    dsimp only [Pt.U, Pt.locs, Pt.cells, Pt.slots] at X28 l28 y28 z28 st28 hQ28
    subst l28 y28 z28
    obtain ⟨rfl, N28q, P28_0, P28_1, P28_2, P28_3, P28_4⟩ := hQ28
    have K28 : Keep h0 T28.heap [] := Keep.trans K27 P28_0 (allS (Or.inr sz_b6) (allS (Or.inr sz_b_25) all0))
    have N28 := Fr.app N27 N28q
    refine OwnR.of (fun _ hr => st28.trans hr) ?_
    show OwnR _ _ _ _ _ _ _ (T28.setTop (mkF m 59 #[.val (.int p1), .val (.int p2), .val (.int p3), .val (.int p4), .val (.int p5), .val (.ref b6), .val (.int (4 : Int32)), .unset, .unset, .unset, .unset, .unset] []))
    refine OwnR.of (fun _ hr => XS.iload X28.here hx rfl (hb hby at_59) rfl hr) ?_
    show OwnR _ _ _ _ _ _ _ (T28.setTop (mkF m 61 #[.val (.int p1), .val (.int p2), .val (.int p3), .val (.int p4), .val (.int p5), .val (.ref b6), .val (.int (4 : Int32)), .unset, .unset, .unset, .unset, .unset] [(.int (4 : Int32))]))
    refine OwnR.of (fun _ hr => XS.iconst X28.here hx rfl (hb hby at_61) hr) ?_
    show OwnR _ _ _ _ _ _ _ (T28.setTop (mkF m 62 #[.val (.int p1), .val (.int p2), .val (.int p3), .val (.int p4), .val (.int p5), .val (.ref b6), .val (.int (4 : Int32)), .unset, .unset, .unset, .unset, .unset] [(.int (1 : Int32)), (.int (4 : Int32))]))
    refine OwnR.of (fun _ hr => XS.icmpYes X28.here hx rfl (pc0 := 62) (pc' := 69) rfl (hb hby at_62) rfl (feq (by decide : ¬ ((4 : Int32) = (1 : Int32)))).2 (by decide) (by decide) hr) ?_
    show OwnR _ _ _ _ _ _ _ (T28.setTop (mkF m 69 #[.val (.int p1), .val (.int p2), .val (.int p3), .val (.int p4), .val (.int p5), .val (.ref b6), .val (.int (4 : Int32)), .unset, .unset, .unset, .unset, .unset] []))
    refine OwnR.of (fun _ hr => XS.iload X28.here hx rfl (hb hby at_69) rfl hr) ?_
    show OwnR _ _ _ _ _ _ _ (T28.setTop (mkF m 71 #[.val (.int p1), .val (.int p2), .val (.int p3), .val (.int p4), .val (.int p5), .val (.ref b6), .val (.int (4 : Int32)), .unset, .unset, .unset, .unset, .unset] [(.int (4 : Int32))]))
    refine OwnR.of (fun _ hr => XS.iconst X28.here hx rfl (hb hby at_71) hr) ?_
    show OwnR _ _ _ _ _ _ _ (T28.setTop (mkF m 72 #[.val (.int p1), .val (.int p2), .val (.int p3), .val (.int p4), .val (.int p5), .val (.ref b6), .val (.int (4 : Int32)), .unset, .unset, .unset, .unset, .unset] [(.int (2 : Int32)), (.int (4 : Int32))]))
    refine OwnR.of (fun _ hr => XS.icmpYes X28.here hx rfl (pc0 := 72) (pc' := 79) rfl (hb hby at_72) rfl (feq (by decide : ¬ ((4 : Int32) = (2 : Int32)))).2 (by decide) (by decide) hr) ?_
    show OwnR _ _ _ _ _ _ _ (T28.setTop (mkF m 79 #[.val (.int p1), .val (.int p2), .val (.int p3), .val (.int p4), .val (.int p5), .val (.ref b6), .val (.int (4 : Int32)), .unset, .unset, .unset, .unset, .unset] []))
    refine OwnR.of (fun _ hr => XS.iload X28.here hx rfl (hb hby at_79) rfl hr) ?_
    show OwnR _ _ _ _ _ _ _ (T28.setTop (mkF m 81 #[.val (.int p1), .val (.int p2), .val (.int p3), .val (.int p4), .val (.int p5), .val (.ref b6), .val (.int (4 : Int32)), .unset, .unset, .unset, .unset, .unset] [(.int (4 : Int32))]))
    refine OwnR.of (fun _ hr => XS.iconst X28.here hx rfl (hb hby at_81) hr) ?_
    show OwnR _ _ _ _ _ _ _ (T28.setTop (mkF m 82 #[.val (.int p1), .val (.int p2), .val (.int p3), .val (.int p4), .val (.int p5), .val (.ref b6), .val (.int (4 : Int32)), .unset, .unset, .unset, .unset, .unset] [(.int (3 : Int32)), (.int (4 : Int32))]))
    refine OwnR.of (fun _ hr => XS.icmpYes X28.here hx rfl (pc0 := 82) (pc' := 89) rfl (hb hby at_82) rfl (feq (by decide : ¬ ((4 : Int32) = (3 : Int32)))).2 (by decide) (by decide) hr) ?_
    show OwnR _ _ _ _ _ _ _ (T28.setTop (mkF m 89 #[.val (.int p1), .val (.int p2), .val (.int p3), .val (.int p4), .val (.int p5), .val (.ref b6), .val (.int (4 : Int32)), .unset, .unset, .unset, .unset, .unset] []))
    refine OwnR.of (fun _ hr => XS.iload X28.here hx rfl (hb hby at_89) rfl hr) ?_
    show OwnR _ _ _ _ _ _ _ (T28.setTop (mkF m 91 #[.val (.int p1), .val (.int p2), .val (.int p3), .val (.int p4), .val (.int p5), .val (.ref b6), .val (.int (4 : Int32)), .unset, .unset, .unset, .unset, .unset] [(.int p5)]))
    refine OwnR.of (fun _ hr => XS.istore X28.here hx rfl (hb hby at_91) rfl (l' := #[.val (.int p1), .val (.int p2), .val (.int p3), .val (.int p4), .val (.int p5), .val (.ref b6), .val (.int (4 : Int32)), .val (.int p5), .unset, .unset, .unset, .unset]) rfl hr) ?_
    show OwnR _ _ _ _ _ _ _ (T28.setTop (mkF m 93 #[.val (.int p1), .val (.int p2), .val (.int p3), .val (.int p4), .val (.int p5), .val (.ref b6), .val (.int (4 : Int32)), .val (.int p5), .unset, .unset, .unset, .unset] []))
    refine OwnR.of (fun _ hr => XS.aload X28.here hx rfl (hb hby at_93) rfl rfl hr) ?_
    show OwnR _ _ _ _ _ _ _ (T28.setTop (mkF m 95 #[.val (.int p1), .val (.int p2), .val (.int p3), .val (.int p4), .val (.int p5), .val (.ref b6), .val (.int (4 : Int32)), .val (.int p5), .unset, .unset, .unset, .unset] [(.ref b6)]))
    obtain ⟨cq29, kq29, q29a, q29b, q29c⟩ := isOf hZ rfl P28_1
    obtain ⟨_, _, ⟨T29, L29, kc29, ns29⟩, -, X29, ⟨Lc29, hQ29, l29, y29, z29⟩, st29⟩ := X28.virtualBack hx (y := (⟨"com/example/fast_taxonomy/fasttaxonomy/calculus/IntList", "removeLast", "()I"⟩ : MethodName)) (z := (⟨"com/example/fast_taxonomy/fasttaxonomy/calculus/IntList", "removeLast", "()I"⟩ : MethodName)) hown (mvT hZ (hw _ (List.mem_of_getElem? (i := 36) rfl))) (mvT hZ (hw _ (List.mem_of_getElem? (i := 37) rfl))) (notFace_of_selects (args := #[]) (mvT hZ (hw _ (List.mem_of_getElem? (i := 39) rfl)))) (mvT hZ (hw _ (List.mem_of_getElem? (i := 39) rfl))) (mvT hZ (hw _ (List.mem_of_getElem? (i := 38) rfl))) (by decide) (backOf (W := 0) (rm7_4 l Z a0 hw [] b6 b_25 kb_25 p2 p3 p4 p5 (T28.heap) n0 (Nat.le_trans Z0 K28.1) P28_1 P28_2 P28_3 P28_4 gn_b6 (Nat.ne_of_lt (Nat.lt_of_lt_of_le (A6.keep P7_0).lt P25_5))) hZ (hw _ (List.mem_of_getElem? (i := 40) rfl)) (hw _ (List.mem_of_getElem? (i := 2) rfl)) (by decide) (by decide)) q29a q29c (g := (mkF m 95 #[.val (.int p1), .val (.int p2), .val (.int p3), .val (.int p4), .val (.int p5), .val (.ref b6), .val (.int (4 : Int32)), .val (.int p5), .unset, .unset, .unset, .unset] [(.ref b6)])) rfl (by rw [hml]; rfl) (Steps.refl _) (argsL := []) (rest := []) (lenOf pd___I rfl) rfl (by show 2 * 0 + _ ≤ _; exact Nat.le_of_eq rfl) (hb hby at_95) (fun _ _ => ⟨rfl, rfl, (by decide : 2 + 0 ≤ _), (by decide : 10 + 0 ≤ _)⟩)
    dsimp only [Pt.U, Pt.locs, Pt.cells, Pt.slots] at X29 l29 y29 z29 st29 hQ29
    subst l29 y29 z29
    obtain ⟨rfl, N29q, P29_0, P29_1, P29_2, P29_3⟩ := hQ29
    have K29 : Keep h0 T29.heap [] := Keep.trans K28 P29_0 (allS (Or.inr sz_b6) all0)
    have N29 := Fr.app N28 N29q
    refine OwnR.of (fun _ hr => st29.trans hr) ?_
    show OwnR _ _ _ _ _ _ _ (T29.setTop (mkF m 98 #[.val (.int p1), .val (.int p2), .val (.int p3), .val (.int p4), .val (.int p5), .val (.ref b6), .val (.int (4 : Int32)), .val (.int p5), .unset, .unset, .unset, .unset] [(.int p5)]))
    refine OwnR.of (fun _ hr => XS.istore X29.here hx rfl (hb hby at_98) rfl (l' := #[.val (.int p1), .val (.int p2), .val (.int p3), .val (.int p4), .val (.int p5), .val (.ref b6), .val (.int (4 : Int32)), .val (.int p5), .val (.int p5), .unset, .unset, .unset]) rfl hr) ?_
    show OwnR _ _ _ _ _ _ _ (T29.setTop (mkF m 100 #[.val (.int p1), .val (.int p2), .val (.int p3), .val (.int p4), .val (.int p5), .val (.ref b6), .val (.int (4 : Int32)), .val (.int p5), .val (.int p5), .unset, .unset, .unset] []))
    refine OwnR.of (fun _ hr => XS.iload X29.here hx rfl (hb hby at_100) rfl hr) ?_
    show OwnR _ _ _ _ _ _ _ (T29.setTop (mkF m 102 #[.val (.int p1), .val (.int p2), .val (.int p3), .val (.int p4), .val (.int p5), .val (.ref b6), .val (.int (4 : Int32)), .val (.int p5), .val (.int p5), .unset, .unset, .unset] [(.int p5)]))
    refine OwnR.of (fun _ hr => XS.iload X29.here hx rfl (hb hby at_102) rfl hr) ?_
    show OwnR _ _ _ _ _ _ _ (T29.setTop (mkF m 104 #[.val (.int p1), .val (.int p2), .val (.int p3), .val (.int p4), .val (.int p5), .val (.ref b6), .val (.int (4 : Int32)), .val (.int p5), .val (.int p5), .unset, .unset, .unset] [(.int p5), (.int p5)]))
    refine OwnR.of (fun _ hr => XS.icmpNo X29.here hx rfl (hb hby at_104) rfl (teq rfl).2 hr) ?_
    show OwnR _ _ _ _ _ _ _ (T29.setTop (mkF m 107 #[.val (.int p1), .val (.int p2), .val (.int p3), .val (.int p4), .val (.int p5), .val (.ref b6), .val (.int (4 : Int32)), .val (.int p5), .val (.int p5), .unset, .unset, .unset] []))
    refine OwnR.of (fun _ hr => XS.aload X29.here hx rfl (hb hby at_107) rfl rfl hr) ?_
    show OwnR _ _ _ _ _ _ _ (T29.setTop (mkF m 109 #[.val (.int p1), .val (.int p2), .val (.int p3), .val (.int p4), .val (.int p5), .val (.ref b6), .val (.int (4 : Int32)), .val (.int p5), .val (.int p5), .unset, .unset, .unset] [(.ref b6)]))
    obtain ⟨cq30, kq30, q30a, q30b, q30c⟩ := isOf hZ rfl P29_1
    obtain ⟨_, _, ⟨T30, L30, kc30, ns30⟩, -, X30, ⟨Lc30, hQ30, l30, y30, z30⟩, st30⟩ := X29.virtualBack hx (y := (⟨"com/example/fast_taxonomy/fasttaxonomy/calculus/IntList", "size", "()I"⟩ : MethodName)) (z := (⟨"com/example/fast_taxonomy/fasttaxonomy/calculus/IntList", "size", "()I"⟩ : MethodName)) hown (mvT hZ (hw _ (List.mem_of_getElem? (i := 41) rfl))) (mvT hZ (hw _ (List.mem_of_getElem? (i := 42) rfl))) (notFace_of_selects (args := #[]) (mvT hZ (hw _ (List.mem_of_getElem? (i := 44) rfl)))) (mvT hZ (hw _ (List.mem_of_getElem? (i := 44) rfl))) (mvT hZ (hw _ (List.mem_of_getElem? (i := 43) rfl))) (by decide) (backOf (W := 0) (rm8 l Z a0 hw [] b6 (3 : Int32) (T29.heap) n0 (Nat.le_trans Z0 K29.1) P29_1 P29_3) hZ (hw _ (List.mem_of_getElem? (i := 45) rfl)) (hw _ (List.mem_of_getElem? (i := 2) rfl)) (by decide) (by decide)) q30a q30c (g := (mkF m 109 #[.val (.int p1), .val (.int p2), .val (.int p3), .val (.int p4), .val (.int p5), .val (.ref b6), .val (.int (4 : Int32)), .val (.int p5), .val (.int p5), .unset, .unset, .unset] [(.ref b6)])) rfl (by rw [hml]; rfl) (Steps.refl _) (argsL := []) (rest := []) (lenOf pd___I rfl) rfl (by show 2 * 0 + _ ≤ _; exact Nat.le_of_eq rfl) (hb hby at_109) (fun _ _ => ⟨rfl, rfl, (by decide : 2 + 0 ≤ _), (by decide : 10 + 0 ≤ _)⟩)
    dsimp only [Pt.U, Pt.locs, Pt.cells, Pt.slots] at X30 l30 y30 z30 st30 hQ30
    subst l30 y30 z30
    obtain ⟨rfl, N30q, e30⟩ := hQ30
    have N30 := Fr.app N29 N30q
    refine OwnR.of (fun _ hr => st30.trans hr) ?_
    show OwnR _ _ _ _ _ _ _ (T30.setTop (mkF m 112 #[.val (.int p1), .val (.int p2), .val (.int p3), .val (.int p4), .val (.int p5), .val (.ref b6), .val (.int (4 : Int32)), .val (.int p5), .val (.int p5), .unset, .unset, .unset] [(.int (3 : Int32))]))
    refine OwnR.of (fun _ hr => XS.iload X30.here hx rfl (hb hby at_112) rfl hr) ?_
    show OwnR _ _ _ _ _ _ _ (T30.setTop (mkF m 114 #[.val (.int p1), .val (.int p2), .val (.int p3), .val (.int p4), .val (.int p5), .val (.ref b6), .val (.int (4 : Int32)), .val (.int p5), .val (.int p5), .unset, .unset, .unset] [(.int (4 : Int32)), (.int (3 : Int32))]))
    refine OwnR.of (fun _ hr => XS.iconst X30.here hx rfl (hb hby at_114) hr) ?_
    show OwnR _ _ _ _ _ _ _ (T30.setTop (mkF m 115 #[.val (.int p1), .val (.int p2), .val (.int p3), .val (.int p4), .val (.int p5), .val (.ref b6), .val (.int (4 : Int32)), .val (.int p5), .val (.int p5), .unset, .unset, .unset] [(.int (1 : Int32)), (.int (4 : Int32)), (.int (3 : Int32))]))
    refine OwnR.of (fun _ hr => XS.isub X30.here hx rfl (hb hby at_115) rfl hr) ?_
    show OwnR _ _ _ _ _ _ _ (T30.setTop (mkF m 116 #[.val (.int p1), .val (.int p2), .val (.int p3), .val (.int p4), .val (.int p5), .val (.ref b6), .val (.int (4 : Int32)), .val (.int p5), .val (.int p5), .unset, .unset, .unset] [(.int ((4 : Int32) - (1 : Int32))), (.int (3 : Int32))]))
    rw [(by decide : ((4 : Int32) - (1 : Int32)) = (3 : Int32))]
    show OwnR _ _ _ _ _ _ _ (T30.setTop (mkF m 116 #[.val (.int p1), .val (.int p2), .val (.int p3), .val (.int p4), .val (.int p5), .val (.ref b6), .val (.int (4 : Int32)), .val (.int p5), .val (.int p5), .unset, .unset, .unset] [(.int (3 : Int32)), (.int (3 : Int32))]))
    refine OwnR.of (fun _ hr => XS.icmpNo X30.here hx rfl (hb hby at_116) rfl (teq (by decide : (3 : Int32) = (3 : Int32))).2 hr) ?_
    show OwnR _ _ _ _ _ _ _ (T30.setTop (mkF m 119 #[.val (.int p1), .val (.int p2), .val (.int p3), .val (.int p4), .val (.int p5), .val (.ref b6), .val (.int (4 : Int32)), .val (.int p5), .val (.int p5), .unset, .unset, .unset] []))
    refine OwnR.of (fun _ hr => XS.iconst X30.here hx rfl (hb hby at_119) hr) ?_
    show OwnR _ _ _ _ _ _ _ (T30.setTop (mkF m 120 #[.val (.int p1), .val (.int p2), .val (.int p3), .val (.int p4), .val (.int p5), .val (.ref b6), .val (.int (4 : Int32)), .val (.int p5), .val (.int p5), .unset, .unset, .unset] [(.int (1 : Int32))]))
    refine OwnR.of (fun _ hr => XS.goto X30.here hx rfl (pc0 := 120) (pc' := 124) rfl (hb hby at_120) (by decide) (by decide) hr) ?_
    show OwnR _ _ _ _ _ _ _ (T30.setTop (mkF m 124 #[.val (.int p1), .val (.int p2), .val (.int p3), .val (.int p4), .val (.int p5), .val (.ref b6), .val (.int (4 : Int32)), .val (.int p5), .val (.int p5), .unset, .unset, .unset] [(.int (1 : Int32))]))
    refine OwnR.of (fun _ hr => XS.istore X30.here hx rfl (hb hby at_124) rfl (l' := #[.val (.int p1), .val (.int p2), .val (.int p3), .val (.int p4), .val (.int p5), .val (.ref b6), .val (.int (4 : Int32)), .val (.int p5), .val (.int p5), .val (.int (1 : Int32)), .unset, .unset]) rfl hr) ?_
    show OwnR _ _ _ _ _ _ _ (T30.setTop (mkF m 126 #[.val (.int p1), .val (.int p2), .val (.int p3), .val (.int p4), .val (.int p5), .val (.ref b6), .val (.int (4 : Int32)), .val (.int p5), .val (.int p5), .val (.int (1 : Int32)), .unset, .unset] []))
    refine OwnR.of (fun _ hr => XS.iload X30.here hx rfl (hb hby at_126) rfl hr) ?_
    show OwnR _ _ _ _ _ _ _ (T30.setTop (mkF m 128 #[.val (.int p1), .val (.int p2), .val (.int p3), .val (.int p4), .val (.int p5), .val (.ref b6), .val (.int (4 : Int32)), .val (.int p5), .val (.int p5), .val (.int (1 : Int32)), .unset, .unset] [(.int (4 : Int32))]))
    refine OwnR.of (fun _ hr => XS.iconst X30.here hx rfl (hb hby at_128) hr) ?_
    show OwnR _ _ _ _ _ _ _ (T30.setTop (mkF m 129 #[.val (.int p1), .val (.int p2), .val (.int p3), .val (.int p4), .val (.int p5), .val (.ref b6), .val (.int (4 : Int32)), .val (.int p5), .val (.int p5), .val (.int (1 : Int32)), .unset, .unset] [(.int (2 : Int32)), (.int (4 : Int32))]))
    refine OwnR.of (fun _ hr => XS.icmpNo X30.here hx rfl (hb hby at_129) rfl (flt (by decide : ¬ ((4 : Int32) < (2 : Int32)))).1 hr) ?_
    show OwnR _ _ _ _ _ _ _ (T30.setTop (mkF m 132 #[.val (.int p1), .val (.int p2), .val (.int p3), .val (.int p4), .val (.int p5), .val (.ref b6), .val (.int (4 : Int32)), .val (.int p5), .val (.int p5), .val (.int (1 : Int32)), .unset, .unset] []))
    refine OwnR.of (fun _ hr => XS.iload X30.here hx rfl (hb hby at_132) rfl hr) ?_
    show OwnR _ _ _ _ _ _ _ (T30.setTop (mkF m 134 #[.val (.int p1), .val (.int p2), .val (.int p3), .val (.int p4), .val (.int p5), .val (.ref b6), .val (.int (4 : Int32)), .val (.int p5), .val (.int p5), .val (.int (1 : Int32)), .unset, .unset] [(.int (4 : Int32))]))
    refine OwnR.of (fun _ hr => XS.iconst X30.here hx rfl (hb hby at_134) hr) ?_
    show OwnR _ _ _ _ _ _ _ (T30.setTop (mkF m 135 #[.val (.int p1), .val (.int p2), .val (.int p3), .val (.int p4), .val (.int p5), .val (.ref b6), .val (.int (4 : Int32)), .val (.int p5), .val (.int p5), .val (.int (1 : Int32)), .unset, .unset] [(.int (2 : Int32)), (.int (4 : Int32))]))
    refine OwnR.of (fun _ hr => XS.icmpYes X30.here hx rfl (pc0 := 135) (pc' := 142) rfl (hb hby at_135) rfl (feq (by decide : ¬ ((4 : Int32) = (2 : Int32)))).2 (by decide) (by decide) hr) ?_
    show OwnR _ _ _ _ _ _ _ (T30.setTop (mkF m 142 #[.val (.int p1), .val (.int p2), .val (.int p3), .val (.int p4), .val (.int p5), .val (.ref b6), .val (.int (4 : Int32)), .val (.int p5), .val (.int p5), .val (.int (1 : Int32)), .unset, .unset] []))
    refine OwnR.of (fun _ hr => XS.iload X30.here hx rfl (hb hby at_142) rfl hr) ?_
    show OwnR _ _ _ _ _ _ _ (T30.setTop (mkF m 144 #[.val (.int p1), .val (.int p2), .val (.int p3), .val (.int p4), .val (.int p5), .val (.ref b6), .val (.int (4 : Int32)), .val (.int p5), .val (.int p5), .val (.int (1 : Int32)), .unset, .unset] [(.int (4 : Int32))]))
    refine OwnR.of (fun _ hr => XS.iconst X30.here hx rfl (hb hby at_144) hr) ?_
    show OwnR _ _ _ _ _ _ _ (T30.setTop (mkF m 145 #[.val (.int p1), .val (.int p2), .val (.int p3), .val (.int p4), .val (.int p5), .val (.ref b6), .val (.int (4 : Int32)), .val (.int p5), .val (.int p5), .val (.int (1 : Int32)), .unset, .unset] [(.int (3 : Int32)), (.int (4 : Int32))]))
    refine OwnR.of (fun _ hr => XS.icmpYes X30.here hx rfl (pc0 := 145) (pc' := 152) rfl (hb hby at_145) rfl (feq (by decide : ¬ ((4 : Int32) = (3 : Int32)))).2 (by decide) (by decide) hr) ?_
    show OwnR _ _ _ _ _ _ _ (T30.setTop (mkF m 152 #[.val (.int p1), .val (.int p2), .val (.int p3), .val (.int p4), .val (.int p5), .val (.ref b6), .val (.int (4 : Int32)), .val (.int p5), .val (.int p5), .val (.int (1 : Int32)), .unset, .unset] []))
    refine OwnR.of (fun _ hr => XS.iloadN X30.here hx rfl (hb hby at_152) rfl hr) ?_
    show OwnR _ _ _ _ _ _ _ (T30.setTop (mkF m 153 #[.val (.int p1), .val (.int p2), .val (.int p3), .val (.int p4), .val (.int p5), .val (.ref b6), .val (.int (4 : Int32)), .val (.int p5), .val (.int p5), .val (.int (1 : Int32)), .unset, .unset] [(.int p4)]))
    refine OwnR.of (fun _ hr => XS.istore X30.here hx rfl (hb hby at_153) rfl (l' := #[.val (.int p1), .val (.int p2), .val (.int p3), .val (.int p4), .val (.int p5), .val (.ref b6), .val (.int (4 : Int32)), .val (.int p5), .val (.int p5), .val (.int (1 : Int32)), .val (.int p4), .unset]) rfl hr) ?_
    show OwnR _ _ _ _ _ _ _ (T30.setTop (mkF m 155 #[.val (.int p1), .val (.int p2), .val (.int p3), .val (.int p4), .val (.int p5), .val (.ref b6), .val (.int (4 : Int32)), .val (.int p5), .val (.int p5), .val (.int (1 : Int32)), .val (.int p4), .unset] []))
    refine OwnR.of (fun _ hr => XS.aload X30.here hx rfl (hb hby at_155) rfl rfl hr) ?_
    show OwnR _ _ _ _ _ _ _ (T30.setTop (mkF m 157 #[.val (.int p1), .val (.int p2), .val (.int p3), .val (.int p4), .val (.int p5), .val (.ref b6), .val (.int (4 : Int32)), .val (.int p5), .val (.int p5), .val (.int (1 : Int32)), .val (.int p4), .unset] [(.ref b6)]))
    obtain ⟨cq31, kq31, q31a, q31b, q31c⟩ := isOf hZ e30 P29_1
    obtain ⟨_, _, ⟨T31, L31, kc31, ns31⟩, -, X31, ⟨Lc31, hQ31, l31, y31, z31⟩, st31⟩ := X30.virtualBack hx (y := (⟨"com/example/fast_taxonomy/fasttaxonomy/calculus/IntList", "removeLast", "()I"⟩ : MethodName)) (z := (⟨"com/example/fast_taxonomy/fasttaxonomy/calculus/IntList", "removeLast", "()I"⟩ : MethodName)) hown (mvT hZ (hw _ (List.mem_of_getElem? (i := 36) rfl))) (mvT hZ (hw _ (List.mem_of_getElem? (i := 37) rfl))) (notFace_of_selects (args := #[]) (mvT hZ (hw _ (List.mem_of_getElem? (i := 39) rfl)))) (mvT hZ (hw _ (List.mem_of_getElem? (i := 39) rfl))) (mvT hZ (hw _ (List.mem_of_getElem? (i := 38) rfl))) (by decide) (backOf (W := 0) (rm7_3 l Z a0 hw [] b6 b_25 kb_25 p2 p3 p4 p5 (T29.heap) n0 (Nat.le_trans Z0 K29.1) P29_1 P29_2 P29_3 (P28_4.keep P29_0 (ninS (Ne.symm (Nat.ne_of_lt (Nat.lt_of_lt_of_le (A6.keep P7_0).lt P25_5))) nin0)) gn_b6 (Nat.ne_of_lt (Nat.lt_of_lt_of_le (A6.keep P7_0).lt P25_5))) hZ (hw _ (List.mem_of_getElem? (i := 40) rfl)) (hw _ (List.mem_of_getElem? (i := 2) rfl)) (by decide) (by decide)) q31a q31c (g := (mkF m 157 #[.val (.int p1), .val (.int p2), .val (.int p3), .val (.int p4), .val (.int p5), .val (.ref b6), .val (.int (4 : Int32)), .val (.int p5), .val (.int p5), .val (.int (1 : Int32)), .val (.int p4), .unset] [(.ref b6)])) rfl (by rw [hml]; rfl) (Steps.refl _) (argsL := []) (rest := []) (lenOf pd___I rfl) rfl (by show 2 * 0 + _ ≤ _; exact Nat.le_of_eq rfl) (hb hby at_157) (fun _ _ => ⟨rfl, e30, (by decide : 2 + 0 ≤ _), (by decide : 10 + 0 ≤ _)⟩)
    dsimp only [Pt.U, Pt.locs, Pt.cells, Pt.slots] at X31 l31 y31 z31 st31 hQ31
    subst l31 y31 z31
    obtain ⟨rfl, N31q, P31_0, P31_1, P31_2, P31_3⟩ := hQ31
    have K31 : Keep h0 T31.heap [] := Keep.trans K29 P31_0 (allS (Or.inr sz_b6) all0)
    have N31 := Fr.app N30 N31q
    refine OwnR.of (fun _ hr => st31.trans hr) ?_
    show OwnR _ _ _ _ _ _ _ (T31.setTop (mkF m 160 #[.val (.int p1), .val (.int p2), .val (.int p3), .val (.int p4), .val (.int p5), .val (.ref b6), .val (.int (4 : Int32)), .val (.int p5), .val (.int p5), .val (.int (1 : Int32)), .val (.int p4), .unset] [(.int p4)]))
    refine OwnR.of (fun _ hr => XS.istore X31.here hx rfl (hb hby at_160) rfl (l' := #[.val (.int p1), .val (.int p2), .val (.int p3), .val (.int p4), .val (.int p5), .val (.ref b6), .val (.int (4 : Int32)), .val (.int p5), .val (.int p5), .val (.int (1 : Int32)), .val (.int p4), .val (.int p4)]) rfl hr) ?_
    show OwnR _ _ _ _ _ _ _ (T31.setTop (mkF m 162 #[.val (.int p1), .val (.int p2), .val (.int p3), .val (.int p4), .val (.int p5), .val (.ref b6), .val (.int (4 : Int32)), .val (.int p5), .val (.int p5), .val (.int (1 : Int32)), .val (.int p4), .val (.int p4)] []))
    refine OwnR.of (fun _ hr => XS.iload X31.here hx rfl (hb hby at_162) rfl hr) ?_
    show OwnR _ _ _ _ _ _ _ (T31.setTop (mkF m 164 #[.val (.int p1), .val (.int p2), .val (.int p3), .val (.int p4), .val (.int p5), .val (.ref b6), .val (.int (4 : Int32)), .val (.int p5), .val (.int p5), .val (.int (1 : Int32)), .val (.int p4), .val (.int p4)] [(.int (1 : Int32))]))
    refine OwnR.of (fun _ hr => XS.ifNo X31.here hx rfl (hb hby at_164) rfl ((if0 _ _).trans (feq (by decide : ¬ ((1 : Int32) = (0 : Int32)))).1) hr) ?_
    show OwnR _ _ _ _ _ _ _ (T31.setTop (mkF m 167 #[.val (.int p1), .val (.int p2), .val (.int p3), .val (.int p4), .val (.int p5), .val (.ref b6), .val (.int (4 : Int32)), .val (.int p5), .val (.int p5), .val (.int (1 : Int32)), .val (.int p4), .val (.int p4)] []))
    refine OwnR.of (fun _ hr => XS.iload X31.here hx rfl (hb hby at_167) rfl hr) ?_
    show OwnR _ _ _ _ _ _ _ (T31.setTop (mkF m 169 #[.val (.int p1), .val (.int p2), .val (.int p3), .val (.int p4), .val (.int p5), .val (.ref b6), .val (.int (4 : Int32)), .val (.int p5), .val (.int p5), .val (.int (1 : Int32)), .val (.int p4), .val (.int p4)] [(.int p4)]))
    refine OwnR.of (fun _ hr => XS.iload X31.here hx rfl (hb hby at_169) rfl hr) ?_
    show OwnR _ _ _ _ _ _ _ (T31.setTop (mkF m 171 #[.val (.int p1), .val (.int p2), .val (.int p3), .val (.int p4), .val (.int p5), .val (.ref b6), .val (.int (4 : Int32)), .val (.int p5), .val (.int p5), .val (.int (1 : Int32)), .val (.int p4), .val (.int p4)] [(.int p4), (.int p4)]))
    refine OwnR.of (fun _ hr => XS.icmpNo X31.here hx rfl (hb hby at_171) rfl (teq rfl).2 hr) ?_
    show OwnR _ _ _ _ _ _ _ (T31.setTop (mkF m 174 #[.val (.int p1), .val (.int p2), .val (.int p3), .val (.int p4), .val (.int p5), .val (.ref b6), .val (.int (4 : Int32)), .val (.int p5), .val (.int p5), .val (.int (1 : Int32)), .val (.int p4), .val (.int p4)] []))
    refine OwnR.of (fun _ hr => XS.aload X31.here hx rfl (hb hby at_174) rfl rfl hr) ?_
    show OwnR _ _ _ _ _ _ _ (T31.setTop (mkF m 176 #[.val (.int p1), .val (.int p2), .val (.int p3), .val (.int p4), .val (.int p5), .val (.ref b6), .val (.int (4 : Int32)), .val (.int p5), .val (.int p5), .val (.int (1 : Int32)), .val (.int p4), .val (.int p4)] [(.ref b6)]))
    obtain ⟨cq32, kq32, q32a, q32b, q32c⟩ := isOf hZ rfl P31_1
    obtain ⟨_, _, ⟨T32, L32, kc32, ns32⟩, -, X32, ⟨Lc32, hQ32, l32, y32, z32⟩, st32⟩ := X31.virtualBack hx (y := (⟨"com/example/fast_taxonomy/fasttaxonomy/calculus/IntList", "size", "()I"⟩ : MethodName)) (z := (⟨"com/example/fast_taxonomy/fasttaxonomy/calculus/IntList", "size", "()I"⟩ : MethodName)) hown (mvT hZ (hw _ (List.mem_of_getElem? (i := 41) rfl))) (mvT hZ (hw _ (List.mem_of_getElem? (i := 42) rfl))) (notFace_of_selects (args := #[]) (mvT hZ (hw _ (List.mem_of_getElem? (i := 44) rfl)))) (mvT hZ (hw _ (List.mem_of_getElem? (i := 44) rfl))) (mvT hZ (hw _ (List.mem_of_getElem? (i := 43) rfl))) (by decide) (backOf (W := 0) (rm8 l Z a0 hw [] b6 (2 : Int32) (T31.heap) n0 (Nat.le_trans Z0 K31.1) P31_1 P31_3) hZ (hw _ (List.mem_of_getElem? (i := 45) rfl)) (hw _ (List.mem_of_getElem? (i := 2) rfl)) (by decide) (by decide)) q32a q32c (g := (mkF m 176 #[.val (.int p1), .val (.int p2), .val (.int p3), .val (.int p4), .val (.int p5), .val (.ref b6), .val (.int (4 : Int32)), .val (.int p5), .val (.int p5), .val (.int (1 : Int32)), .val (.int p4), .val (.int p4)] [(.ref b6)])) rfl (by rw [hml]; rfl) (Steps.refl _) (argsL := []) (rest := []) (lenOf pd___I rfl) rfl (by show 2 * 0 + _ ≤ _; exact Nat.le_of_eq rfl) (hb hby at_176) (fun _ _ => ⟨rfl, rfl, (by decide : 2 + 0 ≤ _), (by decide : 10 + 0 ≤ _)⟩)
    dsimp only [Pt.U, Pt.locs, Pt.cells, Pt.slots] at X32 l32 y32 z32 st32 hQ32
    subst l32 y32 z32
    obtain ⟨rfl, N32q, e32⟩ := hQ32
    have N32 := Fr.app N31 N32q
    refine OwnR.of (fun _ hr => st32.trans hr) ?_
    show OwnR _ _ _ _ _ _ _ (T32.setTop (mkF m 179 #[.val (.int p1), .val (.int p2), .val (.int p3), .val (.int p4), .val (.int p5), .val (.ref b6), .val (.int (4 : Int32)), .val (.int p5), .val (.int p5), .val (.int (1 : Int32)), .val (.int p4), .val (.int p4)] [(.int (2 : Int32))]))
    refine OwnR.of (fun _ hr => XS.iload X32.here hx rfl (hb hby at_179) rfl hr) ?_
    show OwnR _ _ _ _ _ _ _ (T32.setTop (mkF m 181 #[.val (.int p1), .val (.int p2), .val (.int p3), .val (.int p4), .val (.int p5), .val (.ref b6), .val (.int (4 : Int32)), .val (.int p5), .val (.int p5), .val (.int (1 : Int32)), .val (.int p4), .val (.int p4)] [(.int (4 : Int32)), (.int (2 : Int32))]))
    refine OwnR.of (fun _ hr => XS.iconst X32.here hx rfl (hb hby at_181) hr) ?_
    show OwnR _ _ _ _ _ _ _ (T32.setTop (mkF m 182 #[.val (.int p1), .val (.int p2), .val (.int p3), .val (.int p4), .val (.int p5), .val (.ref b6), .val (.int (4 : Int32)), .val (.int p5), .val (.int p5), .val (.int (1 : Int32)), .val (.int p4), .val (.int p4)] [(.int (2 : Int32)), (.int (4 : Int32)), (.int (2 : Int32))]))
    refine OwnR.of (fun _ hr => XS.isub X32.here hx rfl (hb hby at_182) rfl hr) ?_
    show OwnR _ _ _ _ _ _ _ (T32.setTop (mkF m 183 #[.val (.int p1), .val (.int p2), .val (.int p3), .val (.int p4), .val (.int p5), .val (.ref b6), .val (.int (4 : Int32)), .val (.int p5), .val (.int p5), .val (.int (1 : Int32)), .val (.int p4), .val (.int p4)] [(.int ((4 : Int32) - (2 : Int32))), (.int (2 : Int32))]))
    rw [(by decide : ((4 : Int32) - (2 : Int32)) = (2 : Int32))]
    show OwnR _ _ _ _ _ _ _ (T32.setTop (mkF m 183 #[.val (.int p1), .val (.int p2), .val (.int p3), .val (.int p4), .val (.int p5), .val (.ref b6), .val (.int (4 : Int32)), .val (.int p5), .val (.int p5), .val (.int (1 : Int32)), .val (.int p4), .val (.int p4)] [(.int (2 : Int32)), (.int (2 : Int32))]))
    refine OwnR.of (fun _ hr => XS.icmpNo X32.here hx rfl (hb hby at_183) rfl (teq (by decide : (2 : Int32) = (2 : Int32))).2 hr) ?_
    show OwnR _ _ _ _ _ _ _ (T32.setTop (mkF m 186 #[.val (.int p1), .val (.int p2), .val (.int p3), .val (.int p4), .val (.int p5), .val (.ref b6), .val (.int (4 : Int32)), .val (.int p5), .val (.int p5), .val (.int (1 : Int32)), .val (.int p4), .val (.int p4)] []))
    refine OwnR.of (fun _ hr => XS.iconst X32.here hx rfl (hb hby at_186) hr) ?_
    show OwnR _ _ _ _ _ _ _ (T32.setTop (mkF m 187 #[.val (.int p1), .val (.int p2), .val (.int p3), .val (.int p4), .val (.int p5), .val (.ref b6), .val (.int (4 : Int32)), .val (.int p5), .val (.int p5), .val (.int (1 : Int32)), .val (.int p4), .val (.int p4)] [(.int (1 : Int32))]))
    refine OwnR.of (fun _ hr => XS.goto X32.here hx rfl (pc0 := 187) (pc' := 191) rfl (hb hby at_187) (by decide) (by decide) hr) ?_
    show OwnR _ _ _ _ _ _ _ (T32.setTop (mkF m 191 #[.val (.int p1), .val (.int p2), .val (.int p3), .val (.int p4), .val (.int p5), .val (.ref b6), .val (.int (4 : Int32)), .val (.int p5), .val (.int p5), .val (.int (1 : Int32)), .val (.int p4), .val (.int p4)] [(.int (1 : Int32))]))
    refine OwnR.of (fun _ hr => XS.istore X32.here hx rfl (hb hby at_191) rfl (l' := #[.val (.int p1), .val (.int p2), .val (.int p3), .val (.int p4), .val (.int p5), .val (.ref b6), .val (.int (4 : Int32)), .val (.int p5), .val (.int p5), .val (.int (1 : Int32)), .val (.int p4), .val (.int p4)]) rfl hr) ?_
    show OwnR _ _ _ _ _ _ _ (T32.setTop (mkF m 193 #[.val (.int p1), .val (.int p2), .val (.int p3), .val (.int p4), .val (.int p5), .val (.ref b6), .val (.int (4 : Int32)), .val (.int p5), .val (.int p5), .val (.int (1 : Int32)), .val (.int p4), .val (.int p4)] []))
    refine OwnR.of (fun _ hr => XS.iload X32.here hx rfl (hb hby at_193) rfl hr) ?_
    show OwnR _ _ _ _ _ _ _ (T32.setTop (mkF m 195 #[.val (.int p1), .val (.int p2), .val (.int p3), .val (.int p4), .val (.int p5), .val (.ref b6), .val (.int (4 : Int32)), .val (.int p5), .val (.int p5), .val (.int (1 : Int32)), .val (.int p4), .val (.int p4)] [(.int (4 : Int32))]))
    refine OwnR.of (fun _ hr => XS.iconst X32.here hx rfl (hb hby at_195) hr) ?_
    show OwnR _ _ _ _ _ _ _ (T32.setTop (mkF m 196 #[.val (.int p1), .val (.int p2), .val (.int p3), .val (.int p4), .val (.int p5), .val (.ref b6), .val (.int (4 : Int32)), .val (.int p5), .val (.int p5), .val (.int (1 : Int32)), .val (.int p4), .val (.int p4)] [(.int (3 : Int32)), (.int (4 : Int32))]))
    refine OwnR.of (fun _ hr => XS.icmpNo X32.here hx rfl (hb hby at_196) rfl (flt (by decide : ¬ ((4 : Int32) < (3 : Int32)))).1 hr) ?_
    show OwnR _ _ _ _ _ _ _ (T32.setTop (mkF m 199 #[.val (.int p1), .val (.int p2), .val (.int p3), .val (.int p4), .val (.int p5), .val (.ref b6), .val (.int (4 : Int32)), .val (.int p5), .val (.int p5), .val (.int (1 : Int32)), .val (.int p4), .val (.int p4)] []))
    refine OwnR.of (fun _ hr => XS.iload X32.here hx rfl (hb hby at_199) rfl hr) ?_
    show OwnR _ _ _ _ _ _ _ (T32.setTop (mkF m 201 #[.val (.int p1), .val (.int p2), .val (.int p3), .val (.int p4), .val (.int p5), .val (.ref b6), .val (.int (4 : Int32)), .val (.int p5), .val (.int p5), .val (.int (1 : Int32)), .val (.int p4), .val (.int p4)] [(.int (1 : Int32))]))
    refine OwnR.of (fun _ hr => XS.ifNo X32.here hx rfl (hb hby at_201) rfl ((if0 _ _).trans (feq (by decide : ¬ ((1 : Int32) = (0 : Int32)))).1) hr) ?_
    show OwnR _ _ _ _ _ _ _ (T32.setTop (mkF m 204 #[.val (.int p1), .val (.int p2), .val (.int p3), .val (.int p4), .val (.int p5), .val (.ref b6), .val (.int (4 : Int32)), .val (.int p5), .val (.int p5), .val (.int (1 : Int32)), .val (.int p4), .val (.int p4)] []))
    refine OwnR.of (fun _ hr => XS.aload X32.here hx rfl (hb hby at_204) rfl rfl hr) ?_
    show OwnR _ _ _ _ _ _ _ (T32.setTop (mkF m 206 #[.val (.int p1), .val (.int p2), .val (.int p3), .val (.int p4), .val (.int p5), .val (.ref b6), .val (.int (4 : Int32)), .val (.int p5), .val (.int p5), .val (.int (1 : Int32)), .val (.int p4), .val (.int p4)] [(.ref b6)]))
    refine OwnR.of (fun _ hr => XS.iconst X32.here hx rfl (hb hby at_206) hr) ?_
    show OwnR _ _ _ _ _ _ _ (T32.setTop (mkF m 207 #[.val (.int p1), .val (.int p2), .val (.int p3), .val (.int p4), .val (.int p5), .val (.ref b6), .val (.int (4 : Int32)), .val (.int p5), .val (.int p5), .val (.int (1 : Int32)), .val (.int p4), .val (.int p4)] [(.int (0 : Int32)), (.ref b6)]))
    obtain ⟨cq33, kq33, q33a, q33b, q33c⟩ := isOf hZ e32 P31_1
    obtain ⟨_, _, ⟨T33, L33, kc33, ns33⟩, -, X33, ⟨Lc33, hQ33, l33, y33, z33⟩, st33⟩ := X32.virtualBack hx (y := (⟨"com/example/fast_taxonomy/fasttaxonomy/calculus/IntList", "get", "(I)I"⟩ : MethodName)) (z := (⟨"com/example/fast_taxonomy/fasttaxonomy/calculus/IntList", "get", "(I)I"⟩ : MethodName)) hown (mvT hZ (hw _ (List.mem_of_getElem? (i := 46) rfl))) (mvT hZ (hw _ (List.mem_of_getElem? (i := 47) rfl))) (notFace_of_selects (args := #[]) (mvT hZ (hw _ (List.mem_of_getElem? (i := 49) rfl)))) (mvT hZ (hw _ (List.mem_of_getElem? (i := 49) rfl))) (mvT hZ (hw _ (List.mem_of_getElem? (i := 48) rfl))) (by decide) (backOf (W := 0) (rm9 l Z a0 hw [] b6 b_25 kb_25 p2 p3 p4 p5 (T31.heap) n0 (Nat.le_trans Z0 K31.1) P31_1 P31_2 ((P28_4.keep P29_0 (ninS (Ne.symm (Nat.ne_of_lt (Nat.lt_of_lt_of_le (A6.keep P7_0).lt P25_5))) nin0)).keep P31_0 (ninS (Ne.symm (Nat.ne_of_lt (Nat.lt_of_lt_of_le (A6.keep P7_0).lt P25_5))) nin0))) hZ (hw _ (List.mem_of_getElem? (i := 50) rfl)) (hw _ (List.mem_of_getElem? (i := 2) rfl)) (by decide) (by decide)) q33a q33c (g := (mkF m 207 #[.val (.int p1), .val (.int p2), .val (.int p3), .val (.int p4), .val (.int p5), .val (.ref b6), .val (.int (4 : Int32)), .val (.int p5), .val (.int p5), .val (.int (1 : Int32)), .val (.int p4), .val (.int p4)] [(.int (0 : Int32)), (.ref b6)])) rfl (by rw [hml]; rfl) (Steps.refl _) (argsL := [(.int (0 : Int32))]) (rest := []) (lenOf pd__I_I rfl) rfl (by show 2 * 0 + _ ≤ _; exact Nat.le_of_eq rfl) (hb hby at_207) (fun _ _ => ⟨rfl, e32, (by decide : 2 + 0 ≤ _), (by decide : 10 + 0 ≤ _)⟩)
    dsimp only [Pt.U, Pt.locs, Pt.cells, Pt.slots] at X33 l33 y33 z33 st33 hQ33
    subst l33 y33 z33
    obtain ⟨rfl, N33q, e33⟩ := hQ33
    have N33 := Fr.app N32 N33q
    refine OwnR.of (fun _ hr => st33.trans hr) ?_
    show OwnR _ _ _ _ _ _ _ (T33.setTop (mkF m 210 #[.val (.int p1), .val (.int p2), .val (.int p3), .val (.int p4), .val (.int p5), .val (.ref b6), .val (.int (4 : Int32)), .val (.int p5), .val (.int p5), .val (.int (1 : Int32)), .val (.int p4), .val (.int p4)] [(.int p2)]))
    refine OwnR.of (fun _ hr => XS.iloadN X33.here hx rfl (hb hby at_210) rfl hr) ?_
    show OwnR _ _ _ _ _ _ _ (T33.setTop (mkF m 211 #[.val (.int p1), .val (.int p2), .val (.int p3), .val (.int p4), .val (.int p5), .val (.ref b6), .val (.int (4 : Int32)), .val (.int p5), .val (.int p5), .val (.int (1 : Int32)), .val (.int p4), .val (.int p4)] [(.int p2), (.int p2)]))
    refine OwnR.of (fun _ hr => XS.icmpNo X33.here hx rfl (hb hby at_211) rfl (teq rfl).2 hr) ?_
    show OwnR _ _ _ _ _ _ _ (T33.setTop (mkF m 214 #[.val (.int p1), .val (.int p2), .val (.int p3), .val (.int p4), .val (.int p5), .val (.ref b6), .val (.int (4 : Int32)), .val (.int p5), .val (.int p5), .val (.int (1 : Int32)), .val (.int p4), .val (.int p4)] []))
    refine OwnR.of (fun _ hr => XS.iconst X33.here hx rfl (hb hby at_214) hr) ?_
    show OwnR _ _ _ _ _ _ _ (T33.setTop (mkF m 215 #[.val (.int p1), .val (.int p2), .val (.int p3), .val (.int p4), .val (.int p5), .val (.ref b6), .val (.int (4 : Int32)), .val (.int p5), .val (.int p5), .val (.int (1 : Int32)), .val (.int p4), .val (.int p4)] [(.int (1 : Int32))]))
    refine OwnR.of (fun _ hr => XS.goto X33.here hx rfl (pc0 := 215) (pc' := 219) rfl (hb hby at_215) (by decide) (by decide) hr) ?_
    show OwnR _ _ _ _ _ _ _ (T33.setTop (mkF m 219 #[.val (.int p1), .val (.int p2), .val (.int p3), .val (.int p4), .val (.int p5), .val (.ref b6), .val (.int (4 : Int32)), .val (.int p5), .val (.int p5), .val (.int (1 : Int32)), .val (.int p4), .val (.int p4)] [(.int (1 : Int32))]))
    refine OwnR.of (fun _ hr => XS.istore X33.here hx rfl (hb hby at_219) rfl (l' := #[.val (.int p1), .val (.int p2), .val (.int p3), .val (.int p4), .val (.int p5), .val (.ref b6), .val (.int (4 : Int32)), .val (.int p5), .val (.int p5), .val (.int (1 : Int32)), .val (.int p4), .val (.int p4)]) rfl hr) ?_
    show OwnR _ _ _ _ _ _ _ (T33.setTop (mkF m 221 #[.val (.int p1), .val (.int p2), .val (.int p3), .val (.int p4), .val (.int p5), .val (.ref b6), .val (.int (4 : Int32)), .val (.int p5), .val (.int p5), .val (.int (1 : Int32)), .val (.int p4), .val (.int p4)] []))
    refine OwnR.of (fun _ hr => XS.iload X33.here hx rfl (hb hby at_221) rfl hr) ?_
    show OwnR _ _ _ _ _ _ _ (T33.setTop (mkF m 223 #[.val (.int p1), .val (.int p2), .val (.int p3), .val (.int p4), .val (.int p5), .val (.ref b6), .val (.int (4 : Int32)), .val (.int p5), .val (.int p5), .val (.int (1 : Int32)), .val (.int p4), .val (.int p4)] [(.int (1 : Int32))]))
    refine own_leafN X33 hx hlk (t := .boolean) Bd.returns (by simp) (hb hby at_223) (z' := (1 : Int32)) rfl (by decide) (by decide) ?_
    show Q0 Z  h0 n0 _ T33.heap _
    rw [show T33.heap = T31.heap from e33]
    refine ⟨?_, N33⟩
    show (some (.int (1 : Int32)) : Option Value) = some (.int (1 : Int32))
    rfl
set_option maxRecDepth 65536 in
set_option maxHeartbeats 40000000 in
theorem comes_1 {Post : Tables → Env → Array Value → State → Outcome → State → Prop} (hpost : ∀ tb e args s v u, (limb_1_1.after args s (.returned v) u = true ∧ limb_1_2.after args s (.returned v) u = true ∧ True) → FrameEnd s (.returned v) u (Jvm.fieldLocs frame_1_writes args s ++ Jvm.arrayLocs frame_1_arrays args s ++ Jvm.staticLocs frame_1_statics s) 16 128 → Post tb e args s (.returned v) u) :
    ArmFor flags0 classFile x code maxLocals ret World_1 tables_1 room_1 Calls_1 rest_1 Pre_1 Post := by
  intro l hfl _ _ p e ha hc hk s m args below hf hA hF happ hP
  obtain ⟨hcalls, hrest, hpre⟩ := hP
  obtain ⟨-, -, -, hnamed, -, -, -, hat⟩ := (Spec.applies_iff hf).mp happ
  obtain ⟨hg, hn⟩ := and_e (Cond.before_iff.mp (show (Jvm.Cond.and given_1 narrow_1).before args s = true from hpre))
  obtain ⟨ga1, gb1⟩ := and_e hg
  obtain ⟨ga2, gb2⟩ := and_e gb1
  obtain ⟨ga3, gb3⟩ := and_e gb2
  obtain ⟨ga4, gb4⟩ := and_e gb3
  obtain ⟨ga5, gb5⟩ := and_e gb4
  obtain ⟨w0, w1, w2, w3, w4, rfl⟩ : ∃ w0 w1 w2 w3 w4 : Value, args = #[w0, w1, w2, w3, w4] := by
    have hs : args.size = 5 := by simpa [Cond.value, given_1] using ga1
    obtain ⟨L⟩ := args
    match L, hs with
    | [w0, w1, w2, w3, w4], _ => exact ⟨w0, w1, w2, w3, w4, rfl⟩
  have hw := fun d (hd : d ∈ tables_1) => atoms_spec (ws := Jvm.Cond.code x code maxLocals ret :: tables_1) hat d (List.mem_cons_of_mem _ hd)
  have hfit : Fit s := fun {y c} hc i hi => by
    obtain ⟨ha, rfl⟩ := Array.getElem?_eq_some_iff.mp hc
    have q := List.all_eq_true.mp ((Array.all_eq_true_iff_forall_mem.mp hF) _ (Array.getElem_mem ha)) i (List.mem_range.mpr hi)
    simpa [Array.getElem?_eq_getElem hi] using q
  obtain ⟨i0, ei0⟩ := is_v ga2
  obtain rfl : w0 = (.int i0) := Option.some.inj ei0
  obtain ⟨i1, ei1⟩ := is_v ga3
  obtain rfl : w1 = (.int i1) := Option.some.inj ei1
  obtain ⟨i2, ei2⟩ := is_v ga4
  obtain rfl : w2 = (.int i2) := Option.some.inj ei2
  obtain ⟨i3, ei3⟩ := is_v ga5
  obtain rfl : w3 = (.int i3) := Option.some.inj ei3
  obtain ⟨i4, ei4⟩ := is_v gb5
  obtain rfl : w4 = (.int i4) := Option.some.inj ei4
  obtain ⟨na1, nb1⟩ := and_e hn
  obtain ⟨na2, nb2⟩ := and_e nb1
  obtain ⟨s_EMPTY, ev_EMPTY⟩ := exa_v na2
  have S_EMPTY := Sta.start ev_EMPTY (Or.inr ⟨hw _ (List.mem_of_getElem? (i := 2) rfl), hw _ (List.mem_of_getElem? (i := 10) rfl)⟩)
  have E_EMPTY := Exa.start ev_EMPTY na2
  obtain ⟨ce, Ae⟩ := Arr.start ev_EMPTY na1
  have Ve := own_empty Ae (own_len0 ev_EMPTY Ae nb2)
  obtain ⟨n, o, h1, h2, h3, _, L, rfl, ⟨rfl, N⟩, hq⟩ := rm0 l s _ hw tables_1 i0 i1 i2 i3 i4 s_EMPTY ce.cls s.heap s.heap.size (Nat.le_refl _) S_EMPTY Ve p e ha hc hk s m _ below hf ((Spec.applies_iff_loose hf).mp happ).1 ⟨rfl, State.Warmed39.refl s, rfl⟩ trivial
  refine ⟨n, _, h1, h2, h3, hpost _ _ _ _ _ _ ⟨Cond.after_iff.mpr rfl, Cond.after_iff.mpr (eq_i res_at (Term.int_eval (1)) rfl), trivial⟩ ⟨hq.1, hq.2.1, (hq.2.2.sift fun y hy => Or.inr (N y hy)).mono (by decide) (by decide)⟩⟩
theorem main_1_1 : Claimed_1_1 := comes_1 fun _ _ _ _ _ _ h hF => ⟨h.1, hF⟩
theorem main_1_2 : Claimed_1_2 := comes_1 fun _ _ _ _ _ _ h hF => ⟨h.2.1, hF⟩
end Jvm.Pilot.@@N@@
namespace Jvm.Pilot.@@N@@
open Jvm Jvm.ClassFile Sem Op Lib Jvm.Free Jvm.Stand Jvm.Pilot.@@N@@.Jvm.D
/-! MADE BY PROGRAM (witnessworld.py) out of the Statement's table words and the real class files: 12 classes; the members and pool entries that the words name. The judged class is class 1, her method 1. -/
namespace start1
open Jvm.ClassFile
def u (s : String) : CpInfo := .utf8 (stringToUtf16 s)
/-- a pool by its gaps: so many unusable entries, then the entry; so many at the end -/
def gap : Nat → List CpInfo → List CpInfo
  | 0, r => r
  | n + 1, r => .unusable :: gap n r
def poolList (es : List (Nat × CpInfo)) (last : Nat) : List CpInfo := es.foldr (fun e r => gap e.1 (e.2 :: r)) (gap last [])
def pool (es : List (Nat × CpInfo)) (last : Nat) : Array CpInfo := ⟨poolList es last⟩
def fileOf (pool : Array CpInfo) (this : Nat) (attrs : Array Attribute := #[]) (ms : Array MethodInfo := #[]) (fl : Nat := 33) (sup : Nat := 0) (ifs : Array Nat := #[]) (fds : Array FieldInfo := #[]) : ClassFile where
  minorVersion := 0
  majorVersion := 65
  constantPool := pool
  accessFlags := fl
  thisClass := this
  superClass := sup
  interfaces := ifs
  fields := fds
  methods := ms
  attributes := attrs
def plain (name : String) (sup : Option ClassId) : Class where
  name := name
  kind := .ordinary
  loader := none
  accessFlags := 33
  super := sup
  interfaces := #[]
  cf := none
  fields := #[]
  methods := #[]
  instanceTypes := #[]
  staticTypes := #[]
  resolved := #[]
  callSites := []
  init := .initialized
  statics := none
  mirror := none

def pool0 : Array CpInfo := pool [(5, u "<init>"), (0, u "()V"), (1, .class_ 10), (1, u "java/lang/Object")] 113

def k0c0 : Code := { maxStack := 0, maxLocals := 1, code := object_method_1_code, exceptionTable := #[], attributes := #[] }
def k0m0 : Method := { name := "<init>", desc := "()V", sig := { parameters := [], returnType := none }, accessFlags := 1, code := some k0c0 }
/-- java/lang/Object -/
def k0 : Class := { plain "java/lang/Object" none with
  accessFlags := 33
  interfaces := #[]
  cf := some (fileOf pool0 8 #[] #[{ accessFlags := 1, nameIndex := 5, descriptorIndex := 6, attributes := #[] }] 33 0 #[] #[])
  fields := #[]
  methods := #[k0m0]
  instanceTypes := #[]
  staticTypes := #[]
  resolved := Array.replicate 124 none
  statics := none }

def pool1 : Array CpInfo := pool [(2, .class_ 4), (0, .nameAndType 5 6), (0, u "java/lang/Object"), (0, u "<init>"), (0, u "()V"), (0, .class_ 8), (0, u "com/example/fast_taxonomy/fasttaxonomy/calculus/IntList"), (0, .methodref 7 3), (0, .methodref 7 11), (0, .nameAndType 12 13), (0, u "add"), (0, u "(I)V"), (0, .methodref 7 15), (0, .nameAndType 16 17), (0, u "removeLast"), (0, u "()I"), (0, .methodref 7 19), (0, .nameAndType 20 17), (0, u "size"), (0, .methodref 7 22), (0, .nameAndType 23 24), (0, u "get"), (0, u "(I)I"), (0, .class_ 26), (0, u "com/example/fast_taxonomy/fasttaxonomy/calculus/IntListRemoveLastPinLaw"), (2, u "law"), (0, u "(IIIII)Z")] 3

def k1m0 : Method := { name := "<init>", desc := "()V", sig := { parameters := [], returnType := none }, accessFlags := 1, code := none }
def k1c1 : Code := { maxStack := 3, maxLocals := 12, code := code, exceptionTable := #[], attributes := #[] }
def k1m1 : Method := { name := "law", desc := "(IIIII)Z", sig := { parameters := [.int, .int, .int, .int, .int], returnType := some .boolean }, accessFlags := 9, code := some k1c1 }
/-- com/example/fast_taxonomy/fasttaxonomy/calculus/IntListRemoveLastPinLaw -/
def k1 : Class := { plain "com/example/fast_taxonomy/fasttaxonomy/calculus/IntListRemoveLastPinLaw" (some 0) with
  accessFlags := 49
  interfaces := #[]
  cf := some (fileOf pool1 25 #[] #[{ accessFlags := 1, nameIndex := 5, descriptorIndex := 6, attributes := #[] }, { accessFlags := 9, nameIndex := 29, descriptorIndex := 30, attributes := #[] }] 49 2 #[] #[])
  fields := #[]
  methods := #[k1m0, k1m1]
  instanceTypes := #[]
  staticTypes := #[]
  resolved := Array.replicate 34 none
  statics := none }

def pool2 : Array CpInfo := pool [(1, .methodref 2 3), (0, .class_ 4), (0, .nameAndType 5 6), (0, u "java/lang/Object"), (0, u "<init>"), (0, u "()V"), (0, .fieldref 8 9), (0, .class_ 10), (0, .nameAndType 11 12), (0, u "com/example/fast_taxonomy/fasttaxonomy/calculus/IntList"), (0, u "EMPTY"), (0, u "[I"), (0, .fieldref 8 14), (0, .nameAndType 15 12), (0, u "values"), (4, u "(I)V"), (5, u "add"), (1, .fieldref 8 29), (0, .nameAndType 30 31), (0, u "size"), (0, u "I"), (0, .methodref 33 34), (0, .class_ 35), (0, .nameAndType 36 37), (0, u "java/lang/Math"), (0, u "max"), (0, u "(II)I"), (0, .methodref 39 40), (0, .class_ 41), (0, .nameAndType 42 43), (0, u "java/util/Arrays"), (0, u "copyOf"), (0, u "([II)[I"), (0, u "MIN_CAPACITY"), (9, u "get"), (0, u "(I)I"), (0, u "()I"), (0, u "removeLast")] 7

def k2c0 : Code := { maxStack := 2, maxLocals := 1, code := prog_4_method_1_code, exceptionTable := #[], attributes := #[] }
def k2m0 : Method := { name := "<init>", desc := "()V", sig := { parameters := [], returnType := none }, accessFlags := 0, code := some k2c0 }
def k2c1 : Code := { maxStack := 5, maxLocals := 2, code := prog_4_method_3_code, exceptionTable := #[], attributes := #[] }
def k2m1 : Method := { name := "add", desc := "(I)V", sig := { parameters := [.int], returnType := none }, accessFlags := 0, code := some k2c1 }
def k2c2 : Code := { maxStack := 2, maxLocals := 2, code := prog_4_method_4_code, exceptionTable := #[], attributes := #[] }
def k2m2 : Method := { name := "get", desc := "(I)I", sig := { parameters := [.int], returnType := some .int }, accessFlags := 0, code := some k2c2 }
def k2c3 : Code := { maxStack := 1, maxLocals := 1, code := prog_4_method_5_code, exceptionTable := #[], attributes := #[] }
def k2m3 : Method := { name := "size", desc := "()I", sig := { parameters := [], returnType := some .int }, accessFlags := 0, code := some k2c3 }
def k2c4 : Code := { maxStack := 3, maxLocals := 1, code := prog_4_method_6_code, exceptionTable := #[], attributes := #[] }
def k2m4 : Method := { name := "removeLast", desc := "()I", sig := { parameters := [], returnType := some .int }, accessFlags := 0, code := some k2c4 }
/-- com/example/fast_taxonomy/fasttaxonomy/calculus/IntList -/
def k2 : Class := { plain "com/example/fast_taxonomy/fasttaxonomy/calculus/IntList" (some 0) with
  accessFlags := 48
  interfaces := #[]
  cf := some (fileOf pool2 8 #[] #[{ accessFlags := 0, nameIndex := 5, descriptorIndex := 6, attributes := #[] }, { accessFlags := 0, nameIndex := 26, descriptorIndex := 20, attributes := #[] }, { accessFlags := 0, nameIndex := 54, descriptorIndex := 55, attributes := #[] }, { accessFlags := 0, nameIndex := 30, descriptorIndex := 56, attributes := #[] }, { accessFlags := 0, nameIndex := 57, descriptorIndex := 56, attributes := #[] }] 48 2 #[] #[{ accessFlags := 26, nameIndex := 11, descriptorIndex := 12, attributes := #[] }, { accessFlags := 26, nameIndex := 44, descriptorIndex := 31, attributes := #[] }, { accessFlags := 2, nameIndex := 15, descriptorIndex := 12, attributes := #[] }, { accessFlags := 2, nameIndex := 30, descriptorIndex := 31, attributes := #[] }])
  fields := #[{ name := "EMPTY", type := (.array .int), accessFlags := 26, slot := 0, constantValue := 0 }, { name := "MIN_CAPACITY", type := .int, accessFlags := 26, slot := 1, constantValue := 0 }, { name := "values", type := (.array .int), accessFlags := 2, slot := 0, constantValue := 0 }, { name := "size", type := .int, accessFlags := 2, slot := 1, constantValue := 0 }]
  methods := #[k2m0, k2m1, k2m2, k2m3, k2m4]
  instanceTypes := #[(.array .int), .int]
  staticTypes := #[(.array .int), .int]
  resolved := Array.replicate 65 none
  statics := some 0 }

def pool3 : Array CpInfo := pool [(1, .class_ 2), (0, u "java/lang/Math"), (1, .class_ 6), (1, u "java/lang/Object"), (0, u "<init>"), (0, u "()V"), (89, .class_ 100), (1, u "java/lang/Math$RandomNumberGeneratorHolder"), (71, u "negativeZeroFloatBits"), (0, u "J"), (2, u "negativeZeroDoubleBits"), (21, u "max"), (2, u "min"), (43, u "$assertionsDisabled"), (0, u "Z"), (88, u "(II)I"), (2, u "twoToTheDoubleScaleDown"), (0, u "D"), (4, u "twoToTheDoubleScaleUp"), (9, u "E"), (3, u "PI"), (2, u "TAU"), (2, u "DEGREES_TO_RADIANS"), (0, u "RADIANS_TO_DEGREES")] 94

def k3m0 : Method := { name := "<init>", desc := "()V", sig := { parameters := [], returnType := none }, accessFlags := 2, code := none }
def k3c1 : Code := { maxStack := 2, maxLocals := 2, code := jdk_29_method_65_code, exceptionTable := #[], attributes := #[] }
def k3m1 : Method := { name := "max", desc := "(II)I", sig := { parameters := [.int, .int], returnType := some .int }, accessFlags := 9, code := some k3c1 }
def k3c2 : Code := { maxStack := 2, maxLocals := 2, code := jdk_29_method_69_code, exceptionTable := #[], attributes := #[] }
def k3m2 : Method := { name := "min", desc := "(II)I", sig := { parameters := [.int, .int], returnType := some .int }, accessFlags := 9, code := some k3c2 }
/-- java/lang/Math -/
def k3 : Class := { plain "java/lang/Math" (some 0) with
  accessFlags := 49
  interfaces := #[]
  cf := some (fileOf pool3 1 #[.nestMembers #[98]] #[{ accessFlags := 2, nameIndex := 7, descriptorIndex := 8, attributes := #[] }, { accessFlags := 9, nameIndex := 198, descriptorIndex := 335, attributes := #[] }, { accessFlags := 9, nameIndex := 201, descriptorIndex := 335, attributes := #[] }] 49 4 #[] #[{ accessFlags := 25, nameIndex := 354, descriptorIndex := 339, attributes := #[] }, { accessFlags := 25, nameIndex := 358, descriptorIndex := 339, attributes := #[] }, { accessFlags := 25, nameIndex := 361, descriptorIndex := 339, attributes := #[] }, { accessFlags := 26, nameIndex := 364, descriptorIndex := 339, attributes := #[] }, { accessFlags := 26, nameIndex := 365, descriptorIndex := 339, attributes := #[] }, { accessFlags := 26, nameIndex := 172, descriptorIndex := 173, attributes := #[] }, { accessFlags := 26, nameIndex := 176, descriptorIndex := 173, attributes := #[] }, { accessFlags := 8, nameIndex := 344, descriptorIndex := 339, attributes := #[] }, { accessFlags := 8, nameIndex := 338, descriptorIndex := 339, attributes := #[] }, { accessFlags := 4120, nameIndex := 245, descriptorIndex := 246, attributes := #[] }])
  fields := #[{ name := "E", type := .double, accessFlags := 25, slot := 0, constantValue := 0 }, { name := "PI", type := .double, accessFlags := 25, slot := 1, constantValue := 0 }, { name := "TAU", type := .double, accessFlags := 25, slot := 2, constantValue := 0 }, { name := "DEGREES_TO_RADIANS", type := .double, accessFlags := 26, slot := 3, constantValue := 0 }, { name := "RADIANS_TO_DEGREES", type := .double, accessFlags := 26, slot := 4, constantValue := 0 }, { name := "negativeZeroFloatBits", type := .long, accessFlags := 26, slot := 5, constantValue := 0 }, { name := "negativeZeroDoubleBits", type := .long, accessFlags := 26, slot := 6, constantValue := 0 }, { name := "twoToTheDoubleScaleUp", type := .double, accessFlags := 8, slot := 7, constantValue := 0 }, { name := "twoToTheDoubleScaleDown", type := .double, accessFlags := 8, slot := 8, constantValue := 0 }, { name := "$assertionsDisabled", type := .boolean, accessFlags := 4120, slot := 9, constantValue := 0 }]
  methods := #[k3m0, k3m1, k3m2]
  instanceTypes := #[]
  staticTypes := #[.double, .double, .double, .double, .double, .long, .long, .double, .double, .boolean]
  resolved := Array.replicate 460 none
  statics := none }

def pool4 : Array CpInfo := pool [(2, .class_ 4), (1, u "java/lang/Object"), (0, u "<init>"), (0, u "()V"), (7, .class_ 16), (1, u "java/util/Arrays"), (57, .class_ 76), (1, u "java/util/Arrays$NaturalOrder"), (36, .class_ 115), (1, u "java/util/Arrays$LegacyMergeSort"), (1, u "Z"), (32, .methodref 151 152), (0, .class_ 153), (0, .nameAndType 154 155), (0, u "java/lang/System"), (0, u "arraycopy"), (0, u "(Ljava/lang/Object;ILjava/lang/Object;II)V"), (146, u "copyOf"), (1, .methodref 305 306), (0, .class_ 307), (0, .nameAndType 308 309), (0, u "java/lang/Math"), (0, u "min"), (0, u "(II)I"), (65, .class_ 376), (0, u "java/util/Arrays$ArrayList"), (68, u "$assertionsDisabled"), (269, u "MIN_ARRAY_SORT_GRAN"), (0, u "I"), (2, u "INSERTIONSORT_THRESHOLD"), (151, u "([II)[I"), (103, .class_ 976), (0, u "java/util/Arrays$ArrayItr")] 52

def k4m0 : Method := { name := "<init>", desc := "()V", sig := { parameters := [], returnType := none }, accessFlags := 2, code := none }
def k4c1 : Code := { maxStack := 6, maxLocals := 3, code := jdk_65_method_123_code, exceptionTable := #[], attributes := #[] }
def k4m1 : Method := { name := "copyOf", desc := "([II)[I", sig := { parameters := [(.array .int), .int], returnType := some (.array .int) }, accessFlags := 9, code := some k4c1 }
/-- java/util/Arrays -/
def k4 : Class := { plain "java/util/Arrays" (some 0) with
  accessFlags := 49
  interfaces := #[]
  cf := some (fileOf pool4 14 #[.nestMembers #[975, 375, 113, 74]] #[{ accessFlags := 2, nameIndex := 5, descriptorIndex := 6, attributes := #[] }, { accessFlags := 9, nameIndex := 302, descriptorIndex := 871, attributes := #[] }] 49 2 #[] #[{ accessFlags := 26, nameIndex := 715, descriptorIndex := 716, attributes := #[] }, { accessFlags := 26, nameIndex := 719, descriptorIndex := 716, attributes := #[] }, { accessFlags := 4120, nameIndex := 445, descriptorIndex := 117, attributes := #[] }])
  fields := #[{ name := "MIN_ARRAY_SORT_GRAN", type := .int, accessFlags := 26, slot := 0, constantValue := 0 }, { name := "INSERTIONSORT_THRESHOLD", type := .int, accessFlags := 26, slot := 1, constantValue := 0 }, { name := "$assertionsDisabled", type := .boolean, accessFlags := 4120, slot := 2, constantValue := 0 }]
  methods := #[k4m0, k4m1]
  instanceTypes := #[]
  staticTypes := #[.int, .int, .boolean]
  resolved := Array.replicate 1029 none
  statics := none }

def pool5 : Array CpInfo := pool [(2, .class_ 4), (1, u "java/lang/Object"), (0, u "<init>"), (0, u "()V"), (1, .class_ 10), (1, u "java/lang/System"), (0, u "allowSecurityManager"), (0, u "I"), (16, u "cons"), (0, u "Ljava/io/Console;"), (77, .class_ 110), (1, u "java/lang/System$CallersHolder"), (43, u "initialErrStream"), (0, u "Ljava/io/PrintStream;"), (19, u "security"), (0, u "Ljava/lang/SecurityManager;"), (31, .class_ 209), (0, u "java/lang/System$1"), (7, u "props"), (0, u "Ljava/util/Properties;"), (2, u "lineSeparator"), (0, u "Ljava/lang/String;"), (96, .class_ 321), (1, u "java/lang/System$LoggerFinder"), (5, .class_ 328), (0, u "java/lang/System$Logger"), (67, u "err"), (2, u "out"), (91, u "notSupportedJnuEncoding"), (15, u "in"), (17, u "initialIn"), (0, u "Ljava/io/InputStream;"), (35, u "bootLayer"), (0, u "Ljava/lang/ModuleLayer;"), (99, .class_ 664), (0, u "java/lang/System$2"), (9, u "NEVER"), (2, u "MAYBE"), (49, u "arraycopy"), (0, u "(Ljava/lang/Object;ILjava/lang/Object;II)V"), (72, .class_ 802), (0, u "java/lang/System$Logger$Level")] 31

def k5m0 : Method := { name := "<init>", desc := "()V", sig := { parameters := [], returnType := none }, accessFlags := 2, code := none }
def k5m1 : Method := { name := "arraycopy", desc := "(Ljava/lang/Object;ILjava/lang/Object;II)V", sig := { parameters := [(.object "java/lang/Object"), .int, (.object "java/lang/Object"), .int, .int], returnType := none }, accessFlags := 265, code := none }
/-- java/lang/System -/
def k5 : Class := { plain "java/lang/System" (some 0) with
  accessFlags := 49
  interfaces := #[]
  cf := some (fileOf pool5 8 #[.nestMembers #[319, 327, 801, 108, 663, 208]] #[{ accessFlags := 2, nameIndex := 5, descriptorIndex := 6, attributes := #[] }, { accessFlags := 265, nameIndex := 727, descriptorIndex := 728, attributes := #[] }] 49 2 #[] #[{ accessFlags := 25, nameIndex := 507, descriptorIndex := 526, attributes := #[] }, { accessFlags := 25, nameIndex := 399, descriptorIndex := 155, attributes := #[] }, { accessFlags := 25, nameIndex := 396, descriptorIndex := 155, attributes := #[] }, { accessFlags := 10, nameIndex := 525, descriptorIndex := 526, attributes := #[] }, { accessFlags := 26, nameIndex := 674, descriptorIndex := 12, attributes := #[] }, { accessFlags := 26, nameIndex := 677, descriptorIndex := 12, attributes := #[] }, { accessFlags := 10, nameIndex := 11, descriptorIndex := 12, attributes := #[] }, { accessFlags := 74, nameIndex := 175, descriptorIndex := 176, attributes := #[] }, { accessFlags := 10, nameIndex := 491, descriptorIndex := 222, attributes := #[] }, { accessFlags := 74, nameIndex := 29, descriptorIndex := 30, attributes := #[] }, { accessFlags := 74, nameIndex := 154, descriptorIndex := 155, attributes := #[] }, { accessFlags := 10, nameIndex := 217, descriptorIndex := 218, attributes := #[] }, { accessFlags := 10, nameIndex := 221, descriptorIndex := 222, attributes := #[] }, { accessFlags := 8, nameIndex := 562, descriptorIndex := 563, attributes := #[] }])
  fields := #[{ name := "in", type := (.object "java/io/InputStream"), accessFlags := 25, slot := 0, constantValue := 0 }, { name := "out", type := (.object "java/io/PrintStream"), accessFlags := 25, slot := 1, constantValue := 0 }, { name := "err", type := (.object "java/io/PrintStream"), accessFlags := 25, slot := 2, constantValue := 0 }, { name := "initialIn", type := (.object "java/io/InputStream"), accessFlags := 10, slot := 3, constantValue := 0 }, { name := "NEVER", type := .int, accessFlags := 26, slot := 4, constantValue := 0 }, { name := "MAYBE", type := .int, accessFlags := 26, slot := 5, constantValue := 0 }, { name := "allowSecurityManager", type := .int, accessFlags := 10, slot := 6, constantValue := 0 }, { name := "security", type := (.object "java/lang/SecurityManager"), accessFlags := 74, slot := 7, constantValue := 0 }, { name := "notSupportedJnuEncoding", type := (.object "java/lang/String"), accessFlags := 10, slot := 8, constantValue := 0 }, { name := "cons", type := (.object "java/io/Console"), accessFlags := 74, slot := 9, constantValue := 0 }, { name := "initialErrStream", type := (.object "java/io/PrintStream"), accessFlags := 74, slot := 10, constantValue := 0 }, { name := "props", type := (.object "java/util/Properties"), accessFlags := 10, slot := 11, constantValue := 0 }, { name := "lineSeparator", type := (.object "java/lang/String"), accessFlags := 10, slot := 12, constantValue := 0 }, { name := "bootLayer", type := (.object "java/lang/ModuleLayer"), accessFlags := 8, slot := 13, constantValue := 0 }]
  methods := #[k5m0, k5m1]
  instanceTypes := #[]
  staticTypes := #[(.object "java/io/InputStream"), (.object "java/io/PrintStream"), (.object "java/io/PrintStream"), (.object "java/io/InputStream"), .int, .int, .int, (.object "java/lang/SecurityManager"), (.object "java/lang/String"), (.object "java/io/Console"), (.object "java/io/PrintStream"), (.object "java/util/Properties"), (.object "java/lang/String"), (.object "java/lang/ModuleLayer")]
  resolved := Array.replicate 834 none
  statics := none }

def pool6 : Array CpInfo := pool [(1, u "java/lang/Cloneable"), (0, .class_ 1), (0, u "java/lang/Object"), (0, .class_ 3)] 3

/-- java/lang/Cloneable -/
def k6 : Class := { plain "java/lang/Cloneable" (some 0) with
  accessFlags := 1537
  interfaces := #[]
  cf := some (fileOf pool6 2 #[] #[] 1537 4 #[] #[])
  fields := #[]
  methods := #[]
  instanceTypes := #[]
  staticTypes := #[]
  resolved := Array.replicate 8 none
  statics := none }

def pool7 : Array CpInfo := pool [(1, u "java/io/Serializable"), (0, .class_ 1), (0, u "java/lang/Object"), (0, .class_ 3)] 3

/-- java/io/Serializable -/
def k7 : Class := { plain "java/io/Serializable" (some 0) with
  accessFlags := 1537
  interfaces := #[]
  cf := some (fileOf pool7 2 #[] #[] 1537 4 #[] #[])
  fields := #[]
  methods := #[]
  instanceTypes := #[]
  staticTypes := #[]
  resolved := Array.replicate 8 none
  statics := none }

/-- the primitive byte -/
def k8 : Class := { plain "byte" none with kind := .primitive 'B', accessFlags := 0x411 }
/-- [B -/
def k9 : Class := { plain "[B" (some 0) with kind := .array 8 .byte, interfaces := #[6, 7], accessFlags := 1041 }

/-- the primitive int -/
def k10 : Class := { plain "int" none with kind := .primitive 'I', accessFlags := 0x411 }
/-- [I -/
def k11 : Class := { plain "[I" (some 0) with kind := .array 10 .int, interfaces := #[6, 7], accessFlags := 1041 }

def heap : Heap := #[{ cls := 2, slots := #[.ref 1, .int 0], vm := .statics 2 },
  { cls := 11, slots := #[], vm := .none }]
def classes : Array Class := #[k0, k1, k2, k3, k4, k5, k6, k7, k8, k9, k10, k11]
def interned : List (Array UInt16 × Addr) := []
def slotsUsed : Nat := 2
def theMethod : MethodId := ⟨1, 1⟩
def args0 : Array Value := #[.int 5, .int 7, .int 9, .int 3, .int 2]
def aboutOver (below : List Frame) : State where
  vm := { classes := classes, interned := interned.toArray }
  heap := heap
  slotsUsed := slotsUsed
  threads := #[{ frames := .invoking theMethod args0 :: below }]
def below0 : List Frame := [.native { method := ⟨0, 0⟩, args := #[] }]
def about1 : State := aboutOver below0
def p0 : Program := .bare "" "" ""
def e0 : Env := launch0.env 0 0 0
theorem w_frames : about1.frames = Frame.invoking theMethod args0 :: below0 := rfl
set_option maxRecDepth 65536 in
theorem w_args : argsFit about1.vm theMethod args0 = true := by decide +kernel
set_option maxRecDepth 65536 in
theorem w_heap : heapFits about1 = true := by decide +kernel
set_option maxRecDepth 65536 in
theorem w_runnable : about1.curStatus? = some .runnable := by decide +kernel
set_option maxRecDepth 65536 in
theorem w_alone : about1.alone = true := by decide +kernel
set_option maxRecDepth 65536 in
theorem w_named : about1.methodNamed? x = some theMethod := by decide +kernel
set_option maxRecDepth 65536 in
theorem w_hears : about1.hears theMethod below0 = true := by decide +kernel
set_option maxRecDepth 65536 in
theorem w_ripe : about1.ripe theMethod args0 below0 = true := by decide +kernel
theorem w_running : about1.status = .running := rfl
set_option maxRecDepth 65536 in
theorem w_room : about1.hasRoom e0.platform room_1 = true :=
  launch0.hasRoom_least _ room_1 (by decide +kernel) (by decide +kernel) (by decide +kernel) (by decide +kernel) (by decide +kernel) (by decide +kernel)
theorem allAtoms_all (ts : List Jvm.Cond) (a : Array Jvm.Value) (st : Jvm.State) : (allAtoms ts).before a st = ts.all (fun c => c.before a st) := by
  induction ts with
  | nil => rfl
  | cons c t ih =>
    show (Jvm.Cond.and c (allAtoms t)).before a st = _
    rw [Jvm.Cond.before_and, ih, List.all_cons]
def words1 : List Jvm.Cond := Jvm.Cond.code x code maxLocals ret :: tables_1
/-- a 'code' word, met by the world's own term for the bytes: nothing is compared byte by byte -/
theorem code_word {y : MethodName} {bytes : ByteArray} {mx : Nat} {rt : Option FieldType} {a : Array Value} {s : State} {m : MethodId} {meth : Method} {c : Code} (h1 : s.methodNamed? y = some m) (h2 : s.vm.method? m = some meth) (h3 : meth.code = some c) (h4 : c.code = bytes)
    (h5 : (c.maxLocals == mx && c.exceptionTable.isEmpty && decide (c.maxStack ≤ mostOperands) && decide (meth.sig.returnType = rt) && !meth.locks && decide (parseMethodDescriptor y.desc = some meth.sig)) = true) : (Jvm.Cond.code y bytes mx rt).before a s = true := by
  simp only [Bool.and_eq_true, beq_iff_eq, Bool.not_eq_true', decide_eq_true_eq] at h5
  obtain ⟨⟨⟨⟨⟨g1, g2⟩, g3⟩, g4⟩, g5⟩, g6⟩ := h5
  simp [Cond.before, Cond.holds, Cond.value, h1, h2, h3, h4, g1, g2, g3, g4, g5, g6]
def isCode : Jvm.Cond → Bool
  | .code _ _ _ _ => true
  | _ => false
theorem all_split {L : List Jvm.Cond} {P : Jvm.Cond → Bool} (h1 : L.all (fun c => isCode c || P c) = true) (h2 : ∀ c ∈ L.filter isCode, P c = true) : L.all P = true := by
  refine List.all_eq_true.mpr fun c hc => ?_
  have h := List.all_eq_true.mp h1 c hc
  rcases Bool.eq_false_or_eq_true (isCode c) with hi | hi
  · exact h2 c (List.mem_filter.mpr ⟨hc, hi⟩)
  · simpa [hi] using h
set_option maxRecDepth 65536 in
theorem w_c0 : (Jvm.Cond.code x code maxLocals ret).before args0 about1 = true := code_word (m := ⟨1, 1⟩) (meth := k1m1) (c := k1c1) (by decide +kernel) rfl rfl rfl (by decide +kernel)
set_option maxRecDepth 65536 in
theorem w_c1 : (Jvm.Cond.code ({ cls := "com/example/fast_taxonomy/fasttaxonomy/calculus/IntList", name := "<init>", desc := "()V" } : Jvm.MethodName) prog_4_method_1_code (1 : Nat) (Option.none : Option Jvm.ClassFile.FieldType)).before args0 about1 = true := code_word (m := ⟨2, 0⟩) (meth := k2m0) (c := k2c0) (by decide +kernel) rfl rfl rfl (by decide +kernel)
set_option maxRecDepth 65536 in
theorem w_c2 : (Jvm.Cond.code ({ cls := "java/lang/Object", name := "<init>", desc := "()V" } : Jvm.MethodName) object_method_1_code (1 : Nat) (Option.none : Option Jvm.ClassFile.FieldType)).before args0 about1 = true := code_word (m := ⟨0, 0⟩) (meth := k0m0) (c := k0c0) (by decide +kernel) rfl rfl rfl (by decide +kernel)
set_option maxRecDepth 65536 in
theorem w_c3 : (Jvm.Cond.code ({ cls := "com/example/fast_taxonomy/fasttaxonomy/calculus/IntList", name := "add", desc := "(I)V" } : Jvm.MethodName) prog_4_method_3_code (2 : Nat) (Option.none : Option Jvm.ClassFile.FieldType)).before args0 about1 = true := code_word (m := ⟨2, 1⟩) (meth := k2m1) (c := k2c1) (by decide +kernel) rfl rfl rfl (by decide +kernel)
set_option maxRecDepth 65536 in
theorem w_c4 : (Jvm.Cond.code ({ cls := "java/lang/Math", name := "max", desc := "(II)I" } : Jvm.MethodName) jdk_29_method_65_code (2 : Nat) (Option.some Jvm.ClassFile.FieldType.int)).before args0 about1 = true := code_word (m := ⟨3, 1⟩) (meth := k3m1) (c := k3c1) (by decide +kernel) rfl rfl rfl (by decide +kernel)
set_option maxRecDepth 65536 in
theorem w_c5 : (Jvm.Cond.code ({ cls := "java/util/Arrays", name := "copyOf", desc := "([II)[I" } : Jvm.MethodName) jdk_65_method_123_code (3 : Nat) (Option.some (Jvm.ClassFile.FieldType.array Jvm.ClassFile.FieldType.int))).before args0 about1 = true := code_word (m := ⟨4, 1⟩) (meth := k4m1) (c := k4c1) (by decide +kernel) rfl rfl rfl (by decide +kernel)
set_option maxRecDepth 65536 in
theorem w_c6 : (Jvm.Cond.code ({ cls := "java/lang/Math", name := "min", desc := "(II)I" } : Jvm.MethodName) jdk_29_method_69_code (2 : Nat) (Option.some Jvm.ClassFile.FieldType.int)).before args0 about1 = true := code_word (m := ⟨3, 2⟩) (meth := k3m2) (c := k3c2) (by decide +kernel) rfl rfl rfl (by decide +kernel)
set_option maxRecDepth 65536 in
theorem w_c7 : (Jvm.Cond.code ({ cls := "com/example/fast_taxonomy/fasttaxonomy/calculus/IntList", name := "removeLast", desc := "()I" } : Jvm.MethodName) prog_4_method_6_code (1 : Nat) (Option.some Jvm.ClassFile.FieldType.int)).before args0 about1 = true := code_word (m := ⟨2, 4⟩) (meth := k2m4) (c := k2c4) (by decide +kernel) rfl rfl rfl (by decide +kernel)
set_option maxRecDepth 65536 in
theorem w_c8 : (Jvm.Cond.code ({ cls := "com/example/fast_taxonomy/fasttaxonomy/calculus/IntList", name := "size", desc := "()I" } : Jvm.MethodName) prog_4_method_5_code (1 : Nat) (Option.some Jvm.ClassFile.FieldType.int)).before args0 about1 = true := code_word (m := ⟨2, 3⟩) (meth := k2m3) (c := k2c3) (by decide +kernel) rfl rfl rfl (by decide +kernel)
set_option maxRecDepth 65536 in
theorem w_c9 : (Jvm.Cond.code ({ cls := "com/example/fast_taxonomy/fasttaxonomy/calculus/IntList", name := "get", desc := "(I)I" } : Jvm.MethodName) prog_4_method_4_code (2 : Nat) (Option.some Jvm.ClassFile.FieldType.int)).before args0 about1 = true := code_word (m := ⟨2, 2⟩) (meth := k2m2) (c := k2c2) (by decide +kernel) rfl rfl rfl (by decide +kernel)
def codes1 : List Jvm.Cond := [Jvm.Cond.code x code maxLocals ret, Jvm.Cond.code ({ cls := "com/example/fast_taxonomy/fasttaxonomy/calculus/IntList", name := "<init>", desc := "()V" } : Jvm.MethodName) prog_4_method_1_code (1 : Nat) (Option.none : Option Jvm.ClassFile.FieldType), Jvm.Cond.code ({ cls := "java/lang/Object", name := "<init>", desc := "()V" } : Jvm.MethodName) object_method_1_code (1 : Nat) (Option.none : Option Jvm.ClassFile.FieldType), Jvm.Cond.code ({ cls := "com/example/fast_taxonomy/fasttaxonomy/calculus/IntList", name := "add", desc := "(I)V" } : Jvm.MethodName) prog_4_method_3_code (2 : Nat) (Option.none : Option Jvm.ClassFile.FieldType), Jvm.Cond.code ({ cls := "java/lang/Math", name := "max", desc := "(II)I" } : Jvm.MethodName) jdk_29_method_65_code (2 : Nat) (Option.some Jvm.ClassFile.FieldType.int), Jvm.Cond.code ({ cls := "java/util/Arrays", name := "copyOf", desc := "([II)[I" } : Jvm.MethodName) jdk_65_method_123_code (3 : Nat) (Option.some (Jvm.ClassFile.FieldType.array Jvm.ClassFile.FieldType.int)), Jvm.Cond.code ({ cls := "java/lang/Math", name := "min", desc := "(II)I" } : Jvm.MethodName) jdk_29_method_69_code (2 : Nat) (Option.some Jvm.ClassFile.FieldType.int), Jvm.Cond.code ({ cls := "com/example/fast_taxonomy/fasttaxonomy/calculus/IntList", name := "removeLast", desc := "()I" } : Jvm.MethodName) prog_4_method_6_code (1 : Nat) (Option.some Jvm.ClassFile.FieldType.int), Jvm.Cond.code ({ cls := "com/example/fast_taxonomy/fasttaxonomy/calculus/IntList", name := "size", desc := "()I" } : Jvm.MethodName) prog_4_method_5_code (1 : Nat) (Option.some Jvm.ClassFile.FieldType.int), Jvm.Cond.code ({ cls := "com/example/fast_taxonomy/fasttaxonomy/calculus/IntList", name := "get", desc := "(I)I" } : Jvm.MethodName) prog_4_method_4_code (2 : Nat) (Option.some Jvm.ClassFile.FieldType.int)]
set_option maxRecDepth 65536 in
theorem codes_eq : words1.filter isCode = codes1 := rfl
theorem w_codes : ∀ c ∈ words1.filter isCode, c.before args0 about1 = true := by
  rw [codes_eq]
  intro c hc
  simp only [codes1, List.mem_cons, List.not_mem_nil, or_false] at hc
  rcases hc with rfl | rfl | rfl | rfl | rfl | rfl | rfl | rfl | rfl | rfl
  · exact w_c0
  · exact w_c1
  · exact w_c2
  · exact w_c3
  · exact w_c4
  · exact w_c5
  · exact w_c6
  · exact w_c7
  · exact w_c8
  · exact w_c9
set_option maxRecDepth 65536 in
theorem w_t1 : (words1.take 24).all (fun c => isCode c || c.before args0 about1) = true := by decide +kernel
set_option maxRecDepth 65536 in
theorem w_t2 : ((words1.drop 24).take 24).all (fun c => isCode c || c.before args0 about1) = true := by decide +kernel
set_option maxRecDepth 65536 in
theorem w_t3 : ((words1.drop 24).drop 24).all (fun c => isCode c || c.before args0 about1) = true := by decide +kernel
theorem w_tables : (allAtoms (Jvm.Cond.code x code maxLocals ret :: tables_1)).before args0 about1 = true := by
  rw [allAtoms_all]
  show words1.all (fun c => c.before args0 about1) = true
  refine all_split ?_ w_codes
  rw [← List.take_append_drop 24 words1, List.all_append, w_t1, ← List.take_append_drop 24 (words1.drop 24), List.all_append, w_t2, w_t3]
  rfl
set_option maxRecDepth 65536 in
theorem w_case : (Jvm.Cond.and given_1 narrow_1).before args0 about1 = true := by decide +kernel
theorem w_applies : (headSpec (Jvm.Cond.code x code maxLocals ret :: tables_1) room_1).applies x e0.platform about1 = true :=
  (Spec.applies_iff w_frames).mpr ⟨w_running, w_runnable, w_alone, w_named, w_hears, w_ripe, w_room, w_tables⟩
theorem atStart : AtStart classFile x code maxLocals ret World_1 tables_1 room_1 Calls_1 rest_1 Pre_1 launch0 p0 e0 about1 theMethod args0 below0 :=
  ⟨lists_1, trivial, launch0.admits_env _ _ _, launch0.least_env, fairChoices_fair.cas, fairChoices_fair.clock, w_frames, w_args, w_heap, w_applies, trivial, trivial, w_case⟩
end start1
theorem witness_1 : WitnessClaimed_1 := ⟨start1.p0, start1.e0, start1.about1, start1.theMethod, start1.args0, start1.below0, start1.atStart⟩
end Jvm.Pilot.@@N@@
