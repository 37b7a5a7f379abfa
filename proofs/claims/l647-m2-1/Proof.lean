import JvmDerived
import JvmDerived.Pilot.@@N@@Statement
import JvmDerived.Pilot.@@N@@Code
set_option linter.unusedVariables false
set_option linter.unusedSimpArgs false
namespace Jvm.Pilot.@@N@@
open Jvm Jvm.ClassFile Sem Op Lib Jvm.Free Jvm.Stand Jvm.LawKit Jvm.RoadKit Bundle Jvm.Pilot.@@N@@.Jvm.D
section OwnKit
variable {p : Program} {l : Launch} {e : Env} {R : Room} {s : State} {m : MethodId} {args : Array Value} {below : List Frame} {meth : Method} {c : Code} {T : State} {locs : List Loc} {cells slots : Nat}
theorem own_retI (X : Stand p l e R s m args below meth c T locs cells slots) (hx : p.tables.exec = Jvm.exec) {pc : Nat} {Ls : Array Slot} {z : Int32} {rest : List Value} (hret : meth.sig.returnType = some .int) (hd : decode c.code pc = .ok (.ireturn, 1)) {fs : List Frame}
    (hl : ∀ (f : JFrame) (acts : List Action), f.method = m → f.locked = none → f.entered = [] → (doReturn e (T.setTop f) acts (some (.int z))).1 = T.setFrames fs) : Steps p.tables e below (T.setTop (mkF m pc Ls (.int z :: rest))) (T.setFrames fs) := by
  have hm' : T.vm.method? m = some meth := X.method'
  have hn : narrow .int (.int z) = .int z := rfl
  show Steps p.tables e below (T.setTop { method := m, pc := pc, locals := Ls, stack := _ :: rest, locked := none }) _
  jvm_step X.here [X.here.top, hx, hd, hm', hret, hn]
  first | (intro acts; rw [hl _ acts rfl rfl rfl]) | rw [hl _ _ rfl rfl rfl]
  exact Steps.refl _
theorem own_retJ (X : Stand p l e R s m args below meth c T locs cells slots) (hx : p.tables.exec = Jvm.exec) {pc : Nat} {Ls : Array Slot} {z : Int64} {rest : List Value} (hret : meth.sig.returnType = some .long) (hd : decode c.code pc = .ok (.lreturn, 1)) {fs : List Frame}
    (hl : ∀ (f : JFrame) (acts : List Action), f.method = m → f.locked = none → f.entered = [] → (doReturn e (T.setTop f) acts (some (.long z))).1 = T.setFrames fs) : Steps p.tables e below (T.setTop (mkF m pc Ls (.long z :: rest))) (T.setFrames fs) := by
  have hm' : T.vm.method? m = some meth := X.method'
  have hn : narrow .long (.long z) = .long z := rfl
  show Steps p.tables e below (T.setTop { method := m, pc := pc, locals := Ls, stack := _ :: rest, locked := none }) _
  jvm_step X.here [X.here.top, hx, hd, hm', hret, hn]
  first | (intro acts; rw [hl _ acts rfl rfl rfl]) | rw [hl _ _ rfl rfl rfl]
  exact Steps.refl _
theorem own_retA (X : Stand p l e R s m args below meth c T locs cells slots) (hx : p.tables.exec = Jvm.exec) {pc : Nat} {Ls : Array Slot} {w : Value} {t : FieldType} {rest : List Value} (hret : meth.sig.returnType = some t) (ht : t.isReference = true) (hw : w.isRef = true) (hd : decode c.code pc = .ok (.areturn, 1)) {fs : List Frame}
    (hl : ∀ (f : JFrame) (acts : List Action), f.method = m → f.locked = none → f.entered = [] → (doReturn e (T.setTop f) acts (some w)).1 = T.setFrames fs) : Steps p.tables e below (T.setTop (mkF m pc Ls (w :: rest))) (T.setFrames fs) :=
  retOut X hx hret (by cases t <;> first | (cases ht; done) | (cases w <;> first | rfl | (cases hw; done))) (Or.inr (Or.inr (Or.inr (Or.inr ⟨rfl, ht, hw⟩)))) hd hl
/-- the run from S ends, returned, as Q says -/
def OwnR (p : Program) (e : Env) (below : List Frame) (s : State) (Q : Option Value → Heap → List Loc → Prop) (kc ks : Nat) (S : State) : Prop :=
  ∃ s₂ o, Steps p.tables e below S s₂ ∧ s₂.status = .running ∧ Ended s₂ below o ∧ ∃ v L, o = .returned v ∧ Q v s₂.heap L ∧ FrameEnd s o s₂ L kc ks
theorem OwnR.of {Q : Option Value → Heap → List Loc → Prop} {kc ks : Nat} {S S' : State} (k : ∀ t, Steps p.tables e below S' t → Steps p.tables e below S t) (h : OwnR p e below s Q kc ks S') : OwnR p e below s Q kc ks S := by
  obtain ⟨a, o, h1, h2⟩ := h
  exact ⟨a, o, k a h1, h2⟩
theorem own_leafI (X : Stand p l e R s m args below meth c T locs cells slots) (hx : p.tables.exec = Jvm.exec) (hlk : meth.locks = false) (hret : meth.sig.returnType = some .int) {Q : Option Value → Heap → List Loc → Prop} {kc ks pc : Nat} {Ls : Array Slot} {z : Int32} {rest : List Value} (hd : decode c.code pc = .ok (.ireturn, 1)) (hk : cells ≤ kc) (hs : slots ≤ ks) (hQ : Q (some (.int z)) T.heap locs) :
    OwnR p e below s Q kc ks (T.setTop (mkF m pc Ls (.int z :: rest))) := by
  obtain ⟨fs, hr, hrun, hended, hW, hsame⟩ := X.leave (v := some (.int z)) (fun h => by rw [hret] at h; cases h) hlk
  exact ⟨_, _, own_retI X hx hret hd hr, hrun, hended, _, _, rfl, hQ, ⟨_, rfl⟩, hW, hsame.mono hk hs⟩
theorem own_leafN (X : Stand p l e R s m args below meth c T locs cells slots) (hx : p.tables.exec = Jvm.exec) (hlk : meth.locks = false) {t : FieldType} (hret : meth.sig.returnType = some t) (ht : t = .boolean ∨ t = .byte ∨ t = .char ∨ t = .short) {Q : Option Value → Heap → List Loc → Prop} {kc ks pc : Nat} {Ls : Array Slot} {z z' : Int32} {rest : List Value} (hd : decode c.code pc = .ok (.ireturn, 1)) (hz : nar t z = z') (hk : cells ≤ kc) (hs : slots ≤ ks) (hQ : Q (some (.int z')) T.heap locs) :
    OwnR p e below s Q kc ks (T.setTop (mkF m pc Ls (.int z :: rest))) := by
  subst hz
  obtain ⟨fs, hr, hrun, hended, hW, hsame⟩ := X.leave (v := some (.int (nar t z))) (fun h => by rw [hret] at h; cases h) hlk
  exact ⟨_, _, retN X hx hret ht hd hr, hrun, hended, _, _, rfl, hQ, ⟨_, rfl⟩, hW, hsame.mono hk hs⟩
theorem own_leafJ (X : Stand p l e R s m args below meth c T locs cells slots) (hx : p.tables.exec = Jvm.exec) (hlk : meth.locks = false) (hret : meth.sig.returnType = some .long) {Q : Option Value → Heap → List Loc → Prop} {kc ks pc : Nat} {Ls : Array Slot} {z : Int64} {rest : List Value} (hd : decode c.code pc = .ok (.lreturn, 1)) (hk : cells ≤ kc) (hs : slots ≤ ks) (hQ : Q (some (.long z)) T.heap locs) :
    OwnR p e below s Q kc ks (T.setTop (mkF m pc Ls (.long z :: rest))) := by
  obtain ⟨fs, hr, hrun, hended, hW, hsame⟩ := X.leave (v := some (.long z)) (fun h => by rw [hret] at h; cases h) hlk
  exact ⟨_, _, own_retJ X hx hret hd hr, hrun, hended, _, _, rfl, hQ, ⟨_, rfl⟩, hW, hsame.mono hk hs⟩
theorem own_leafA (X : Stand p l e R s m args below meth c T locs cells slots) (hx : p.tables.exec = Jvm.exec) (hlk : meth.locks = false) {t : FieldType} (hret : meth.sig.returnType = some t) (ht : t.isReference = true) {Q : Option Value → Heap → List Loc → Prop} {kc ks pc : Nat} {Ls : Array Slot} {w : Value} (hw : w.isRef = true) {rest : List Value} (hd : decode c.code pc = .ok (.areturn, 1)) (hk : cells ≤ kc) (hs : slots ≤ ks) (hQ : Q (some w) T.heap locs) :
    OwnR p e below s Q kc ks (T.setTop (mkF m pc Ls (w :: rest))) := by
  obtain ⟨fs, hr, hrun, hended, hW, hsame⟩ := X.leave (v := some w) (fun h => by rw [hret] at h; cases h) hlk
  exact ⟨_, _, own_retA X hx hret ht hw hd hr, hrun, hended, _, _, rfl, hQ, ⟨_, rfl⟩, hW, hsame.mono hk hs⟩
theorem own_leafV (X : Stand p l e R s m args below meth c T locs cells slots) (hx : p.tables.exec = Jvm.exec) (hlk : meth.locks = false) (hret : meth.sig.returnType = none) {Q : Option Value → Heap → List Loc → Prop} {kc ks pc : Nat} {Ls : Array Slot} (hd : decode c.code pc = .ok (.return_, 1)) (hk : cells ≤ kc) (hs : slots ≤ ks) (hQ : Q none T.heap locs) :
    OwnR p e below s Q kc ks (T.setTop (mkF m pc Ls [])) := by
  obtain ⟨fs, hr, hrun, hended, hW, hsame⟩ := X.leave (v := none) (fun _ => rfl) hlk
  exact ⟨_, _, X.returnOut hx hret hd hr, hrun, hended, _, _, rfl, hQ, ⟨_, rfl⟩, hW, hsame.mono hk hs⟩
theorem own_sta {Z : State} {h h' : Heap} {C n d : String} {v : Value} (F : Sta Z h C n d v) (K : Keep h h' []) : Sta Z h' C n d v := by
  obtain ⟨cf, i, k, f, st, cell, h1, h2, h3, h4, h5, r⟩ := F
  exact ⟨cf, i, k, f, st, cell, h1, h2, h3, h4, K.2.1 _ _ h5 nin0, r⟩
theorem own_arr {Z : State} {h h' : Heap} {a : Addr} {c : Cell} {ty : FieldType} {ws : List Addr} (A : Arr Z h a c ty) (K : Keep h h' ws) (q : a ∉ ws) : Arr Z h' a c ty := ⟨K.2.1 _ _ A.1 q, A.2⟩
theorem own_lclt (a b : Int64) : lcmpW a b < 0 ↔ a < b := by
  obtain ⟨h1, h2, h3⟩ := c_lcmp a b
  have e1 := @Int64.lt_iff_toInt_lt a b
  have e2 := @Int32.lt_iff_toInt_lt (lcmpW a b) 0
  have e0 : (0 : Int32).toInt = 0 := by decide
  rw [e1, e2, e0]; omega
theorem own_lcgt (a b : Int64) : 0 < lcmpW a b ↔ b < a := by
  obtain ⟨h1, h2, h3⟩ := c_lcmp a b
  have e1 := @Int64.lt_iff_toInt_lt b a
  have e2 := @Int32.lt_iff_toInt_lt 0 (lcmpW a b)
  have e0 : (0 : Int32).toInt = 0 := by decide
  rw [e1, e2, e0]; omega
theorem own_lceq (a b : Int64) : lcmpW a b = 0 ↔ a = b := by
  obtain ⟨h1, h2, h3⟩ := c_lcmp a b
  have e0 : (0 : Int32).toInt = 0 := by decide
  rw [← Int64.toInt_inj, ← Int32.toInt_inj, e0]; omega
end OwnKit
def own_tr (a b c : Int32) : Int32 := if a = c then (if b = c then 1 else 0) else 0
theorem own_add (s d : Int32) (h : ¬ d = 0) : ¬ s + d = s := fun e => h (by
  have q := congrArg (fun z => z - s) e
  simp only [Int32.sub_self] at q
  rwa [Int32.add_comm, Int32.add_sub_cancel] at q)
theorem own_law (s d0 d1 f g : Int32) : own_tr (if f = 0 then s else s + (if d0 = 0 then 1 else d0)) (if g = 0 then s else s + (if d1 = 0 then 1 else d1)) s = if f = 0 then (if g = 0 then 1 else 0) else 0 := by
  have k : ∀ d : Int32, ¬ s + (if d = 0 then 1 else d) = s := fun d => own_add s _ (by split; decide; assumption)
  by_cases hf : f = 0 <;> by_cases hg : g = 0 <;> simp only [own_tr, hf, hg, if_pos, if_neg, k, if_true, if_false, not_false_eq_true]
theorem pn_com_example_fast_taxonomy_fasttaxonomy_calculus_RoleHierarchy : plainName "com/example/fast_taxonomy/fasttaxonomy/calculus/RoleHierarchy" = true := by first | (simp [plainName, overriddenIn]; done) | decide +kernel
theorem ef_rm1a (m : MethodId) (x0 : Addr) : entryFrame m #[(.ref x0)] 1 = mkF m 0 #[.val (.ref x0)] [] := by first | (simp [entryFrame, mkF, argsToLocals, Value.category]; done) | rfl
theorem d1_0 : decode prog_7_method_9_code 0 = .ok (.aload_n 0, 1) := by decide +kernel
theorem d1_1 : decode prog_7_method_9_code 1 = .ok (.arraylength, 1) := by decide +kernel
theorem d1_2 : decode prog_7_method_9_code 2 = .ok (.iconst 3, 1) := by decide +kernel
theorem d1_3 : decode prog_7_method_9_code 3 = .ok (.if_icmp .ne 25, 3) := by decide +kernel
theorem d1_28 : decode prog_7_method_9_code 28 = .ok (.iconst 0, 1) := by decide +kernel
theorem d1_29 : decode prog_7_method_9_code 29 = .ok (.ireturn, 1) := by decide +kernel
def Q1a (Z : State)  (h0 : Heap) (n0 : Nat) (v : Option Value) (h : Heap) (L : List Loc) : Prop := v = some (.int (0 : Int32)) ∧ Fr n0 L ∧ h = h0
set_option maxRecDepth 65536 in
set_option maxHeartbeats 40000000 in
theorem rm1a (l : Launch) (Z : State) (a0 : Array Value) (hw : ∀ d ∈ tables_1, d.before a0 Z = true) (ws : List Jvm.Cond) (a1 : Addr) (k1 : ClassId) (n1 : Int32) (vs1 : List Value) (dv1 : Value) (h0 : Heap) (n0 : Nat) (Z0 : n0 ≤ h0.size) (V_a1 : Arv Z h0 a1 k1 .int n1 vs1 dv1) (hn3 : ¬ n1 = 3) :
    MetFree l (⟨"com/example/fast_taxonomy/fasttaxonomy/calculus/RoleHierarchy", "isTransitivity", "([I)Z"⟩ : MethodName) (head1 (Jvm.Cond.code (⟨"com/example/fast_taxonomy/fasttaxonomy/calculus/RoleHierarchy", "isTransitivity", "([I)Z"⟩ : MethodName) prog_7_method_9_code 1 (some .boolean) :: ws) ({ frames := 0, cells := 0, slots := 0, locals := 0 } : Room)) (fun a U => a = #[(.ref a1)] ∧ Z.Warmed39 U.vm ∧ U.heap = h0) (fun _ _ _ _ _ => True) (fun _ U o U' => ∃ v L, o = .returned v ∧ Q1a Z  h0 n0 v U'.heap L ∧ FrameEnd U o U' L ({ frames := 0, cells := 0, slots := 0, locals := 0 } : Room).cells ({ frames := 0, cells := 0, slots := 0, locals := 0 } : Room).slots) := by
  refine MetFree.of_bodySF (plainFor_of_name pn_com_example_fast_taxonomy_fasttaxonomy_calculus_RoleHierarchy) hisR ?_
  intro p e s m args below meth c s₁ Bd hml0 hP hK
  obtain ⟨rfl, hZ, hh⟩ := hP
  have hx := Bd.exec
  have hby := Bd.bytes
  have hlk := BodyLoose.notSynchronized Bd
  have hml : c.maxLocals = 1 := hml0
  have hown : s.vm.findClass "com/example/fast_taxonomy/fasttaxonomy/calculus/RoleHierarchy" = some m.cls := findClass_of_methodNamed Bd.named
  have hnm := (name_of_methodNamed Bd.named Bd.method).1
  have X0 : Stand p l e ({ frames := 0, cells := 0, slots := 0, locals := 0 } : Room) s m #[(.ref a1)] below meth c s₁ [] 0 0 := Stand.of_body Bd
  have e0 : s₁.heap = h0 := by rw [← hh, Bd.state]; rfl
  have N0 := Fr.nil n0
  refine OwnR.of (s := s) (Q := Q1a Z  h0 n0) (fun t k => castTop (ef_rm1a m a1) k) ?_
  show OwnR _ _ _ _ _ _ _ (s₁.setTop (mkF m 0 #[.val (.ref a1)] []))
  refine OwnR.of (fun _ hr => XS.aloadN X0.here hx rfl (hb hby d1_0) rfl rfl hr) ?_
  show OwnR _ _ _ _ _ _ _ (s₁.setTop (mkF m 1 #[.val (.ref a1)] [(.ref a1)]))
  obtain ⟨cl2, Ar2, -, S2, N2, -, -⟩ := id V_a1
  refine OwnR.of (X0.arraylength hx (by rw [e0]; exact Ar2.1) (State.isArrayOf_alike hZ.alike Ar2.2.1) (g := (mkF m 1 #[.val (.ref a1)] [(.ref a1)])) rfl rfl (hb hby d1_1)) ?_
  show OwnR _ _ _ _ _ _ _ (s₁.setTop (mkF m 2 #[.val (.ref a1)] [(.int cl2.slots.size.toInt32)]))
  rw [len_of S2 N2]
  show OwnR _ _ _ _ _ _ _ (s₁.setTop (mkF m 2 #[.val (.ref a1)] [(.int n1)]))
  refine OwnR.of (fun _ hr => XS.iconst X0.here hx rfl (hb hby d1_2) hr) ?_
  show OwnR _ _ _ _ _ _ _ (s₁.setTop (mkF m 3 #[.val (.ref a1)] [(.int (3 : Int32)), (.int n1)]))
  have hc3_3 : ¬ (n1 = (3 : Int32)) := by
    intro hbad
    exact hn3 hbad
  refine OwnR.of (fun _ hr => XS.icmpYes X0.here hx rfl (pc0 := 3) (pc' := 28) rfl (hb hby d1_3) rfl (feq hc3_3).2 (by decide) (by decide) hr) ?_
  show OwnR _ _ _ _ _ _ _ (s₁.setTop (mkF m 28 #[.val (.ref a1)] []))
  refine OwnR.of (fun _ hr => XS.iconst X0.here hx rfl (hb hby d1_28) hr) ?_
  show OwnR _ _ _ _ _ _ _ (s₁.setTop (mkF m 29 #[.val (.ref a1)] [(.int (0 : Int32))]))
  refine own_leafN X0 hx hlk (t := .boolean) Bd.returns (by simp) (hb hby d1_29) (z' := (0 : Int32)) rfl (by decide) (by decide) ?_
  show Q1a Z  h0 n0 _ s₁.heap _
  rw [show s₁.heap = h0 from e0]
  refine ⟨?_, N0, rfl⟩
  show (some (.int (0 : Int32)) : Option Value) = some (.int (0 : Int32))
  rfl
theorem ef_rm1b (m : MethodId) (x0 : Addr) : entryFrame m #[(.ref x0)] 1 = mkF m 0 #[.val (.ref x0)] [] := by first | (simp [entryFrame, mkF, argsToLocals, Value.category]; done) | rfl
theorem d1_6 : decode prog_7_method_9_code 6 = .ok (.aload_n 0, 1) := by decide +kernel
theorem d1_7 : decode prog_7_method_9_code 7 = .ok (.iconst 0, 1) := by decide +kernel
theorem d1_8 : decode prog_7_method_9_code 8 = .ok (.iaload, 1) := by decide +kernel
theorem d1_9 : decode prog_7_method_9_code 9 = .ok (.aload_n 0, 1) := by decide +kernel
theorem d1_10 : decode prog_7_method_9_code 10 = .ok (.iconst 2, 1) := by decide +kernel
theorem d1_11 : decode prog_7_method_9_code 11 = .ok (.iaload, 1) := by decide +kernel
theorem d1_12 : decode prog_7_method_9_code 12 = .ok (.if_icmp .ne 16, 3) := by decide +kernel
theorem d1_15 : decode prog_7_method_9_code 15 = .ok (.aload_n 0, 1) := by decide +kernel
theorem d1_16 : decode prog_7_method_9_code 16 = .ok (.iconst 1, 1) := by decide +kernel
theorem d1_17 : decode prog_7_method_9_code 17 = .ok (.iaload, 1) := by decide +kernel
theorem d1_18 : decode prog_7_method_9_code 18 = .ok (.aload_n 0, 1) := by decide +kernel
theorem d1_19 : decode prog_7_method_9_code 19 = .ok (.iconst 2, 1) := by decide +kernel
theorem d1_20 : decode prog_7_method_9_code 20 = .ok (.iaload, 1) := by decide +kernel
theorem d1_21 : decode prog_7_method_9_code 21 = .ok (.if_icmp .ne 7, 3) := by decide +kernel
theorem d1_24 : decode prog_7_method_9_code 24 = .ok (.iconst 1, 1) := by decide +kernel
theorem d1_25 : decode prog_7_method_9_code 25 = .ok (.goto 4, 3) := by decide +kernel
def Q1b (Z : State) (x0 : Int32) (x1 : Int32) (x2 : Int32) (h0 : Heap) (n0 : Nat) (v : Option Value) (h : Heap) (L : List Loc) : Prop := v = some (.int (own_tr x0 x1 x2)) ∧ Fr n0 L ∧ h = h0
set_option maxRecDepth 65536 in
set_option maxHeartbeats 40000000 in
theorem rm1b (l : Launch) (Z : State) (a0 : Array Value) (hw : ∀ d ∈ tables_1, d.before a0 Z = true) (ws : List Jvm.Cond) (a1 : Addr) (k1 : ClassId) (x0 x1 x2 : Int32) (dv1 : Value) (h0 : Heap) (n0 : Nat) (Z0 : n0 ≤ h0.size) (V_a1 : Arv Z h0 a1 k1 .int (3 : Int32) [(.int x0), (.int x1), (.int x2)] dv1) :
    MetFree l (⟨"com/example/fast_taxonomy/fasttaxonomy/calculus/RoleHierarchy", "isTransitivity", "([I)Z"⟩ : MethodName) (head1 (Jvm.Cond.code (⟨"com/example/fast_taxonomy/fasttaxonomy/calculus/RoleHierarchy", "isTransitivity", "([I)Z"⟩ : MethodName) prog_7_method_9_code 1 (some .boolean) :: ws) ({ frames := 0, cells := 0, slots := 0, locals := 0 } : Room)) (fun a U => a = #[(.ref a1)] ∧ Z.Warmed39 U.vm ∧ U.heap = h0) (fun _ _ _ _ _ => True) (fun _ U o U' => ∃ v L, o = .returned v ∧ Q1b Z x0 x1 x2 h0 n0 v U'.heap L ∧ FrameEnd U o U' L ({ frames := 0, cells := 0, slots := 0, locals := 0 } : Room).cells ({ frames := 0, cells := 0, slots := 0, locals := 0 } : Room).slots) := by
  refine MetFree.of_bodySF (plainFor_of_name pn_com_example_fast_taxonomy_fasttaxonomy_calculus_RoleHierarchy) hisR ?_
  intro p e s m args below meth c s₁ Bd hml0 hP hK
  obtain ⟨rfl, hZ, hh⟩ := hP
  have hx := Bd.exec
  have hby := Bd.bytes
  have hlk := BodyLoose.notSynchronized Bd
  have hml : c.maxLocals = 1 := hml0
  have hown : s.vm.findClass "com/example/fast_taxonomy/fasttaxonomy/calculus/RoleHierarchy" = some m.cls := findClass_of_methodNamed Bd.named
  have hnm := (name_of_methodNamed Bd.named Bd.method).1
  have X0 : Stand p l e ({ frames := 0, cells := 0, slots := 0, locals := 0 } : Room) s m #[(.ref a1)] below meth c s₁ [] 0 0 := Stand.of_body Bd
  have e0 : s₁.heap = h0 := by rw [← hh, Bd.state]; rfl
  have N0 := Fr.nil n0
  refine OwnR.of (s := s) (Q := Q1b Z x0 x1 x2 h0 n0) (fun t k => castTop (ef_rm1b m a1) k) ?_
  show OwnR _ _ _ _ _ _ _ (s₁.setTop (mkF m 0 #[.val (.ref a1)] []))
  refine OwnR.of (fun _ hr => XS.aloadN X0.here hx rfl (hb hby d1_0) rfl rfl hr) ?_
  show OwnR _ _ _ _ _ _ _ (s₁.setTop (mkF m 1 #[.val (.ref a1)] [(.ref a1)]))
  obtain ⟨cl2, Ar2, -, S2, N2, -, -⟩ := id V_a1
  refine OwnR.of (X0.arraylength hx (by rw [e0]; exact Ar2.1) (State.isArrayOf_alike hZ.alike Ar2.2.1) (g := (mkF m 1 #[.val (.ref a1)] [(.ref a1)])) rfl rfl (hb hby d1_1)) ?_
  show OwnR _ _ _ _ _ _ _ (s₁.setTop (mkF m 2 #[.val (.ref a1)] [(.int cl2.slots.size.toInt32)]))
  rw [len_of S2 N2]
  show OwnR _ _ _ _ _ _ _ (s₁.setTop (mkF m 2 #[.val (.ref a1)] [(.int (3 : Int32))]))
  refine OwnR.of (fun _ hr => XS.iconst X0.here hx rfl (hb hby d1_2) hr) ?_
  show OwnR _ _ _ _ _ _ _ (s₁.setTop (mkF m 3 #[.val (.ref a1)] [(.int (3 : Int32)), (.int (3 : Int32))]))
  refine OwnR.of (fun _ hr => XS.icmpNo X0.here hx rfl (hb hby d1_3) rfl (teq (by decide : (3 : Int32) = (3 : Int32))).2 hr) ?_
  show OwnR _ _ _ _ _ _ _ (s₁.setTop (mkF m 6 #[.val (.ref a1)] []))
  refine OwnR.of (fun _ hr => XS.aloadN X0.here hx rfl (hb hby d1_6) rfl rfl hr) ?_
  show OwnR _ _ _ _ _ _ _ (s₁.setTop (mkF m 7 #[.val (.ref a1)] [(.ref a1)]))
  refine OwnR.of (fun _ hr => XS.iconst X0.here hx rfl (hb hby d1_7) hr) ?_
  show OwnR _ _ _ _ _ _ _ (s₁.setTop (mkF m 8 #[.val (.ref a1)] [(.int (0 : Int32)), (.ref a1)]))
  obtain ⟨cl3, Ar3, -, S3, N3, H3, G3⟩ := id V_a1
  have hin3 : ¬ ((0 : Int32) < 0 ∨ cl3.slots.size ≤ ((0 : Int32)).toNatClampNeg) := (inb_of S3 ⟨by decide, by decide⟩)
  refine OwnR.of (X0.iaload hx (j := (0 : Int32)) (v := (.int x0)) (by rw [e0]; exact Ar3.1) (State.isArrayOf_alike hZ.alike Ar3.2.1) Ar3.2.2 hin3 (Has.at H3 hin3 rfl) (g := (mkF m 8 #[.val (.ref a1)] [(.int (0 : Int32)), (.ref a1)])) rfl rfl (hb hby d1_8)) ?_
  show OwnR _ _ _ _ _ _ _ (s₁.setTop (mkF m 9 #[.val (.ref a1)] [(.int x0)]))
  refine OwnR.of (fun _ hr => XS.aloadN X0.here hx rfl (hb hby d1_9) rfl rfl hr) ?_
  show OwnR _ _ _ _ _ _ _ (s₁.setTop (mkF m 10 #[.val (.ref a1)] [(.ref a1), (.int x0)]))
  refine OwnR.of (fun _ hr => XS.iconst X0.here hx rfl (hb hby d1_10) hr) ?_
  show OwnR _ _ _ _ _ _ _ (s₁.setTop (mkF m 11 #[.val (.ref a1)] [(.int (2 : Int32)), (.ref a1), (.int x0)]))
  obtain ⟨cl4, Ar4, -, S4, N4, H4, G4⟩ := id V_a1
  have hin4 : ¬ ((2 : Int32) < 0 ∨ cl4.slots.size ≤ ((2 : Int32)).toNatClampNeg) := (inb_of S4 ⟨by decide, by decide⟩)
  refine OwnR.of (X0.iaload hx (j := (2 : Int32)) (v := (.int x2)) (by rw [e0]; exact Ar4.1) (State.isArrayOf_alike hZ.alike Ar4.2.1) Ar4.2.2 hin4 (Has.at H4 hin4 rfl) (g := (mkF m 11 #[.val (.ref a1)] [(.int (2 : Int32)), (.ref a1), (.int x0)])) rfl rfl (hb hby d1_11)) ?_
  show OwnR _ _ _ _ _ _ _ (s₁.setTop (mkF m 12 #[.val (.ref a1)] [(.int x2), (.int x0)]))
  by_cases hc12_5 : x0 = x2
  · skip
    refine OwnR.of (fun _ hr => XS.icmpNo X0.here hx rfl (hb hby d1_12) rfl (teq hc12_5).2 hr) ?_
    show OwnR _ _ _ _ _ _ _ (s₁.setTop (mkF m 15 #[.val (.ref a1)] []))
    refine OwnR.of (fun _ hr => XS.aloadN X0.here hx rfl (hb hby d1_15) rfl rfl hr) ?_
    show OwnR _ _ _ _ _ _ _ (s₁.setTop (mkF m 16 #[.val (.ref a1)] [(.ref a1)]))
    refine OwnR.of (fun _ hr => XS.iconst X0.here hx rfl (hb hby d1_16) hr) ?_
    show OwnR _ _ _ _ _ _ _ (s₁.setTop (mkF m 17 #[.val (.ref a1)] [(.int (1 : Int32)), (.ref a1)]))
    obtain ⟨cl6, Ar6, -, S6, N6, H6, G6⟩ := id V_a1
    have hin6 : ¬ ((1 : Int32) < 0 ∨ cl6.slots.size ≤ ((1 : Int32)).toNatClampNeg) := (inb_of S6 ⟨by decide, by decide⟩)
    refine OwnR.of (X0.iaload hx (j := (1 : Int32)) (v := (.int x1)) (by rw [e0]; exact Ar6.1) (State.isArrayOf_alike hZ.alike Ar6.2.1) Ar6.2.2 hin6 (Has.at H6 hin6 rfl) (g := (mkF m 17 #[.val (.ref a1)] [(.int (1 : Int32)), (.ref a1)])) rfl rfl (hb hby d1_17)) ?_
    show OwnR _ _ _ _ _ _ _ (s₁.setTop (mkF m 18 #[.val (.ref a1)] [(.int x1)]))
    refine OwnR.of (fun _ hr => XS.aloadN X0.here hx rfl (hb hby d1_18) rfl rfl hr) ?_
    show OwnR _ _ _ _ _ _ _ (s₁.setTop (mkF m 19 #[.val (.ref a1)] [(.ref a1), (.int x1)]))
    refine OwnR.of (fun _ hr => XS.iconst X0.here hx rfl (hb hby d1_19) hr) ?_
    show OwnR _ _ _ _ _ _ _ (s₁.setTop (mkF m 20 #[.val (.ref a1)] [(.int (2 : Int32)), (.ref a1), (.int x1)]))
    obtain ⟨cl7, Ar7, -, S7, N7, H7, G7⟩ := id V_a1
    have hin7 : ¬ ((2 : Int32) < 0 ∨ cl7.slots.size ≤ ((2 : Int32)).toNatClampNeg) := (inb_of S7 ⟨by decide, by decide⟩)
    refine OwnR.of (X0.iaload hx (j := (2 : Int32)) (v := (.int x2)) (by rw [e0]; exact Ar7.1) (State.isArrayOf_alike hZ.alike Ar7.2.1) Ar7.2.2 hin7 (Has.at H7 hin7 rfl) (g := (mkF m 20 #[.val (.ref a1)] [(.int (2 : Int32)), (.ref a1), (.int x1)])) rfl rfl (hb hby d1_20)) ?_
    show OwnR _ _ _ _ _ _ _ (s₁.setTop (mkF m 21 #[.val (.ref a1)] [(.int x2), (.int x1)]))
    by_cases hc21_8 : x1 = x2
    · skip
      refine OwnR.of (fun _ hr => XS.icmpNo X0.here hx rfl (hb hby d1_21) rfl (teq hc21_8).2 hr) ?_
      show OwnR _ _ _ _ _ _ _ (s₁.setTop (mkF m 24 #[.val (.ref a1)] []))
      refine OwnR.of (fun _ hr => XS.iconst X0.here hx rfl (hb hby d1_24) hr) ?_
      show OwnR _ _ _ _ _ _ _ (s₁.setTop (mkF m 25 #[.val (.ref a1)] [(.int (1 : Int32))]))
      refine OwnR.of (fun _ hr => XS.goto X0.here hx rfl (pc0 := 25) (pc' := 29) rfl (hb hby d1_25) (by decide) (by decide) hr) ?_
      show OwnR _ _ _ _ _ _ _ (s₁.setTop (mkF m 29 #[.val (.ref a1)] [(.int (1 : Int32))]))
      refine own_leafN X0 hx hlk (t := .boolean) Bd.returns (by simp) (hb hby d1_29) (z' := (1 : Int32)) rfl (by decide) (by decide) ?_
      show Q1b Z x0 x1 x2 h0 n0 _ s₁.heap _
      rw [show s₁.heap = h0 from e0]
      refine ⟨?_, N0, rfl⟩
      show (some (.int (1 : Int32)) : Option Value) = some (.int (own_tr x0 x1 x2))
      simp only [own_tr, if_pos hc12_5, if_pos hc21_8]
    · skip
      refine OwnR.of (fun _ hr => XS.icmpYes X0.here hx rfl (pc0 := 21) (pc' := 28) rfl (hb hby d1_21) rfl (feq hc21_8).2 (by decide) (by decide) hr) ?_
      show OwnR _ _ _ _ _ _ _ (s₁.setTop (mkF m 28 #[.val (.ref a1)] []))
      refine OwnR.of (fun _ hr => XS.iconst X0.here hx rfl (hb hby d1_28) hr) ?_
      show OwnR _ _ _ _ _ _ _ (s₁.setTop (mkF m 29 #[.val (.ref a1)] [(.int (0 : Int32))]))
      refine own_leafN X0 hx hlk (t := .boolean) Bd.returns (by simp) (hb hby d1_29) (z' := (0 : Int32)) rfl (by decide) (by decide) ?_
      show Q1b Z x0 x1 x2 h0 n0 _ s₁.heap _
      rw [show s₁.heap = h0 from e0]
      refine ⟨?_, N0, rfl⟩
      show (some (.int (0 : Int32)) : Option Value) = some (.int (own_tr x0 x1 x2))
      simp only [own_tr, if_pos hc12_5, if_neg hc21_8]
  · skip
    refine OwnR.of (fun _ hr => XS.icmpYes X0.here hx rfl (pc0 := 12) (pc' := 28) rfl (hb hby d1_12) rfl (feq hc12_5).2 (by decide) (by decide) hr) ?_
    show OwnR _ _ _ _ _ _ _ (s₁.setTop (mkF m 28 #[.val (.ref a1)] []))
    refine OwnR.of (fun _ hr => XS.iconst X0.here hx rfl (hb hby d1_28) hr) ?_
    show OwnR _ _ _ _ _ _ _ (s₁.setTop (mkF m 29 #[.val (.ref a1)] [(.int (0 : Int32))]))
    refine own_leafN X0 hx hlk (t := .boolean) Bd.returns (by simp) (hb hby d1_29) (z' := (0 : Int32)) rfl (by decide) (by decide) ?_
    show Q1b Z x0 x1 x2 h0 n0 _ s₁.heap _
    rw [show s₁.heap = h0 from e0]
    refine ⟨?_, N0, rfl⟩
    show (some (.int (0 : Int32)) : Option Value) = some (.int (own_tr x0 x1 x2))
    simp only [own_tr, if_neg hc12_5]
theorem pn_com_example_fast_taxonomy_fasttaxonomy_calculus_RoleHierarchyIsTransitivityPinLaw : plainName "com/example/fast_taxonomy/fasttaxonomy/calculus/RoleHierarchyIsTransitivityPinLaw" = true := by first | (simp [plainName, overriddenIn]; done) | decide +kernel
theorem ef_rm0 (m : MethodId) (x0 : Int32) (x1 : Int32) (x2 : Int32) (x3 : Int32) : entryFrame m #[(.int x0), (.int x1), (.int x2), (.int x3)] maxLocals = mkF m 0 #[.val (.int x0), .val (.int x1), .val (.int x2), .val (.int x3), .unset, .unset, .unset, .unset, .unset, .unset, .unset, .unset, .unset] [] := by first | (simp [entryFrame, mkF, argsToLocals, Value.category, maxLocals]; done) | rfl
theorem pd___I_Z : parseMethodDescriptor "([I)Z" = some ⟨[(.array .int)], some .boolean⟩ := by decide +kernel
def Q0 (Z : State)  (h0 : Heap) (n0 : Nat) (v : Option Value) (h : Heap) (L : List Loc) : Prop := v = some (.int (1 : Int32)) ∧ Fr n0 L
set_option maxRecDepth 65536 in
set_option maxHeartbeats 40000000 in
theorem rm0 (l : Launch) (Z : State) (a0 : Array Value) (hw : ∀ d ∈ tables_1, d.before a0 Z = true) (ws : List Jvm.Cond) (p1 : Int32) (p2 : Int32) (p3 : Int32) (p4 : Int32) (h0 : Heap) (n0 : Nat) (Z0 : n0 ≤ h0.size) :
    MetFree l x (head1 (Jvm.Cond.code x code maxLocals ret :: ws) room_1) (fun a U => a = #[(.int p1), (.int p2), (.int p3), (.int p4)] ∧ Z.Warmed39 U.vm ∧ U.heap = h0) (fun _ _ _ _ _ => True) (fun _ U o U' => ∃ v L, o = .returned v ∧ Q0 Z  h0 n0 v U'.heap L ∧ FrameEnd U o U' L 16 128) := by
  refine MetFree.of_bodySF (plainFor_of_name pn_com_example_fast_taxonomy_fasttaxonomy_calculus_RoleHierarchyIsTransitivityPinLaw) hisR ?_
  intro p e s m args below meth c s₁ Bd hml0 hP hK
  obtain ⟨rfl, hZ, hh⟩ := hP
  have hx := Bd.exec
  have hby := Bd.bytes
  have hlk := BodyLoose.notSynchronized Bd
  have hml : c.maxLocals = 13 := hml0
  have hown : s.vm.findClass "com/example/fast_taxonomy/fasttaxonomy/calculus/RoleHierarchyIsTransitivityPinLaw" = some m.cls := findClass_of_methodNamed Bd.named
  have hnm := (name_of_methodNamed Bd.named Bd.method).1
  have X0 : Stand p l e room_1 s m #[(.int p1), (.int p2), (.int p3), (.int p4)] below meth c s₁ [] 0 0 := Stand.of_body Bd
  have e0 : s₁.heap = h0 := by rw [← hh, Bd.state]; rfl
  have N0 := Fr.nil n0
  refine OwnR.of (s := s) (Q := Q0 Z  h0 n0) (fun t k => castTop (ef_rm0 m p1 p2 p3 p4) k) ?_
  show OwnR _ _ _ _ _ _ _ (s₁.setTop (mkF m 0 #[.val (.int p1), .val (.int p2), .val (.int p3), .val (.int p4), .unset, .unset, .unset, .unset, .unset, .unset, .unset, .unset, .unset] []))
  refine OwnR.of (fun _ hr => XS.iloadN X0.here hx rfl (hb hby at_0) rfl hr) ?_
  show OwnR _ _ _ _ _ _ _ (s₁.setTop (mkF m 1 #[.val (.int p1), .val (.int p2), .val (.int p3), .val (.int p4), .unset, .unset, .unset, .unset, .unset, .unset, .unset, .unset, .unset] [(.int p2)]))
  obtain ⟨v5, hv5⟩ : ∃ z : Int32, z = (if p2 = (0 : Int32) then (1 : Int32) else p2) := ⟨_, rfl⟩
  suffices J9_6 : OwnR p e below s (Q0 Z  h0 n0) 16 128 (s₁.setTop (mkF m 9 #[.val (.int p1), .val (.int p2), .val (.int p3), .val (.int p4), .unset, .unset, .unset, .unset, .unset, .unset, .unset, .unset, .unset] [(.int v5)])) by
    by_cases hc1_7 : p2 = (0 : Int32)
    · skip
      refine OwnR.of (fun _ hr => XS.ifNo X0.here hx rfl (hb hby at_1) rfl ((if0 _ _).trans (teq hc1_7).2) hr) ?_
      show OwnR _ _ _ _ _ _ _ (s₁.setTop (mkF m 4 #[.val (.int p1), .val (.int p2), .val (.int p3), .val (.int p4), .unset, .unset, .unset, .unset, .unset, .unset, .unset, .unset, .unset] []))
      refine OwnR.of (fun _ hr => XS.iconst X0.here hx rfl (hb hby at_4) hr) ?_
      show OwnR _ _ _ _ _ _ _ (s₁.setTop (mkF m 5 #[.val (.int p1), .val (.int p2), .val (.int p3), .val (.int p4), .unset, .unset, .unset, .unset, .unset, .unset, .unset, .unset, .unset] [(.int (1 : Int32))]))
      refine OwnR.of (fun _ hr => XS.goto X0.here hx rfl (pc0 := 5) (pc' := 9) rfl (hb hby at_5) (by decide) (by decide) hr) ?_
      show OwnR _ _ _ _ _ _ _ (s₁.setTop (mkF m 9 #[.val (.int p1), .val (.int p2), .val (.int p3), .val (.int p4), .unset, .unset, .unset, .unset, .unset, .unset, .unset, .unset, .unset] [(.int (1 : Int32))]))
      simp only [if_pos hc1_7] at hv5
      subst hv5
      exact J9_6
    · skip
      refine OwnR.of (fun _ hr => XS.ifYes X0.here hx rfl (pc0 := 1) (pc' := 8) rfl (hb hby at_1) rfl ((if0 _ _).trans (feq hc1_7).2) (by decide) (by decide) hr) ?_
      show OwnR _ _ _ _ _ _ _ (s₁.setTop (mkF m 8 #[.val (.int p1), .val (.int p2), .val (.int p3), .val (.int p4), .unset, .unset, .unset, .unset, .unset, .unset, .unset, .unset, .unset] []))
      refine OwnR.of (fun _ hr => XS.iloadN X0.here hx rfl (hb hby at_8) rfl hr) ?_
      show OwnR _ _ _ _ _ _ _ (s₁.setTop (mkF m 9 #[.val (.int p1), .val (.int p2), .val (.int p3), .val (.int p4), .unset, .unset, .unset, .unset, .unset, .unset, .unset, .unset, .unset] [(.int p2)]))
      simp only [if_neg hc1_7] at hv5
      subst hv5
      exact J9_6
  refine OwnR.of (fun _ hr => XS.istore X0.here hx rfl (hb hby at_9) rfl (l' := #[.val (.int p1), .val (.int p2), .val (.int p3), .val (.int p4), .val (.int v5), .unset, .unset, .unset, .unset, .unset, .unset, .unset, .unset]) rfl hr) ?_
  show OwnR _ _ _ _ _ _ _ (s₁.setTop (mkF m 11 #[.val (.int p1), .val (.int p2), .val (.int p3), .val (.int p4), .val (.int v5), .unset, .unset, .unset, .unset, .unset, .unset, .unset, .unset] []))
  refine OwnR.of (fun _ hr => XS.iloadN X0.here hx rfl (hb hby at_11) rfl hr) ?_
  show OwnR _ _ _ _ _ _ _ (s₁.setTop (mkF m 12 #[.val (.int p1), .val (.int p2), .val (.int p3), .val (.int p4), .val (.int v5), .unset, .unset, .unset, .unset, .unset, .unset, .unset, .unset] [(.int p3)]))
  obtain ⟨v8, hv8⟩ : ∃ z : Int32, z = (if p3 = (0 : Int32) then (1 : Int32) else p3) := ⟨_, rfl⟩
  suffices J20_9 : OwnR p e below s (Q0 Z  h0 n0) 16 128 (s₁.setTop (mkF m 20 #[.val (.int p1), .val (.int p2), .val (.int p3), .val (.int p4), .val (.int v5), .unset, .unset, .unset, .unset, .unset, .unset, .unset, .unset] [(.int v8)])) by
    by_cases hc12_10 : p3 = (0 : Int32)
    · skip
      refine OwnR.of (fun _ hr => XS.ifNo X0.here hx rfl (hb hby at_12) rfl ((if0 _ _).trans (teq hc12_10).2) hr) ?_
      show OwnR _ _ _ _ _ _ _ (s₁.setTop (mkF m 15 #[.val (.int p1), .val (.int p2), .val (.int p3), .val (.int p4), .val (.int v5), .unset, .unset, .unset, .unset, .unset, .unset, .unset, .unset] []))
      refine OwnR.of (fun _ hr => XS.iconst X0.here hx rfl (hb hby at_15) hr) ?_
      show OwnR _ _ _ _ _ _ _ (s₁.setTop (mkF m 16 #[.val (.int p1), .val (.int p2), .val (.int p3), .val (.int p4), .val (.int v5), .unset, .unset, .unset, .unset, .unset, .unset, .unset, .unset] [(.int (1 : Int32))]))
      refine OwnR.of (fun _ hr => XS.goto X0.here hx rfl (pc0 := 16) (pc' := 20) rfl (hb hby at_16) (by decide) (by decide) hr) ?_
      show OwnR _ _ _ _ _ _ _ (s₁.setTop (mkF m 20 #[.val (.int p1), .val (.int p2), .val (.int p3), .val (.int p4), .val (.int v5), .unset, .unset, .unset, .unset, .unset, .unset, .unset, .unset] [(.int (1 : Int32))]))
      simp only [if_pos hc12_10] at hv8
      subst hv8
      exact J20_9
    · skip
      refine OwnR.of (fun _ hr => XS.ifYes X0.here hx rfl (pc0 := 12) (pc' := 19) rfl (hb hby at_12) rfl ((if0 _ _).trans (feq hc12_10).2) (by decide) (by decide) hr) ?_
      show OwnR _ _ _ _ _ _ _ (s₁.setTop (mkF m 19 #[.val (.int p1), .val (.int p2), .val (.int p3), .val (.int p4), .val (.int v5), .unset, .unset, .unset, .unset, .unset, .unset, .unset, .unset] []))
      refine OwnR.of (fun _ hr => XS.iloadN X0.here hx rfl (hb hby at_19) rfl hr) ?_
      show OwnR _ _ _ _ _ _ _ (s₁.setTop (mkF m 20 #[.val (.int p1), .val (.int p2), .val (.int p3), .val (.int p4), .val (.int v5), .unset, .unset, .unset, .unset, .unset, .unset, .unset, .unset] [(.int p3)]))
      simp only [if_neg hc12_10] at hv8
      subst hv8
      exact J20_9
  refine OwnR.of (fun _ hr => XS.istore X0.here hx rfl (hb hby at_20) rfl (l' := #[.val (.int p1), .val (.int p2), .val (.int p3), .val (.int p4), .val (.int v5), .val (.int v8), .unset, .unset, .unset, .unset, .unset, .unset, .unset]) rfl hr) ?_
  show OwnR _ _ _ _ _ _ _ (s₁.setTop (mkF m 22 #[.val (.int p1), .val (.int p2), .val (.int p3), .val (.int p4), .val (.int v5), .val (.int v8), .unset, .unset, .unset, .unset, .unset, .unset, .unset] []))
  refine OwnR.of (fun _ hr => XS.iloadN X0.here hx rfl (hb hby at_22) rfl hr) ?_
  show OwnR _ _ _ _ _ _ _ (s₁.setTop (mkF m 23 #[.val (.int p1), .val (.int p2), .val (.int p3), .val (.int p4), .val (.int v5), .val (.int v8), .unset, .unset, .unset, .unset, .unset, .unset, .unset] [(.int p4)]))
  refine OwnR.of (fun _ hr => XS.iconst X0.here hx rfl (hb hby at_23) hr) ?_
  show OwnR _ _ _ _ _ _ _ (s₁.setTop (mkF m 24 #[.val (.int p1), .val (.int p2), .val (.int p3), .val (.int p4), .val (.int v5), .val (.int v8), .unset, .unset, .unset, .unset, .unset, .unset, .unset] [(.int (1 : Int32)), (.int p4)]))
  refine OwnR.of (fun _ hr => XS.iand X0.here hx rfl (hb hby at_24) rfl hr) ?_
  show OwnR _ _ _ _ _ _ _ (s₁.setTop (mkF m 25 #[.val (.int p1), .val (.int p2), .val (.int p3), .val (.int p4), .val (.int v5), .val (.int v8), .unset, .unset, .unset, .unset, .unset, .unset, .unset] [(.int (p4 &&& (1 : Int32)))]))
  obtain ⟨v11, hv11⟩ : ∃ z : Int32, z = (if (p4 &&& (1 : Int32)) = (0 : Int32) then (0 : Int32) else (1 : Int32)) := ⟨_, rfl⟩
  suffices J33_12 : OwnR p e below s (Q0 Z  h0 n0) 16 128 (s₁.setTop (mkF m 33 #[.val (.int p1), .val (.int p2), .val (.int p3), .val (.int p4), .val (.int v5), .val (.int v8), .unset, .unset, .unset, .unset, .unset, .unset, .unset] [(.int v11)])) by
    by_cases hc25_13 : (p4 &&& (1 : Int32)) = (0 : Int32)
    · skip
      refine OwnR.of (fun _ hr => XS.ifYes X0.here hx rfl (pc0 := 25) (pc' := 32) rfl (hb hby at_25) rfl ((if0 _ _).trans (teq hc25_13).1) (by decide) (by decide) hr) ?_
      show OwnR _ _ _ _ _ _ _ (s₁.setTop (mkF m 32 #[.val (.int p1), .val (.int p2), .val (.int p3), .val (.int p4), .val (.int v5), .val (.int v8), .unset, .unset, .unset, .unset, .unset, .unset, .unset] []))
      refine OwnR.of (fun _ hr => XS.iconst X0.here hx rfl (hb hby at_32) hr) ?_
      show OwnR _ _ _ _ _ _ _ (s₁.setTop (mkF m 33 #[.val (.int p1), .val (.int p2), .val (.int p3), .val (.int p4), .val (.int v5), .val (.int v8), .unset, .unset, .unset, .unset, .unset, .unset, .unset] [(.int (0 : Int32))]))
      simp only [if_pos hc25_13] at hv11
      subst hv11
      exact J33_12
    · skip
      refine OwnR.of (fun _ hr => XS.ifNo X0.here hx rfl (hb hby at_25) rfl ((if0 _ _).trans (feq hc25_13).1) hr) ?_
      show OwnR _ _ _ _ _ _ _ (s₁.setTop (mkF m 28 #[.val (.int p1), .val (.int p2), .val (.int p3), .val (.int p4), .val (.int v5), .val (.int v8), .unset, .unset, .unset, .unset, .unset, .unset, .unset] []))
      refine OwnR.of (fun _ hr => XS.iconst X0.here hx rfl (hb hby at_28) hr) ?_
      show OwnR _ _ _ _ _ _ _ (s₁.setTop (mkF m 29 #[.val (.int p1), .val (.int p2), .val (.int p3), .val (.int p4), .val (.int v5), .val (.int v8), .unset, .unset, .unset, .unset, .unset, .unset, .unset] [(.int (1 : Int32))]))
      refine OwnR.of (fun _ hr => XS.goto X0.here hx rfl (pc0 := 29) (pc' := 33) rfl (hb hby at_29) (by decide) (by decide) hr) ?_
      show OwnR _ _ _ _ _ _ _ (s₁.setTop (mkF m 33 #[.val (.int p1), .val (.int p2), .val (.int p3), .val (.int p4), .val (.int v5), .val (.int v8), .unset, .unset, .unset, .unset, .unset, .unset, .unset] [(.int (1 : Int32))]))
      simp only [if_neg hc25_13] at hv11
      subst hv11
      exact J33_12
  refine OwnR.of (fun _ hr => XS.istore X0.here hx rfl (hb hby at_33) rfl (l' := #[.val (.int p1), .val (.int p2), .val (.int p3), .val (.int p4), .val (.int v5), .val (.int v8), .val (.int v11), .unset, .unset, .unset, .unset, .unset, .unset]) rfl hr) ?_
  show OwnR _ _ _ _ _ _ _ (s₁.setTop (mkF m 35 #[.val (.int p1), .val (.int p2), .val (.int p3), .val (.int p4), .val (.int v5), .val (.int v8), .val (.int v11), .unset, .unset, .unset, .unset, .unset, .unset] []))
  refine OwnR.of (fun _ hr => XS.iloadN X0.here hx rfl (hb hby at_35) rfl hr) ?_
  show OwnR _ _ _ _ _ _ _ (s₁.setTop (mkF m 36 #[.val (.int p1), .val (.int p2), .val (.int p3), .val (.int p4), .val (.int v5), .val (.int v8), .val (.int v11), .unset, .unset, .unset, .unset, .unset, .unset] [(.int p4)]))
  refine OwnR.of (fun _ hr => XS.iconst X0.here hx rfl (hb hby at_36) hr) ?_
  show OwnR _ _ _ _ _ _ _ (s₁.setTop (mkF m 37 #[.val (.int p1), .val (.int p2), .val (.int p3), .val (.int p4), .val (.int v5), .val (.int v8), .val (.int v11), .unset, .unset, .unset, .unset, .unset, .unset] [(.int (2 : Int32)), (.int p4)]))
  refine OwnR.of (fun _ hr => XS.iand X0.here hx rfl (hb hby at_37) rfl hr) ?_
  show OwnR _ _ _ _ _ _ _ (s₁.setTop (mkF m 38 #[.val (.int p1), .val (.int p2), .val (.int p3), .val (.int p4), .val (.int v5), .val (.int v8), .val (.int v11), .unset, .unset, .unset, .unset, .unset, .unset] [(.int (p4 &&& (2 : Int32)))]))
  obtain ⟨v14, hv14⟩ : ∃ z : Int32, z = (if (p4 &&& (2 : Int32)) = (0 : Int32) then (0 : Int32) else (1 : Int32)) := ⟨_, rfl⟩
  suffices J46_15 : OwnR p e below s (Q0 Z  h0 n0) 16 128 (s₁.setTop (mkF m 46 #[.val (.int p1), .val (.int p2), .val (.int p3), .val (.int p4), .val (.int v5), .val (.int v8), .val (.int v11), .unset, .unset, .unset, .unset, .unset, .unset] [(.int v14)])) by
    by_cases hc38_16 : (p4 &&& (2 : Int32)) = (0 : Int32)
    · skip
      refine OwnR.of (fun _ hr => XS.ifYes X0.here hx rfl (pc0 := 38) (pc' := 45) rfl (hb hby at_38) rfl ((if0 _ _).trans (teq hc38_16).1) (by decide) (by decide) hr) ?_
      show OwnR _ _ _ _ _ _ _ (s₁.setTop (mkF m 45 #[.val (.int p1), .val (.int p2), .val (.int p3), .val (.int p4), .val (.int v5), .val (.int v8), .val (.int v11), .unset, .unset, .unset, .unset, .unset, .unset] []))
      refine OwnR.of (fun _ hr => XS.iconst X0.here hx rfl (hb hby at_45) hr) ?_
      show OwnR _ _ _ _ _ _ _ (s₁.setTop (mkF m 46 #[.val (.int p1), .val (.int p2), .val (.int p3), .val (.int p4), .val (.int v5), .val (.int v8), .val (.int v11), .unset, .unset, .unset, .unset, .unset, .unset] [(.int (0 : Int32))]))
      simp only [if_pos hc38_16] at hv14
      subst hv14
      exact J46_15
    · skip
      refine OwnR.of (fun _ hr => XS.ifNo X0.here hx rfl (hb hby at_38) rfl ((if0 _ _).trans (feq hc38_16).1) hr) ?_
      show OwnR _ _ _ _ _ _ _ (s₁.setTop (mkF m 41 #[.val (.int p1), .val (.int p2), .val (.int p3), .val (.int p4), .val (.int v5), .val (.int v8), .val (.int v11), .unset, .unset, .unset, .unset, .unset, .unset] []))
      refine OwnR.of (fun _ hr => XS.iconst X0.here hx rfl (hb hby at_41) hr) ?_
      show OwnR _ _ _ _ _ _ _ (s₁.setTop (mkF m 42 #[.val (.int p1), .val (.int p2), .val (.int p3), .val (.int p4), .val (.int v5), .val (.int v8), .val (.int v11), .unset, .unset, .unset, .unset, .unset, .unset] [(.int (1 : Int32))]))
      refine OwnR.of (fun _ hr => XS.goto X0.here hx rfl (pc0 := 42) (pc' := 46) rfl (hb hby at_42) (by decide) (by decide) hr) ?_
      show OwnR _ _ _ _ _ _ _ (s₁.setTop (mkF m 46 #[.val (.int p1), .val (.int p2), .val (.int p3), .val (.int p4), .val (.int v5), .val (.int v8), .val (.int v11), .unset, .unset, .unset, .unset, .unset, .unset] [(.int (1 : Int32))]))
      simp only [if_neg hc38_16] at hv14
      subst hv14
      exact J46_15
  refine OwnR.of (fun _ hr => XS.istore X0.here hx rfl (hb hby at_46) rfl (l' := #[.val (.int p1), .val (.int p2), .val (.int p3), .val (.int p4), .val (.int v5), .val (.int v8), .val (.int v11), .val (.int v14), .unset, .unset, .unset, .unset, .unset]) rfl hr) ?_
  show OwnR _ _ _ _ _ _ _ (s₁.setTop (mkF m 48 #[.val (.int p1), .val (.int p2), .val (.int p3), .val (.int p4), .val (.int v5), .val (.int v8), .val (.int v11), .val (.int v14), .unset, .unset, .unset, .unset, .unset] []))
  refine OwnR.of (fun _ hr => XS.iload X0.here hx rfl (hb hby at_48) rfl hr) ?_
  show OwnR _ _ _ _ _ _ _ (s₁.setTop (mkF m 50 #[.val (.int p1), .val (.int p2), .val (.int p3), .val (.int p4), .val (.int v5), .val (.int v8), .val (.int v11), .val (.int v14), .unset, .unset, .unset, .unset, .unset] [(.int v11)]))
  obtain ⟨v17, hv17⟩ : ∃ z : Int32, z = (if v11 = (0 : Int32) then p1 else (p1 + v5)) := ⟨_, rfl⟩
  suffices J61_18 : OwnR p e below s (Q0 Z  h0 n0) 16 128 (s₁.setTop (mkF m 61 #[.val (.int p1), .val (.int p2), .val (.int p3), .val (.int p4), .val (.int v5), .val (.int v8), .val (.int v11), .val (.int v14), .unset, .unset, .unset, .unset, .unset] [(.int v17)])) by
    by_cases hc50_19 : v11 = (0 : Int32)
    · skip
      refine OwnR.of (fun _ hr => XS.ifYes X0.here hx rfl (pc0 := 50) (pc' := 60) rfl (hb hby at_50) rfl ((if0 _ _).trans (teq hc50_19).1) (by decide) (by decide) hr) ?_
      show OwnR _ _ _ _ _ _ _ (s₁.setTop (mkF m 60 #[.val (.int p1), .val (.int p2), .val (.int p3), .val (.int p4), .val (.int v5), .val (.int v8), .val (.int v11), .val (.int v14), .unset, .unset, .unset, .unset, .unset] []))
      refine OwnR.of (fun _ hr => XS.iloadN X0.here hx rfl (hb hby at_60) rfl hr) ?_
      show OwnR _ _ _ _ _ _ _ (s₁.setTop (mkF m 61 #[.val (.int p1), .val (.int p2), .val (.int p3), .val (.int p4), .val (.int v5), .val (.int v8), .val (.int v11), .val (.int v14), .unset, .unset, .unset, .unset, .unset] [(.int p1)]))
      simp only [if_pos hc50_19] at hv17
      subst hv17
      exact J61_18
    · skip
      refine OwnR.of (fun _ hr => XS.ifNo X0.here hx rfl (hb hby at_50) rfl ((if0 _ _).trans (feq hc50_19).1) hr) ?_
      show OwnR _ _ _ _ _ _ _ (s₁.setTop (mkF m 53 #[.val (.int p1), .val (.int p2), .val (.int p3), .val (.int p4), .val (.int v5), .val (.int v8), .val (.int v11), .val (.int v14), .unset, .unset, .unset, .unset, .unset] []))
      refine OwnR.of (fun _ hr => XS.iloadN X0.here hx rfl (hb hby at_53) rfl hr) ?_
      show OwnR _ _ _ _ _ _ _ (s₁.setTop (mkF m 54 #[.val (.int p1), .val (.int p2), .val (.int p3), .val (.int p4), .val (.int v5), .val (.int v8), .val (.int v11), .val (.int v14), .unset, .unset, .unset, .unset, .unset] [(.int p1)]))
      refine OwnR.of (fun _ hr => XS.iload X0.here hx rfl (hb hby at_54) rfl hr) ?_
      show OwnR _ _ _ _ _ _ _ (s₁.setTop (mkF m 56 #[.val (.int p1), .val (.int p2), .val (.int p3), .val (.int p4), .val (.int v5), .val (.int v8), .val (.int v11), .val (.int v14), .unset, .unset, .unset, .unset, .unset] [(.int v5), (.int p1)]))
      refine OwnR.of (fun _ hr => XS.iadd X0.here hx rfl (hb hby at_56) rfl hr) ?_
      show OwnR _ _ _ _ _ _ _ (s₁.setTop (mkF m 57 #[.val (.int p1), .val (.int p2), .val (.int p3), .val (.int p4), .val (.int v5), .val (.int v8), .val (.int v11), .val (.int v14), .unset, .unset, .unset, .unset, .unset] [(.int (p1 + v5))]))
      refine OwnR.of (fun _ hr => XS.goto X0.here hx rfl (pc0 := 57) (pc' := 61) rfl (hb hby at_57) (by decide) (by decide) hr) ?_
      show OwnR _ _ _ _ _ _ _ (s₁.setTop (mkF m 61 #[.val (.int p1), .val (.int p2), .val (.int p3), .val (.int p4), .val (.int v5), .val (.int v8), .val (.int v11), .val (.int v14), .unset, .unset, .unset, .unset, .unset] [(.int (p1 + v5))]))
      simp only [if_neg hc50_19] at hv17
      subst hv17
      exact J61_18
  refine OwnR.of (fun _ hr => XS.istore X0.here hx rfl (hb hby at_61) rfl (l' := #[.val (.int p1), .val (.int p2), .val (.int p3), .val (.int p4), .val (.int v5), .val (.int v8), .val (.int v11), .val (.int v14), .val (.int v17), .unset, .unset, .unset, .unset]) rfl hr) ?_
  show OwnR _ _ _ _ _ _ _ (s₁.setTop (mkF m 63 #[.val (.int p1), .val (.int p2), .val (.int p3), .val (.int p4), .val (.int v5), .val (.int v8), .val (.int v11), .val (.int v14), .val (.int v17), .unset, .unset, .unset, .unset] []))
  refine OwnR.of (fun _ hr => XS.iload X0.here hx rfl (hb hby at_63) rfl hr) ?_
  show OwnR _ _ _ _ _ _ _ (s₁.setTop (mkF m 65 #[.val (.int p1), .val (.int p2), .val (.int p3), .val (.int p4), .val (.int v5), .val (.int v8), .val (.int v11), .val (.int v14), .val (.int v17), .unset, .unset, .unset, .unset] [(.int v14)]))
  obtain ⟨v20, hv20⟩ : ∃ z : Int32, z = (if v14 = (0 : Int32) then p1 else (p1 + v8)) := ⟨_, rfl⟩
  suffices J76_21 : OwnR p e below s (Q0 Z  h0 n0) 16 128 (s₁.setTop (mkF m 76 #[.val (.int p1), .val (.int p2), .val (.int p3), .val (.int p4), .val (.int v5), .val (.int v8), .val (.int v11), .val (.int v14), .val (.int v17), .unset, .unset, .unset, .unset] [(.int v20)])) by
    by_cases hc65_22 : v14 = (0 : Int32)
    · skip
      refine OwnR.of (fun _ hr => XS.ifYes X0.here hx rfl (pc0 := 65) (pc' := 75) rfl (hb hby at_65) rfl ((if0 _ _).trans (teq hc65_22).1) (by decide) (by decide) hr) ?_
      show OwnR _ _ _ _ _ _ _ (s₁.setTop (mkF m 75 #[.val (.int p1), .val (.int p2), .val (.int p3), .val (.int p4), .val (.int v5), .val (.int v8), .val (.int v11), .val (.int v14), .val (.int v17), .unset, .unset, .unset, .unset] []))
      refine OwnR.of (fun _ hr => XS.iloadN X0.here hx rfl (hb hby at_75) rfl hr) ?_
      show OwnR _ _ _ _ _ _ _ (s₁.setTop (mkF m 76 #[.val (.int p1), .val (.int p2), .val (.int p3), .val (.int p4), .val (.int v5), .val (.int v8), .val (.int v11), .val (.int v14), .val (.int v17), .unset, .unset, .unset, .unset] [(.int p1)]))
      simp only [if_pos hc65_22] at hv20
      subst hv20
      exact J76_21
    · skip
      refine OwnR.of (fun _ hr => XS.ifNo X0.here hx rfl (hb hby at_65) rfl ((if0 _ _).trans (feq hc65_22).1) hr) ?_
      show OwnR _ _ _ _ _ _ _ (s₁.setTop (mkF m 68 #[.val (.int p1), .val (.int p2), .val (.int p3), .val (.int p4), .val (.int v5), .val (.int v8), .val (.int v11), .val (.int v14), .val (.int v17), .unset, .unset, .unset, .unset] []))
      refine OwnR.of (fun _ hr => XS.iloadN X0.here hx rfl (hb hby at_68) rfl hr) ?_
      show OwnR _ _ _ _ _ _ _ (s₁.setTop (mkF m 69 #[.val (.int p1), .val (.int p2), .val (.int p3), .val (.int p4), .val (.int v5), .val (.int v8), .val (.int v11), .val (.int v14), .val (.int v17), .unset, .unset, .unset, .unset] [(.int p1)]))
      refine OwnR.of (fun _ hr => XS.iload X0.here hx rfl (hb hby at_69) rfl hr) ?_
      show OwnR _ _ _ _ _ _ _ (s₁.setTop (mkF m 71 #[.val (.int p1), .val (.int p2), .val (.int p3), .val (.int p4), .val (.int v5), .val (.int v8), .val (.int v11), .val (.int v14), .val (.int v17), .unset, .unset, .unset, .unset] [(.int v8), (.int p1)]))
      refine OwnR.of (fun _ hr => XS.iadd X0.here hx rfl (hb hby at_71) rfl hr) ?_
      show OwnR _ _ _ _ _ _ _ (s₁.setTop (mkF m 72 #[.val (.int p1), .val (.int p2), .val (.int p3), .val (.int p4), .val (.int v5), .val (.int v8), .val (.int v11), .val (.int v14), .val (.int v17), .unset, .unset, .unset, .unset] [(.int (p1 + v8))]))
      refine OwnR.of (fun _ hr => XS.goto X0.here hx rfl (pc0 := 72) (pc' := 76) rfl (hb hby at_72) (by decide) (by decide) hr) ?_
      show OwnR _ _ _ _ _ _ _ (s₁.setTop (mkF m 76 #[.val (.int p1), .val (.int p2), .val (.int p3), .val (.int p4), .val (.int v5), .val (.int v8), .val (.int v11), .val (.int v14), .val (.int v17), .unset, .unset, .unset, .unset] [(.int (p1 + v8))]))
      simp only [if_neg hc65_22] at hv20
      subst hv20
      exact J76_21
  refine OwnR.of (fun _ hr => XS.istore X0.here hx rfl (hb hby at_76) rfl (l' := #[.val (.int p1), .val (.int p2), .val (.int p3), .val (.int p4), .val (.int v5), .val (.int v8), .val (.int v11), .val (.int v14), .val (.int v17), .val (.int v20), .unset, .unset, .unset]) rfl hr) ?_
  show OwnR _ _ _ _ _ _ _ (s₁.setTop (mkF m 78 #[.val (.int p1), .val (.int p2), .val (.int p3), .val (.int p4), .val (.int v5), .val (.int v8), .val (.int v11), .val (.int v14), .val (.int v17), .val (.int v20), .unset, .unset, .unset] []))
  refine OwnR.of (fun _ hr => XS.iloadN X0.here hx rfl (hb hby at_78) rfl hr) ?_
  show OwnR _ _ _ _ _ _ _ (s₁.setTop (mkF m 79 #[.val (.int p1), .val (.int p2), .val (.int p3), .val (.int p4), .val (.int v5), .val (.int v8), .val (.int v11), .val (.int v14), .val (.int v17), .val (.int v20), .unset, .unset, .unset] [(.int p4)]))
  refine OwnR.of (fun _ hr => XS.iconst X0.here hx rfl (hb hby at_79) hr) ?_
  show OwnR _ _ _ _ _ _ _ (s₁.setTop (mkF m 80 #[.val (.int p1), .val (.int p2), .val (.int p3), .val (.int p4), .val (.int v5), .val (.int v8), .val (.int v11), .val (.int v14), .val (.int v17), .val (.int v20), .unset, .unset, .unset] [(.int (2 : Int32)), (.int p4)]))
  refine OwnR.of (fun _ hr => XS.iushr X0.here hx rfl (hb hby at_80) rfl hr) ?_
  show OwnR _ _ _ _ _ _ _ (s₁.setTop (mkF m 81 #[.val (.int p1), .val (.int p2), .val (.int p3), .val (.int p4), .val (.int v5), .val (.int v8), .val (.int v11), .val (.int v14), .val (.int v17), .val (.int v20), .unset, .unset, .unset] [(.int ((p4.toUInt32 >>> ((2 : Int32) &&& 31).toUInt32).toInt32))]))
  refine OwnR.of (fun _ hr => XS.bipush X0.here hx rfl (hb hby at_81) hr) ?_
  show OwnR _ _ _ _ _ _ _ (s₁.setTop (mkF m 83 #[.val (.int p1), .val (.int p2), .val (.int p3), .val (.int p4), .val (.int v5), .val (.int v8), .val (.int v11), .val (.int v14), .val (.int v17), .val (.int v20), .unset, .unset, .unset] [(.int (7 : Int32)), (.int ((p4.toUInt32 >>> ((2 : Int32) &&& 31).toUInt32).toInt32))]))
  refine OwnR.of (fun _ hr => XS.iand X0.here hx rfl (hb hby at_83) rfl hr) ?_
  show OwnR _ _ _ _ _ _ _ (s₁.setTop (mkF m 84 #[.val (.int p1), .val (.int p2), .val (.int p3), .val (.int p4), .val (.int v5), .val (.int v8), .val (.int v11), .val (.int v14), .val (.int v17), .val (.int v20), .unset, .unset, .unset] [(.int (((p4.toUInt32 >>> ((2 : Int32) &&& 31).toUInt32).toInt32) &&& (7 : Int32)))]))
  refine OwnR.of (fun _ hr => XS.istore X0.here hx rfl (hb hby at_84) rfl (l' := #[.val (.int p1), .val (.int p2), .val (.int p3), .val (.int p4), .val (.int v5), .val (.int v8), .val (.int v11), .val (.int v14), .val (.int v17), .val (.int v20), .val (.int (((p4.toUInt32 >>> ((2 : Int32) &&& 31).toUInt32).toInt32) &&& (7 : Int32))), .unset, .unset]) rfl hr) ?_
  show OwnR _ _ _ _ _ _ _ (s₁.setTop (mkF m 86 #[.val (.int p1), .val (.int p2), .val (.int p3), .val (.int p4), .val (.int v5), .val (.int v8), .val (.int v11), .val (.int v14), .val (.int v17), .val (.int v20), .val (.int (((p4.toUInt32 >>> ((2 : Int32) &&& 31).toUInt32).toInt32) &&& (7 : Int32))), .unset, .unset] []))
  obtain ⟨sel, hsel⟩ : ∃ z : Int32, z = (((p4.toUInt32 >>> ((2 : Int32) &&& 31).toUInt32).toInt32) &&& (7 : Int32)) := ⟨_, rfl⟩
  rw [← hsel]
  show OwnR _ _ _ _ _ _ _ (s₁.setTop (mkF m 86 #[.val (.int p1), .val (.int p2), .val (.int p3), .val (.int p4), .val (.int v5), .val (.int v8), .val (.int v11), .val (.int v14), .val (.int v17), .val (.int v20), .val (.int sel), .unset, .unset] []))
  refine OwnR.of (fun _ hr => XS.iload X0.here hx rfl (hb hby at_86) rfl hr) ?_
  show OwnR _ _ _ _ _ _ _ (s₁.setTop (mkF m 88 #[.val (.int p1), .val (.int p2), .val (.int p3), .val (.int p4), .val (.int v5), .val (.int v8), .val (.int v11), .val (.int v14), .val (.int v17), .val (.int v20), .val (.int sel), .unset, .unset] [(.int sel)]))
  refine OwnR.of (fun _ hr => XS.iconst X0.here hx rfl (hb hby at_88) hr) ?_
  show OwnR _ _ _ _ _ _ _ (s₁.setTop (mkF m 89 #[.val (.int p1), .val (.int p2), .val (.int p3), .val (.int p4), .val (.int v5), .val (.int v8), .val (.int v11), .val (.int v14), .val (.int v17), .val (.int v20), .val (.int sel), .unset, .unset] [(.int (5 : Int32)), (.int sel)]))
  by_cases hc89_23 : sel = (5 : Int32)
  · skip
    refine OwnR.of (fun _ hr => XS.icmpNo X0.here hx rfl (hb hby at_89) rfl (teq hc89_23).2 hr) ?_
    show OwnR _ _ _ _ _ _ _ (s₁.setTop (mkF m 92 #[.val (.int p1), .val (.int p2), .val (.int p3), .val (.int p4), .val (.int v5), .val (.int v8), .val (.int v11), .val (.int v14), .val (.int v17), .val (.int v20), .val (.int sel), .unset, .unset] []))
    refine OwnR.of (fun _ hr => XS.iconst X0.here hx rfl (hb hby at_92) hr) ?_
    show OwnR _ _ _ _ _ _ _ (s₁.setTop (mkF m 93 #[.val (.int p1), .val (.int p2), .val (.int p3), .val (.int p4), .val (.int v5), .val (.int v8), .val (.int v11), .val (.int v14), .val (.int v17), .val (.int v20), .val (.int sel), .unset, .unset] [(.int (2 : Int32))]))
    obtain ⟨T24, h24, k24, X24, e24, E24, A24, AE24, st24⟩ := newPE X0 hx hZ (hw _ (List.mem_of_getElem? (i := 0) rfl)) e0 (g := (mkF m 93 #[.val (.int p1), .val (.int p2), .val (.int p3), .val (.int p4), .val (.int v5), .val (.int v8), .val (.int v11), .val (.int v14), .val (.int v17), .val (.int v20), .val (.int sel), .unset, .unset] [(.int (2 : Int32))])) rfl (hb hby at_93) rfl (by decide) (cap := 2) (by decide) (by decide) (by decide) (by decide) (ad := "[I") rfl
    obtain ⟨b24, g24⟩ : ∃ z, z = h0.size := ⟨_, rfl⟩
    rw [← g24] at A24 AE24 st24
    refine OwnR.of (st24) ?_
    have gn_b24 : n0 ≤ b24 := Nat.le_trans (Nat.le_trans Z0 (Keep.refl h0 []).1) (Nat.le_of_eq g24.symm)
    have sz_b24 : h0.size ≤ b24 := Nat.le_trans (Keep.refl h0 []).1 (Nat.le_of_eq g24.symm)
    have K24 : Keep h0 h24 [] := Keep.ext (Keep.refl h0 []) E24
    have V24 : Arv Z h24 b24 k24 .int (2 : Int32) [(.int (0 : Int32)), (.int (0 : Int32))] (.int (0 : Int32)) := (Arv.new A24 (by decide)).pad (pad_rep [] (.int (0 : Int32)) 2)
    show OwnR _ _ _ _ _ _ _ (T24.setTop (mkF m 95 #[.val (.int p1), .val (.int p2), .val (.int p3), .val (.int p4), .val (.int v5), .val (.int v8), .val (.int v11), .val (.int v14), .val (.int v17), .val (.int v20), .val (.int sel), .unset, .unset] [(.ref b24)]))
    refine OwnR.of (fun _ hr => XS.astore X24.here hx rfl (hb hby at_95) rfl rfl (l' := #[.val (.int p1), .val (.int p2), .val (.int p3), .val (.int p4), .val (.int v5), .val (.int v8), .val (.int v11), .val (.int v14), .val (.int v17), .val (.int v20), .val (.int sel), .val (.ref b24), .unset]) rfl hr) ?_
    show OwnR _ _ _ _ _ _ _ (T24.setTop (mkF m 97 #[.val (.int p1), .val (.int p2), .val (.int p3), .val (.int p4), .val (.int v5), .val (.int v8), .val (.int v11), .val (.int v14), .val (.int v17), .val (.int v20), .val (.int sel), .val (.ref b24), .unset] []))
    refine OwnR.of (fun _ hr => XS.aload X24.here hx rfl (hb hby at_97) rfl rfl hr) ?_
    show OwnR _ _ _ _ _ _ _ (T24.setTop (mkF m 99 #[.val (.int p1), .val (.int p2), .val (.int p3), .val (.int p4), .val (.int v5), .val (.int v8), .val (.int v11), .val (.int v14), .val (.int v17), .val (.int v20), .val (.int sel), .val (.ref b24), .unset] [(.ref b24)]))
    refine OwnR.of (fun _ hr => XS.iconst X24.here hx rfl (hb hby at_99) hr) ?_
    show OwnR _ _ _ _ _ _ _ (T24.setTop (mkF m 100 #[.val (.int p1), .val (.int p2), .val (.int p3), .val (.int p4), .val (.int v5), .val (.int v8), .val (.int v11), .val (.int v14), .val (.int v17), .val (.int v20), .val (.int sel), .val (.ref b24), .unset] [(.int (0 : Int32)), (.ref b24)]))
    refine OwnR.of (fun _ hr => XS.iload X24.here hx rfl (hb hby at_100) rfl hr) ?_
    show OwnR _ _ _ _ _ _ _ (T24.setTop (mkF m 102 #[.val (.int p1), .val (.int p2), .val (.int p3), .val (.int p4), .val (.int v5), .val (.int v8), .val (.int v11), .val (.int v14), .val (.int v17), .val (.int v20), .val (.int sel), .val (.ref b24), .unset] [(.int v17), (.int (0 : Int32)), (.ref b24)]))
    obtain ⟨cl25, Ar25, q25, S25, N25q, H25, G25⟩ := id V24
    have hin25 : ¬ ((0 : Int32) < 0 ∨ cl25.slots.size ≤ ((0 : Int32)).toNatClampNeg) := (inb_of S25 ⟨by decide, by decide⟩)
    obtain ⟨T25, h25, X25, e25, W25, st25⟩ := stI X24 hx hZ e24 Ar25 (j := (0 : Int32)) hin25 (g := (mkF m 102 #[.val (.int p1), .val (.int p2), .val (.int p3), .val (.int p4), .val (.int v5), .val (.int v8), .val (.int v11), .val (.int v14), .val (.int v17), .val (.int v20), .val (.int sel), .val (.ref b24), .unset] [(.int v17), (.int (0 : Int32)), (.ref b24)])) rfl rfl (hb hby at_102)
    refine OwnR.of (st25) ?_
    have V25 := Arv.set Ar25 q25 S25 N25q H25 G25 rfl W25 0 rfl (Nat.le_of_ble_eq_true rfl)
    have V25 : Arv Z h25 b24 k24 .int (2 : Int32) [(.int v17), (.int (0 : Int32))] (.int (0 : Int32)) := V25
    have K25 : Keep h0 h25 [] := Keep.wr K24 W25 (Or.inr sz_b24)
    have N25 := Fr.snoc X25 N0 gn_b24
    show OwnR _ _ _ _ _ _ _ (T25.setTop (mkF m 103 #[.val (.int p1), .val (.int p2), .val (.int p3), .val (.int p4), .val (.int v5), .val (.int v8), .val (.int v11), .val (.int v14), .val (.int v17), .val (.int v20), .val (.int sel), .val (.ref b24), .unset] []))
    refine OwnR.of (fun _ hr => XS.aload X25.here hx rfl (hb hby at_103) rfl rfl hr) ?_
    show OwnR _ _ _ _ _ _ _ (T25.setTop (mkF m 105 #[.val (.int p1), .val (.int p2), .val (.int p3), .val (.int p4), .val (.int v5), .val (.int v8), .val (.int v11), .val (.int v14), .val (.int v17), .val (.int v20), .val (.int sel), .val (.ref b24), .unset] [(.ref b24)]))
    refine OwnR.of (fun _ hr => XS.iconst X25.here hx rfl (hb hby at_105) hr) ?_
    show OwnR _ _ _ _ _ _ _ (T25.setTop (mkF m 106 #[.val (.int p1), .val (.int p2), .val (.int p3), .val (.int p4), .val (.int v5), .val (.int v8), .val (.int v11), .val (.int v14), .val (.int v17), .val (.int v20), .val (.int sel), .val (.ref b24), .unset] [(.int (1 : Int32)), (.ref b24)]))
    refine OwnR.of (fun _ hr => XS.iloadN X25.here hx rfl (hb hby at_106) rfl hr) ?_
    show OwnR _ _ _ _ _ _ _ (T25.setTop (mkF m 107 #[.val (.int p1), .val (.int p2), .val (.int p3), .val (.int p4), .val (.int v5), .val (.int v8), .val (.int v11), .val (.int v14), .val (.int v17), .val (.int v20), .val (.int sel), .val (.ref b24), .unset] [(.int p1), (.int (1 : Int32)), (.ref b24)]))
    obtain ⟨cl26, Ar26, q26, S26, N26q, H26, G26⟩ := id V25
    have hin26 : ¬ ((1 : Int32) < 0 ∨ cl26.slots.size ≤ ((1 : Int32)).toNatClampNeg) := (inb_of S26 ⟨by decide, by decide⟩)
    obtain ⟨T26, h26, X26, e26, W26, st26⟩ := stI X25 hx hZ e25 Ar26 (j := (1 : Int32)) hin26 (g := (mkF m 107 #[.val (.int p1), .val (.int p2), .val (.int p3), .val (.int p4), .val (.int v5), .val (.int v8), .val (.int v11), .val (.int v14), .val (.int v17), .val (.int v20), .val (.int sel), .val (.ref b24), .unset] [(.int p1), (.int (1 : Int32)), (.ref b24)])) rfl rfl (hb hby at_107)
    refine OwnR.of (st26) ?_
    have V26 := Arv.set Ar26 q26 S26 N26q H26 G26 rfl W26 1 rfl (Nat.le_of_ble_eq_true rfl)
    have V26 : Arv Z h26 b24 k24 .int (2 : Int32) [(.int v17), (.int p1)] (.int (0 : Int32)) := V26
    have K26 : Keep h0 h26 [] := Keep.wr K25 W26 (Or.inr sz_b24)
    have N26 := Fr.snoc X26 N25 gn_b24
    show OwnR _ _ _ _ _ _ _ (T26.setTop (mkF m 108 #[.val (.int p1), .val (.int p2), .val (.int p3), .val (.int p4), .val (.int v5), .val (.int v8), .val (.int v11), .val (.int v14), .val (.int v17), .val (.int v20), .val (.int sel), .val (.ref b24), .unset] []))
    refine OwnR.of (fun _ hr => XS.iconst X26.here hx rfl (hb hby at_108) hr) ?_
    show OwnR _ _ _ _ _ _ _ (T26.setTop (mkF m 109 #[.val (.int p1), .val (.int p2), .val (.int p3), .val (.int p4), .val (.int v5), .val (.int v8), .val (.int v11), .val (.int v14), .val (.int v17), .val (.int v20), .val (.int sel), .val (.ref b24), .unset] [(.int (0 : Int32))]))
    refine OwnR.of (fun _ hr => XS.istore X26.here hx rfl (hb hby at_109) rfl (l' := #[.val (.int p1), .val (.int p2), .val (.int p3), .val (.int p4), .val (.int v5), .val (.int v8), .val (.int v11), .val (.int v14), .val (.int v17), .val (.int v20), .val (.int sel), .val (.ref b24), .val (.int (0 : Int32))]) rfl hr) ?_
    show OwnR _ _ _ _ _ _ _ (T26.setTop (mkF m 111 #[.val (.int p1), .val (.int p2), .val (.int p3), .val (.int p4), .val (.int v5), .val (.int v8), .val (.int v11), .val (.int v14), .val (.int v17), .val (.int v20), .val (.int sel), .val (.ref b24), .val (.int (0 : Int32))] []))
    refine OwnR.of (fun _ hr => XS.goto X26.here hx rfl (pc0 := 111) (pc' := 238) rfl (hb hby at_111) (by decide) (by decide) hr) ?_
    show OwnR _ _ _ _ _ _ _ (T26.setTop (mkF m 238 #[.val (.int p1), .val (.int p2), .val (.int p3), .val (.int p4), .val (.int v5), .val (.int v8), .val (.int v11), .val (.int v14), .val (.int v17), .val (.int v20), .val (.int sel), .val (.ref b24), .val (.int (0 : Int32))] []))
    refine OwnR.of (fun _ hr => XS.aload X26.here hx rfl (hb hby at_238) rfl rfl hr) ?_
    show OwnR _ _ _ _ _ _ _ (T26.setTop (mkF m 240 #[.val (.int p1), .val (.int p2), .val (.int p3), .val (.int p4), .val (.int v5), .val (.int v8), .val (.int v11), .val (.int v14), .val (.int v17), .val (.int v20), .val (.int sel), .val (.ref b24), .val (.int (0 : Int32))] [(.ref b24)]))
    obtain ⟨_, _, ⟨T27, L27, kc27, ns27⟩, -, X27, ⟨Lc27, hQ27, l27, y27, z27⟩, st27⟩ := Jvm.LawKit.callS X26 hx (y := (⟨"com/example/fast_taxonomy/fasttaxonomy/calculus/RoleHierarchy", "isTransitivity", "([I)Z"⟩ : MethodName)) hown (mvT hZ (hw _ (List.mem_of_getElem? (i := 1) rfl))) (mvT hZ (hw _ (List.mem_of_getElem? (i := 2) rfl))) (mvT hZ (hw _ (List.mem_of_getElem? (i := 3) rfl))) (mvT hZ (hw _ (List.mem_of_getElem? (i := 4) rfl))) (by decide) (backOf (W := 0) (rm1a l Z a0 hw [] b24 k24 (2 : Int32) ([(.int v17), (.int p1)]) (.int (0 : Int32)) h26 n0 (Nat.le_trans Z0 K26.1) V26 (by decide)) hZ (hw _ (List.mem_of_getElem? (i := 4) rfl)) (hw _ (List.mem_of_getElem? (i := 3) rfl)) (by decide) (by decide)) (g := (mkF m 240 #[.val (.int p1), .val (.int p2), .val (.int p3), .val (.int p4), .val (.int v5), .val (.int v8), .val (.int v11), .val (.int v14), .val (.int v17), .val (.int v20), .val (.int sel), .val (.ref b24), .val (.int (0 : Int32))] [(.ref b24)])) rfl (by rw [hml]; rfl) (argsL := [(.ref b24)]) (rest := []) (lenOf pd___I_Z rfl) rfl (by show 2 * 0 + _ ≤ _; exact Nat.le_of_eq rfl) (hb hby at_240) (fun _ _ => ⟨rfl, e26, (by decide : 1 + 0 ≤ _), (by decide : 2 + 0 ≤ _)⟩)
    dsimp only [Pt.U, Pt.locs, Pt.cells, Pt.slots] at X27 l27 y27 z27 st27 hQ27
    subst l27 y27 z27
    obtain ⟨rfl, N27q, e27⟩ := hQ27
    have N27 := Fr.app N26 N27q
    refine OwnR.of (st27) ?_
    show OwnR _ _ _ _ _ _ _ (T27.setTop (mkF m 243 #[.val (.int p1), .val (.int p2), .val (.int p3), .val (.int p4), .val (.int v5), .val (.int v8), .val (.int v11), .val (.int v14), .val (.int v17), .val (.int v20), .val (.int sel), .val (.ref b24), .val (.int (0 : Int32))] [(.int (0 : Int32))]))
    refine OwnR.of (fun _ hr => XS.iload X27.here hx rfl (hb hby at_243) rfl hr) ?_
    show OwnR _ _ _ _ _ _ _ (T27.setTop (mkF m 245 #[.val (.int p1), .val (.int p2), .val (.int p3), .val (.int p4), .val (.int v5), .val (.int v8), .val (.int v11), .val (.int v14), .val (.int v17), .val (.int v20), .val (.int sel), .val (.ref b24), .val (.int (0 : Int32))] [(.int (0 : Int32)), (.int (0 : Int32))]))
    refine OwnR.of (fun _ hr => XS.icmpNo X27.here hx rfl (hb hby at_245) rfl (teq (by decide : (0 : Int32) = (0 : Int32))).2 hr) ?_
    show OwnR _ _ _ _ _ _ _ (T27.setTop (mkF m 248 #[.val (.int p1), .val (.int p2), .val (.int p3), .val (.int p4), .val (.int v5), .val (.int v8), .val (.int v11), .val (.int v14), .val (.int v17), .val (.int v20), .val (.int sel), .val (.ref b24), .val (.int (0 : Int32))] []))
    refine OwnR.of (fun _ hr => XS.iconst X27.here hx rfl (hb hby at_248) hr) ?_
    show OwnR _ _ _ _ _ _ _ (T27.setTop (mkF m 249 #[.val (.int p1), .val (.int p2), .val (.int p3), .val (.int p4), .val (.int v5), .val (.int v8), .val (.int v11), .val (.int v14), .val (.int v17), .val (.int v20), .val (.int sel), .val (.ref b24), .val (.int (0 : Int32))] [(.int (1 : Int32))]))
    refine OwnR.of (fun _ hr => XS.goto X27.here hx rfl (pc0 := 249) (pc' := 253) rfl (hb hby at_249) (by decide) (by decide) hr) ?_
    show OwnR _ _ _ _ _ _ _ (T27.setTop (mkF m 253 #[.val (.int p1), .val (.int p2), .val (.int p3), .val (.int p4), .val (.int v5), .val (.int v8), .val (.int v11), .val (.int v14), .val (.int v17), .val (.int v20), .val (.int sel), .val (.ref b24), .val (.int (0 : Int32))] [(.int (1 : Int32))]))
    refine own_leafN X27 hx hlk (t := .boolean) Bd.returns (by simp) (hb hby at_253) (z' := (1 : Int32)) rfl (by decide) (by decide) ?_
    show Q0 Z  h0 n0 _ T27.heap _
    rw [show T27.heap = h26 from e27]
    refine ⟨?_, N27⟩
    show (some (.int (1 : Int32)) : Option Value) = some (.int (1 : Int32))
    rfl
  · skip
    refine OwnR.of (fun _ hr => XS.icmpYes X0.here hx rfl (pc0 := 89) (pc' := 114) rfl (hb hby at_89) rfl (feq hc89_23).2 (by decide) (by decide) hr) ?_
    show OwnR _ _ _ _ _ _ _ (s₁.setTop (mkF m 114 #[.val (.int p1), .val (.int p2), .val (.int p3), .val (.int p4), .val (.int v5), .val (.int v8), .val (.int v11), .val (.int v14), .val (.int v17), .val (.int v20), .val (.int sel), .unset, .unset] []))
    refine OwnR.of (fun _ hr => XS.iload X0.here hx rfl (hb hby at_114) rfl hr) ?_
    show OwnR _ _ _ _ _ _ _ (s₁.setTop (mkF m 116 #[.val (.int p1), .val (.int p2), .val (.int p3), .val (.int p4), .val (.int v5), .val (.int v8), .val (.int v11), .val (.int v14), .val (.int v17), .val (.int v20), .val (.int sel), .unset, .unset] [(.int sel)]))
    refine OwnR.of (fun _ hr => XS.bipush X0.here hx rfl (hb hby at_116) hr) ?_
    show OwnR _ _ _ _ _ _ _ (s₁.setTop (mkF m 118 #[.val (.int p1), .val (.int p2), .val (.int p3), .val (.int p4), .val (.int v5), .val (.int v8), .val (.int v11), .val (.int v14), .val (.int v17), .val (.int v20), .val (.int sel), .unset, .unset] [(.int (6 : Int32)), (.int sel)]))
    by_cases hc118_28 : sel = (6 : Int32)
    · skip
      refine OwnR.of (fun _ hr => XS.icmpNo X0.here hx rfl (hb hby at_118) rfl (teq hc118_28).2 hr) ?_
      show OwnR _ _ _ _ _ _ _ (s₁.setTop (mkF m 121 #[.val (.int p1), .val (.int p2), .val (.int p3), .val (.int p4), .val (.int v5), .val (.int v8), .val (.int v11), .val (.int v14), .val (.int v17), .val (.int v20), .val (.int sel), .unset, .unset] []))
      refine OwnR.of (fun _ hr => XS.iconst X0.here hx rfl (hb hby at_121) hr) ?_
      show OwnR _ _ _ _ _ _ _ (s₁.setTop (mkF m 122 #[.val (.int p1), .val (.int p2), .val (.int p3), .val (.int p4), .val (.int v5), .val (.int v8), .val (.int v11), .val (.int v14), .val (.int v17), .val (.int v20), .val (.int sel), .unset, .unset] [(.int (4 : Int32))]))
      obtain ⟨T29, h29, k29, X29, e29, E29, A29, AE29, st29⟩ := newPE X0 hx hZ (hw _ (List.mem_of_getElem? (i := 0) rfl)) e0 (g := (mkF m 122 #[.val (.int p1), .val (.int p2), .val (.int p3), .val (.int p4), .val (.int v5), .val (.int v8), .val (.int v11), .val (.int v14), .val (.int v17), .val (.int v20), .val (.int sel), .unset, .unset] [(.int (4 : Int32))])) rfl (hb hby at_122) rfl (by decide) (cap := 4) (by decide) (by decide) (by decide) (by decide) (ad := "[I") rfl
      obtain ⟨b29, g29⟩ : ∃ z, z = h0.size := ⟨_, rfl⟩
      rw [← g29] at A29 AE29 st29
      refine OwnR.of (st29) ?_
      have gn_b29 : n0 ≤ b29 := Nat.le_trans (Nat.le_trans Z0 (Keep.refl h0 []).1) (Nat.le_of_eq g29.symm)
      have sz_b29 : h0.size ≤ b29 := Nat.le_trans (Keep.refl h0 []).1 (Nat.le_of_eq g29.symm)
      have K29 : Keep h0 h29 [] := Keep.ext (Keep.refl h0 []) E29
      have V29 : Arv Z h29 b29 k29 .int (4 : Int32) [(.int (0 : Int32)), (.int (0 : Int32)), (.int (0 : Int32)), (.int (0 : Int32))] (.int (0 : Int32)) := (Arv.new A29 (by decide)).pad (pad_rep [] (.int (0 : Int32)) 4)
      show OwnR _ _ _ _ _ _ _ (T29.setTop (mkF m 124 #[.val (.int p1), .val (.int p2), .val (.int p3), .val (.int p4), .val (.int v5), .val (.int v8), .val (.int v11), .val (.int v14), .val (.int v17), .val (.int v20), .val (.int sel), .unset, .unset] [(.ref b29)]))
      refine OwnR.of (fun _ hr => XS.astore X29.here hx rfl (hb hby at_124) rfl rfl (l' := #[.val (.int p1), .val (.int p2), .val (.int p3), .val (.int p4), .val (.int v5), .val (.int v8), .val (.int v11), .val (.int v14), .val (.int v17), .val (.int v20), .val (.int sel), .val (.ref b29), .unset]) rfl hr) ?_
      show OwnR _ _ _ _ _ _ _ (T29.setTop (mkF m 126 #[.val (.int p1), .val (.int p2), .val (.int p3), .val (.int p4), .val (.int v5), .val (.int v8), .val (.int v11), .val (.int v14), .val (.int v17), .val (.int v20), .val (.int sel), .val (.ref b29), .unset] []))
      refine OwnR.of (fun _ hr => XS.aload X29.here hx rfl (hb hby at_126) rfl rfl hr) ?_
      show OwnR _ _ _ _ _ _ _ (T29.setTop (mkF m 128 #[.val (.int p1), .val (.int p2), .val (.int p3), .val (.int p4), .val (.int v5), .val (.int v8), .val (.int v11), .val (.int v14), .val (.int v17), .val (.int v20), .val (.int sel), .val (.ref b29), .unset] [(.ref b29)]))
      refine OwnR.of (fun _ hr => XS.iconst X29.here hx rfl (hb hby at_128) hr) ?_
      show OwnR _ _ _ _ _ _ _ (T29.setTop (mkF m 129 #[.val (.int p1), .val (.int p2), .val (.int p3), .val (.int p4), .val (.int v5), .val (.int v8), .val (.int v11), .val (.int v14), .val (.int v17), .val (.int v20), .val (.int sel), .val (.ref b29), .unset] [(.int (0 : Int32)), (.ref b29)]))
      refine OwnR.of (fun _ hr => XS.iload X29.here hx rfl (hb hby at_129) rfl hr) ?_
      show OwnR _ _ _ _ _ _ _ (T29.setTop (mkF m 131 #[.val (.int p1), .val (.int p2), .val (.int p3), .val (.int p4), .val (.int v5), .val (.int v8), .val (.int v11), .val (.int v14), .val (.int v17), .val (.int v20), .val (.int sel), .val (.ref b29), .unset] [(.int v17), (.int (0 : Int32)), (.ref b29)]))
      obtain ⟨cl30, Ar30, q30, S30, N30q, H30, G30⟩ := id V29
      have hin30 : ¬ ((0 : Int32) < 0 ∨ cl30.slots.size ≤ ((0 : Int32)).toNatClampNeg) := (inb_of S30 ⟨by decide, by decide⟩)
      obtain ⟨T30, h30, X30, e30, W30, st30⟩ := stI X29 hx hZ e29 Ar30 (j := (0 : Int32)) hin30 (g := (mkF m 131 #[.val (.int p1), .val (.int p2), .val (.int p3), .val (.int p4), .val (.int v5), .val (.int v8), .val (.int v11), .val (.int v14), .val (.int v17), .val (.int v20), .val (.int sel), .val (.ref b29), .unset] [(.int v17), (.int (0 : Int32)), (.ref b29)])) rfl rfl (hb hby at_131)
      refine OwnR.of (st30) ?_
      have V30 := Arv.set Ar30 q30 S30 N30q H30 G30 rfl W30 0 rfl (Nat.le_of_ble_eq_true rfl)
      have V30 : Arv Z h30 b29 k29 .int (4 : Int32) [(.int v17), (.int (0 : Int32)), (.int (0 : Int32)), (.int (0 : Int32))] (.int (0 : Int32)) := V30
      have K30 : Keep h0 h30 [] := Keep.wr K29 W30 (Or.inr sz_b29)
      have N30 := Fr.snoc X30 N0 gn_b29
      show OwnR _ _ _ _ _ _ _ (T30.setTop (mkF m 132 #[.val (.int p1), .val (.int p2), .val (.int p3), .val (.int p4), .val (.int v5), .val (.int v8), .val (.int v11), .val (.int v14), .val (.int v17), .val (.int v20), .val (.int sel), .val (.ref b29), .unset] []))
      refine OwnR.of (fun _ hr => XS.aload X30.here hx rfl (hb hby at_132) rfl rfl hr) ?_
      show OwnR _ _ _ _ _ _ _ (T30.setTop (mkF m 134 #[.val (.int p1), .val (.int p2), .val (.int p3), .val (.int p4), .val (.int v5), .val (.int v8), .val (.int v11), .val (.int v14), .val (.int v17), .val (.int v20), .val (.int sel), .val (.ref b29), .unset] [(.ref b29)]))
      refine OwnR.of (fun _ hr => XS.iconst X30.here hx rfl (hb hby at_134) hr) ?_
      show OwnR _ _ _ _ _ _ _ (T30.setTop (mkF m 135 #[.val (.int p1), .val (.int p2), .val (.int p3), .val (.int p4), .val (.int v5), .val (.int v8), .val (.int v11), .val (.int v14), .val (.int v17), .val (.int v20), .val (.int sel), .val (.ref b29), .unset] [(.int (1 : Int32)), (.ref b29)]))
      refine OwnR.of (fun _ hr => XS.iload X30.here hx rfl (hb hby at_135) rfl hr) ?_
      show OwnR _ _ _ _ _ _ _ (T30.setTop (mkF m 137 #[.val (.int p1), .val (.int p2), .val (.int p3), .val (.int p4), .val (.int v5), .val (.int v8), .val (.int v11), .val (.int v14), .val (.int v17), .val (.int v20), .val (.int sel), .val (.ref b29), .unset] [(.int v20), (.int (1 : Int32)), (.ref b29)]))
      obtain ⟨cl31, Ar31, q31, S31, N31q, H31, G31⟩ := id V30
      have hin31 : ¬ ((1 : Int32) < 0 ∨ cl31.slots.size ≤ ((1 : Int32)).toNatClampNeg) := (inb_of S31 ⟨by decide, by decide⟩)
      obtain ⟨T31, h31, X31, e31, W31, st31⟩ := stI X30 hx hZ e30 Ar31 (j := (1 : Int32)) hin31 (g := (mkF m 137 #[.val (.int p1), .val (.int p2), .val (.int p3), .val (.int p4), .val (.int v5), .val (.int v8), .val (.int v11), .val (.int v14), .val (.int v17), .val (.int v20), .val (.int sel), .val (.ref b29), .unset] [(.int v20), (.int (1 : Int32)), (.ref b29)])) rfl rfl (hb hby at_137)
      refine OwnR.of (st31) ?_
      have V31 := Arv.set Ar31 q31 S31 N31q H31 G31 rfl W31 1 rfl (Nat.le_of_ble_eq_true rfl)
      have V31 : Arv Z h31 b29 k29 .int (4 : Int32) [(.int v17), (.int v20), (.int (0 : Int32)), (.int (0 : Int32))] (.int (0 : Int32)) := V31
      have K31 : Keep h0 h31 [] := Keep.wr K30 W31 (Or.inr sz_b29)
      have N31 := Fr.snoc X31 N30 gn_b29
      show OwnR _ _ _ _ _ _ _ (T31.setTop (mkF m 138 #[.val (.int p1), .val (.int p2), .val (.int p3), .val (.int p4), .val (.int v5), .val (.int v8), .val (.int v11), .val (.int v14), .val (.int v17), .val (.int v20), .val (.int sel), .val (.ref b29), .unset] []))
      refine OwnR.of (fun _ hr => XS.aload X31.here hx rfl (hb hby at_138) rfl rfl hr) ?_
      show OwnR _ _ _ _ _ _ _ (T31.setTop (mkF m 140 #[.val (.int p1), .val (.int p2), .val (.int p3), .val (.int p4), .val (.int v5), .val (.int v8), .val (.int v11), .val (.int v14), .val (.int v17), .val (.int v20), .val (.int sel), .val (.ref b29), .unset] [(.ref b29)]))
      refine OwnR.of (fun _ hr => XS.iconst X31.here hx rfl (hb hby at_140) hr) ?_
      show OwnR _ _ _ _ _ _ _ (T31.setTop (mkF m 141 #[.val (.int p1), .val (.int p2), .val (.int p3), .val (.int p4), .val (.int v5), .val (.int v8), .val (.int v11), .val (.int v14), .val (.int v17), .val (.int v20), .val (.int sel), .val (.ref b29), .unset] [(.int (2 : Int32)), (.ref b29)]))
      refine OwnR.of (fun _ hr => XS.iloadN X31.here hx rfl (hb hby at_141) rfl hr) ?_
      show OwnR _ _ _ _ _ _ _ (T31.setTop (mkF m 142 #[.val (.int p1), .val (.int p2), .val (.int p3), .val (.int p4), .val (.int v5), .val (.int v8), .val (.int v11), .val (.int v14), .val (.int v17), .val (.int v20), .val (.int sel), .val (.ref b29), .unset] [(.int p1), (.int (2 : Int32)), (.ref b29)]))
      obtain ⟨cl32, Ar32, q32, S32, N32q, H32, G32⟩ := id V31
      have hin32 : ¬ ((2 : Int32) < 0 ∨ cl32.slots.size ≤ ((2 : Int32)).toNatClampNeg) := (inb_of S32 ⟨by decide, by decide⟩)
      obtain ⟨T32, h32, X32, e32, W32, st32⟩ := stI X31 hx hZ e31 Ar32 (j := (2 : Int32)) hin32 (g := (mkF m 142 #[.val (.int p1), .val (.int p2), .val (.int p3), .val (.int p4), .val (.int v5), .val (.int v8), .val (.int v11), .val (.int v14), .val (.int v17), .val (.int v20), .val (.int sel), .val (.ref b29), .unset] [(.int p1), (.int (2 : Int32)), (.ref b29)])) rfl rfl (hb hby at_142)
      refine OwnR.of (st32) ?_
      have V32 := Arv.set Ar32 q32 S32 N32q H32 G32 rfl W32 2 rfl (Nat.le_of_ble_eq_true rfl)
      have V32 : Arv Z h32 b29 k29 .int (4 : Int32) [(.int v17), (.int v20), (.int p1), (.int (0 : Int32))] (.int (0 : Int32)) := V32
      have K32 : Keep h0 h32 [] := Keep.wr K31 W32 (Or.inr sz_b29)
      have N32 := Fr.snoc X32 N31 gn_b29
      show OwnR _ _ _ _ _ _ _ (T32.setTop (mkF m 143 #[.val (.int p1), .val (.int p2), .val (.int p3), .val (.int p4), .val (.int v5), .val (.int v8), .val (.int v11), .val (.int v14), .val (.int v17), .val (.int v20), .val (.int sel), .val (.ref b29), .unset] []))
      refine OwnR.of (fun _ hr => XS.aload X32.here hx rfl (hb hby at_143) rfl rfl hr) ?_
      show OwnR _ _ _ _ _ _ _ (T32.setTop (mkF m 145 #[.val (.int p1), .val (.int p2), .val (.int p3), .val (.int p4), .val (.int v5), .val (.int v8), .val (.int v11), .val (.int v14), .val (.int v17), .val (.int v20), .val (.int sel), .val (.ref b29), .unset] [(.ref b29)]))
      refine OwnR.of (fun _ hr => XS.iconst X32.here hx rfl (hb hby at_145) hr) ?_
      show OwnR _ _ _ _ _ _ _ (T32.setTop (mkF m 146 #[.val (.int p1), .val (.int p2), .val (.int p3), .val (.int p4), .val (.int v5), .val (.int v8), .val (.int v11), .val (.int v14), .val (.int v17), .val (.int v20), .val (.int sel), .val (.ref b29), .unset] [(.int (3 : Int32)), (.ref b29)]))
      refine OwnR.of (fun _ hr => XS.iloadN X32.here hx rfl (hb hby at_146) rfl hr) ?_
      show OwnR _ _ _ _ _ _ _ (T32.setTop (mkF m 147 #[.val (.int p1), .val (.int p2), .val (.int p3), .val (.int p4), .val (.int v5), .val (.int v8), .val (.int v11), .val (.int v14), .val (.int v17), .val (.int v20), .val (.int sel), .val (.ref b29), .unset] [(.int p1), (.int (3 : Int32)), (.ref b29)]))
      obtain ⟨cl33, Ar33, q33, S33, N33q, H33, G33⟩ := id V32
      have hin33 : ¬ ((3 : Int32) < 0 ∨ cl33.slots.size ≤ ((3 : Int32)).toNatClampNeg) := (inb_of S33 ⟨by decide, by decide⟩)
      obtain ⟨T33, h33, X33, e33, W33, st33⟩ := stI X32 hx hZ e32 Ar33 (j := (3 : Int32)) hin33 (g := (mkF m 147 #[.val (.int p1), .val (.int p2), .val (.int p3), .val (.int p4), .val (.int v5), .val (.int v8), .val (.int v11), .val (.int v14), .val (.int v17), .val (.int v20), .val (.int sel), .val (.ref b29), .unset] [(.int p1), (.int (3 : Int32)), (.ref b29)])) rfl rfl (hb hby at_147)
      refine OwnR.of (st33) ?_
      have V33 := Arv.set Ar33 q33 S33 N33q H33 G33 rfl W33 3 rfl (Nat.le_of_ble_eq_true rfl)
      have V33 : Arv Z h33 b29 k29 .int (4 : Int32) [(.int v17), (.int v20), (.int p1), (.int p1)] (.int (0 : Int32)) := V33
      have K33 : Keep h0 h33 [] := Keep.wr K32 W33 (Or.inr sz_b29)
      have N33 := Fr.snoc X33 N32 gn_b29
      show OwnR _ _ _ _ _ _ _ (T33.setTop (mkF m 148 #[.val (.int p1), .val (.int p2), .val (.int p3), .val (.int p4), .val (.int v5), .val (.int v8), .val (.int v11), .val (.int v14), .val (.int v17), .val (.int v20), .val (.int sel), .val (.ref b29), .unset] []))
      refine OwnR.of (fun _ hr => XS.iconst X33.here hx rfl (hb hby at_148) hr) ?_
      show OwnR _ _ _ _ _ _ _ (T33.setTop (mkF m 149 #[.val (.int p1), .val (.int p2), .val (.int p3), .val (.int p4), .val (.int v5), .val (.int v8), .val (.int v11), .val (.int v14), .val (.int v17), .val (.int v20), .val (.int sel), .val (.ref b29), .unset] [(.int (0 : Int32))]))
      refine OwnR.of (fun _ hr => XS.istore X33.here hx rfl (hb hby at_149) rfl (l' := #[.val (.int p1), .val (.int p2), .val (.int p3), .val (.int p4), .val (.int v5), .val (.int v8), .val (.int v11), .val (.int v14), .val (.int v17), .val (.int v20), .val (.int sel), .val (.ref b29), .val (.int (0 : Int32))]) rfl hr) ?_
      show OwnR _ _ _ _ _ _ _ (T33.setTop (mkF m 151 #[.val (.int p1), .val (.int p2), .val (.int p3), .val (.int p4), .val (.int v5), .val (.int v8), .val (.int v11), .val (.int v14), .val (.int v17), .val (.int v20), .val (.int sel), .val (.ref b29), .val (.int (0 : Int32))] []))
      refine OwnR.of (fun _ hr => XS.goto X33.here hx rfl (pc0 := 151) (pc' := 238) rfl (hb hby at_151) (by decide) (by decide) hr) ?_
      show OwnR _ _ _ _ _ _ _ (T33.setTop (mkF m 238 #[.val (.int p1), .val (.int p2), .val (.int p3), .val (.int p4), .val (.int v5), .val (.int v8), .val (.int v11), .val (.int v14), .val (.int v17), .val (.int v20), .val (.int sel), .val (.ref b29), .val (.int (0 : Int32))] []))
      refine OwnR.of (fun _ hr => XS.aload X33.here hx rfl (hb hby at_238) rfl rfl hr) ?_
      show OwnR _ _ _ _ _ _ _ (T33.setTop (mkF m 240 #[.val (.int p1), .val (.int p2), .val (.int p3), .val (.int p4), .val (.int v5), .val (.int v8), .val (.int v11), .val (.int v14), .val (.int v17), .val (.int v20), .val (.int sel), .val (.ref b29), .val (.int (0 : Int32))] [(.ref b29)]))
      obtain ⟨_, _, ⟨T34, L34, kc34, ns34⟩, -, X34, ⟨Lc34, hQ34, l34, y34, z34⟩, st34⟩ := Jvm.LawKit.callS X33 hx (y := (⟨"com/example/fast_taxonomy/fasttaxonomy/calculus/RoleHierarchy", "isTransitivity", "([I)Z"⟩ : MethodName)) hown (mvT hZ (hw _ (List.mem_of_getElem? (i := 1) rfl))) (mvT hZ (hw _ (List.mem_of_getElem? (i := 2) rfl))) (mvT hZ (hw _ (List.mem_of_getElem? (i := 3) rfl))) (mvT hZ (hw _ (List.mem_of_getElem? (i := 4) rfl))) (by decide) (backOf (W := 0) (rm1a l Z a0 hw [] b29 k29 (4 : Int32) ([(.int v17), (.int v20), (.int p1), (.int p1)]) (.int (0 : Int32)) h33 n0 (Nat.le_trans Z0 K33.1) V33 (by decide)) hZ (hw _ (List.mem_of_getElem? (i := 4) rfl)) (hw _ (List.mem_of_getElem? (i := 3) rfl)) (by decide) (by decide)) (g := (mkF m 240 #[.val (.int p1), .val (.int p2), .val (.int p3), .val (.int p4), .val (.int v5), .val (.int v8), .val (.int v11), .val (.int v14), .val (.int v17), .val (.int v20), .val (.int sel), .val (.ref b29), .val (.int (0 : Int32))] [(.ref b29)])) rfl (by rw [hml]; rfl) (argsL := [(.ref b29)]) (rest := []) (lenOf pd___I_Z rfl) rfl (by show 2 * 0 + _ ≤ _; exact Nat.le_of_eq rfl) (hb hby at_240) (fun _ _ => ⟨rfl, e33, (by decide : 1 + 0 ≤ _), (by decide : 4 + 0 ≤ _)⟩)
      dsimp only [Pt.U, Pt.locs, Pt.cells, Pt.slots] at X34 l34 y34 z34 st34 hQ34
      subst l34 y34 z34
      obtain ⟨rfl, N34q, e34⟩ := hQ34
      have N34 := Fr.app N33 N34q
      refine OwnR.of (st34) ?_
      show OwnR _ _ _ _ _ _ _ (T34.setTop (mkF m 243 #[.val (.int p1), .val (.int p2), .val (.int p3), .val (.int p4), .val (.int v5), .val (.int v8), .val (.int v11), .val (.int v14), .val (.int v17), .val (.int v20), .val (.int sel), .val (.ref b29), .val (.int (0 : Int32))] [(.int (0 : Int32))]))
      refine OwnR.of (fun _ hr => XS.iload X34.here hx rfl (hb hby at_243) rfl hr) ?_
      show OwnR _ _ _ _ _ _ _ (T34.setTop (mkF m 245 #[.val (.int p1), .val (.int p2), .val (.int p3), .val (.int p4), .val (.int v5), .val (.int v8), .val (.int v11), .val (.int v14), .val (.int v17), .val (.int v20), .val (.int sel), .val (.ref b29), .val (.int (0 : Int32))] [(.int (0 : Int32)), (.int (0 : Int32))]))
      refine OwnR.of (fun _ hr => XS.icmpNo X34.here hx rfl (hb hby at_245) rfl (teq (by decide : (0 : Int32) = (0 : Int32))).2 hr) ?_
      show OwnR _ _ _ _ _ _ _ (T34.setTop (mkF m 248 #[.val (.int p1), .val (.int p2), .val (.int p3), .val (.int p4), .val (.int v5), .val (.int v8), .val (.int v11), .val (.int v14), .val (.int v17), .val (.int v20), .val (.int sel), .val (.ref b29), .val (.int (0 : Int32))] []))
      refine OwnR.of (fun _ hr => XS.iconst X34.here hx rfl (hb hby at_248) hr) ?_
      show OwnR _ _ _ _ _ _ _ (T34.setTop (mkF m 249 #[.val (.int p1), .val (.int p2), .val (.int p3), .val (.int p4), .val (.int v5), .val (.int v8), .val (.int v11), .val (.int v14), .val (.int v17), .val (.int v20), .val (.int sel), .val (.ref b29), .val (.int (0 : Int32))] [(.int (1 : Int32))]))
      refine OwnR.of (fun _ hr => XS.goto X34.here hx rfl (pc0 := 249) (pc' := 253) rfl (hb hby at_249) (by decide) (by decide) hr) ?_
      show OwnR _ _ _ _ _ _ _ (T34.setTop (mkF m 253 #[.val (.int p1), .val (.int p2), .val (.int p3), .val (.int p4), .val (.int v5), .val (.int v8), .val (.int v11), .val (.int v14), .val (.int v17), .val (.int v20), .val (.int sel), .val (.ref b29), .val (.int (0 : Int32))] [(.int (1 : Int32))]))
      refine own_leafN X34 hx hlk (t := .boolean) Bd.returns (by simp) (hb hby at_253) (z' := (1 : Int32)) rfl (by decide) (by decide) ?_
      show Q0 Z  h0 n0 _ T34.heap _
      rw [show T34.heap = h33 from e34]
      refine ⟨?_, N34⟩
      show (some (.int (1 : Int32)) : Option Value) = some (.int (1 : Int32))
      rfl
    · skip
      refine OwnR.of (fun _ hr => XS.icmpYes X0.here hx rfl (pc0 := 118) (pc' := 154) rfl (hb hby at_118) rfl (feq hc118_28).2 (by decide) (by decide) hr) ?_
      show OwnR _ _ _ _ _ _ _ (s₁.setTop (mkF m 154 #[.val (.int p1), .val (.int p2), .val (.int p3), .val (.int p4), .val (.int v5), .val (.int v8), .val (.int v11), .val (.int v14), .val (.int v17), .val (.int v20), .val (.int sel), .unset, .unset] []))
      refine OwnR.of (fun _ hr => XS.iload X0.here hx rfl (hb hby at_154) rfl hr) ?_
      show OwnR _ _ _ _ _ _ _ (s₁.setTop (mkF m 156 #[.val (.int p1), .val (.int p2), .val (.int p3), .val (.int p4), .val (.int v5), .val (.int v8), .val (.int v11), .val (.int v14), .val (.int v17), .val (.int v20), .val (.int sel), .unset, .unset] [(.int sel)]))
      refine OwnR.of (fun _ hr => XS.bipush X0.here hx rfl (hb hby at_156) hr) ?_
      show OwnR _ _ _ _ _ _ _ (s₁.setTop (mkF m 158 #[.val (.int p1), .val (.int p2), .val (.int p3), .val (.int p4), .val (.int v5), .val (.int v8), .val (.int v11), .val (.int v14), .val (.int v17), .val (.int v20), .val (.int sel), .unset, .unset] [(.int (7 : Int32)), (.int sel)]))
      by_cases hc158_35 : sel = (7 : Int32)
      · skip
        refine OwnR.of (fun _ hr => XS.icmpNo X0.here hx rfl (hb hby at_158) rfl (teq hc158_35).2 hr) ?_
        show OwnR _ _ _ _ _ _ _ (s₁.setTop (mkF m 161 #[.val (.int p1), .val (.int p2), .val (.int p3), .val (.int p4), .val (.int v5), .val (.int v8), .val (.int v11), .val (.int v14), .val (.int v17), .val (.int v20), .val (.int sel), .unset, .unset] []))
        refine OwnR.of (fun _ hr => XS.iconst X0.here hx rfl (hb hby at_161) hr) ?_
        show OwnR _ _ _ _ _ _ _ (s₁.setTop (mkF m 162 #[.val (.int p1), .val (.int p2), .val (.int p3), .val (.int p4), .val (.int v5), .val (.int v8), .val (.int v11), .val (.int v14), .val (.int v17), .val (.int v20), .val (.int sel), .unset, .unset] [(.int (5 : Int32))]))
        obtain ⟨T36, h36, k36, X36, e36, E36, A36, AE36, st36⟩ := newPE X0 hx hZ (hw _ (List.mem_of_getElem? (i := 0) rfl)) e0 (g := (mkF m 162 #[.val (.int p1), .val (.int p2), .val (.int p3), .val (.int p4), .val (.int v5), .val (.int v8), .val (.int v11), .val (.int v14), .val (.int v17), .val (.int v20), .val (.int sel), .unset, .unset] [(.int (5 : Int32))])) rfl (hb hby at_162) rfl (by decide) (cap := 5) (by decide) (by decide) (by decide) (by decide) (ad := "[I") rfl
        obtain ⟨b36, g36⟩ : ∃ z, z = h0.size := ⟨_, rfl⟩
        rw [← g36] at A36 AE36 st36
        refine OwnR.of (st36) ?_
        have gn_b36 : n0 ≤ b36 := Nat.le_trans (Nat.le_trans Z0 (Keep.refl h0 []).1) (Nat.le_of_eq g36.symm)
        have sz_b36 : h0.size ≤ b36 := Nat.le_trans (Keep.refl h0 []).1 (Nat.le_of_eq g36.symm)
        have K36 : Keep h0 h36 [] := Keep.ext (Keep.refl h0 []) E36
        have V36 : Arv Z h36 b36 k36 .int (5 : Int32) [(.int (0 : Int32)), (.int (0 : Int32)), (.int (0 : Int32)), (.int (0 : Int32)), (.int (0 : Int32))] (.int (0 : Int32)) := (Arv.new A36 (by decide)).pad (pad_rep [] (.int (0 : Int32)) 5)
        show OwnR _ _ _ _ _ _ _ (T36.setTop (mkF m 164 #[.val (.int p1), .val (.int p2), .val (.int p3), .val (.int p4), .val (.int v5), .val (.int v8), .val (.int v11), .val (.int v14), .val (.int v17), .val (.int v20), .val (.int sel), .unset, .unset] [(.ref b36)]))
        refine OwnR.of (fun _ hr => XS.astore X36.here hx rfl (hb hby at_164) rfl rfl (l' := #[.val (.int p1), .val (.int p2), .val (.int p3), .val (.int p4), .val (.int v5), .val (.int v8), .val (.int v11), .val (.int v14), .val (.int v17), .val (.int v20), .val (.int sel), .val (.ref b36), .unset]) rfl hr) ?_
        show OwnR _ _ _ _ _ _ _ (T36.setTop (mkF m 166 #[.val (.int p1), .val (.int p2), .val (.int p3), .val (.int p4), .val (.int v5), .val (.int v8), .val (.int v11), .val (.int v14), .val (.int v17), .val (.int v20), .val (.int sel), .val (.ref b36), .unset] []))
        refine OwnR.of (fun _ hr => XS.aload X36.here hx rfl (hb hby at_166) rfl rfl hr) ?_
        show OwnR _ _ _ _ _ _ _ (T36.setTop (mkF m 168 #[.val (.int p1), .val (.int p2), .val (.int p3), .val (.int p4), .val (.int v5), .val (.int v8), .val (.int v11), .val (.int v14), .val (.int v17), .val (.int v20), .val (.int sel), .val (.ref b36), .unset] [(.ref b36)]))
        refine OwnR.of (fun _ hr => XS.iconst X36.here hx rfl (hb hby at_168) hr) ?_
        show OwnR _ _ _ _ _ _ _ (T36.setTop (mkF m 169 #[.val (.int p1), .val (.int p2), .val (.int p3), .val (.int p4), .val (.int v5), .val (.int v8), .val (.int v11), .val (.int v14), .val (.int v17), .val (.int v20), .val (.int sel), .val (.ref b36), .unset] [(.int (0 : Int32)), (.ref b36)]))
        refine OwnR.of (fun _ hr => XS.iload X36.here hx rfl (hb hby at_169) rfl hr) ?_
        show OwnR _ _ _ _ _ _ _ (T36.setTop (mkF m 171 #[.val (.int p1), .val (.int p2), .val (.int p3), .val (.int p4), .val (.int v5), .val (.int v8), .val (.int v11), .val (.int v14), .val (.int v17), .val (.int v20), .val (.int sel), .val (.ref b36), .unset] [(.int v17), (.int (0 : Int32)), (.ref b36)]))
        obtain ⟨cl37, Ar37, q37, S37, N37q, H37, G37⟩ := id V36
        have hin37 : ¬ ((0 : Int32) < 0 ∨ cl37.slots.size ≤ ((0 : Int32)).toNatClampNeg) := (inb_of S37 ⟨by decide, by decide⟩)
        obtain ⟨T37, h37, X37, e37, W37, st37⟩ := stI X36 hx hZ e36 Ar37 (j := (0 : Int32)) hin37 (g := (mkF m 171 #[.val (.int p1), .val (.int p2), .val (.int p3), .val (.int p4), .val (.int v5), .val (.int v8), .val (.int v11), .val (.int v14), .val (.int v17), .val (.int v20), .val (.int sel), .val (.ref b36), .unset] [(.int v17), (.int (0 : Int32)), (.ref b36)])) rfl rfl (hb hby at_171)
        refine OwnR.of (st37) ?_
        have V37 := Arv.set Ar37 q37 S37 N37q H37 G37 rfl W37 0 rfl (Nat.le_of_ble_eq_true rfl)
        have V37 : Arv Z h37 b36 k36 .int (5 : Int32) [(.int v17), (.int (0 : Int32)), (.int (0 : Int32)), (.int (0 : Int32)), (.int (0 : Int32))] (.int (0 : Int32)) := V37
        have K37 : Keep h0 h37 [] := Keep.wr K36 W37 (Or.inr sz_b36)
        have N37 := Fr.snoc X37 N0 gn_b36
        show OwnR _ _ _ _ _ _ _ (T37.setTop (mkF m 172 #[.val (.int p1), .val (.int p2), .val (.int p3), .val (.int p4), .val (.int v5), .val (.int v8), .val (.int v11), .val (.int v14), .val (.int v17), .val (.int v20), .val (.int sel), .val (.ref b36), .unset] []))
        refine OwnR.of (fun _ hr => XS.aload X37.here hx rfl (hb hby at_172) rfl rfl hr) ?_
        show OwnR _ _ _ _ _ _ _ (T37.setTop (mkF m 174 #[.val (.int p1), .val (.int p2), .val (.int p3), .val (.int p4), .val (.int v5), .val (.int v8), .val (.int v11), .val (.int v14), .val (.int v17), .val (.int v20), .val (.int sel), .val (.ref b36), .unset] [(.ref b36)]))
        refine OwnR.of (fun _ hr => XS.iconst X37.here hx rfl (hb hby at_174) hr) ?_
        show OwnR _ _ _ _ _ _ _ (T37.setTop (mkF m 175 #[.val (.int p1), .val (.int p2), .val (.int p3), .val (.int p4), .val (.int v5), .val (.int v8), .val (.int v11), .val (.int v14), .val (.int v17), .val (.int v20), .val (.int sel), .val (.ref b36), .unset] [(.int (1 : Int32)), (.ref b36)]))
        refine OwnR.of (fun _ hr => XS.iload X37.here hx rfl (hb hby at_175) rfl hr) ?_
        show OwnR _ _ _ _ _ _ _ (T37.setTop (mkF m 177 #[.val (.int p1), .val (.int p2), .val (.int p3), .val (.int p4), .val (.int v5), .val (.int v8), .val (.int v11), .val (.int v14), .val (.int v17), .val (.int v20), .val (.int sel), .val (.ref b36), .unset] [(.int v20), (.int (1 : Int32)), (.ref b36)]))
        obtain ⟨cl38, Ar38, q38, S38, N38q, H38, G38⟩ := id V37
        have hin38 : ¬ ((1 : Int32) < 0 ∨ cl38.slots.size ≤ ((1 : Int32)).toNatClampNeg) := (inb_of S38 ⟨by decide, by decide⟩)
        obtain ⟨T38, h38, X38, e38, W38, st38⟩ := stI X37 hx hZ e37 Ar38 (j := (1 : Int32)) hin38 (g := (mkF m 177 #[.val (.int p1), .val (.int p2), .val (.int p3), .val (.int p4), .val (.int v5), .val (.int v8), .val (.int v11), .val (.int v14), .val (.int v17), .val (.int v20), .val (.int sel), .val (.ref b36), .unset] [(.int v20), (.int (1 : Int32)), (.ref b36)])) rfl rfl (hb hby at_177)
        refine OwnR.of (st38) ?_
        have V38 := Arv.set Ar38 q38 S38 N38q H38 G38 rfl W38 1 rfl (Nat.le_of_ble_eq_true rfl)
        have V38 : Arv Z h38 b36 k36 .int (5 : Int32) [(.int v17), (.int v20), (.int (0 : Int32)), (.int (0 : Int32)), (.int (0 : Int32))] (.int (0 : Int32)) := V38
        have K38 : Keep h0 h38 [] := Keep.wr K37 W38 (Or.inr sz_b36)
        have N38 := Fr.snoc X38 N37 gn_b36
        show OwnR _ _ _ _ _ _ _ (T38.setTop (mkF m 178 #[.val (.int p1), .val (.int p2), .val (.int p3), .val (.int p4), .val (.int v5), .val (.int v8), .val (.int v11), .val (.int v14), .val (.int v17), .val (.int v20), .val (.int sel), .val (.ref b36), .unset] []))
        refine OwnR.of (fun _ hr => XS.aload X38.here hx rfl (hb hby at_178) rfl rfl hr) ?_
        show OwnR _ _ _ _ _ _ _ (T38.setTop (mkF m 180 #[.val (.int p1), .val (.int p2), .val (.int p3), .val (.int p4), .val (.int v5), .val (.int v8), .val (.int v11), .val (.int v14), .val (.int v17), .val (.int v20), .val (.int sel), .val (.ref b36), .unset] [(.ref b36)]))
        refine OwnR.of (fun _ hr => XS.iconst X38.here hx rfl (hb hby at_180) hr) ?_
        show OwnR _ _ _ _ _ _ _ (T38.setTop (mkF m 181 #[.val (.int p1), .val (.int p2), .val (.int p3), .val (.int p4), .val (.int v5), .val (.int v8), .val (.int v11), .val (.int v14), .val (.int v17), .val (.int v20), .val (.int sel), .val (.ref b36), .unset] [(.int (2 : Int32)), (.ref b36)]))
        refine OwnR.of (fun _ hr => XS.iloadN X38.here hx rfl (hb hby at_181) rfl hr) ?_
        show OwnR _ _ _ _ _ _ _ (T38.setTop (mkF m 182 #[.val (.int p1), .val (.int p2), .val (.int p3), .val (.int p4), .val (.int v5), .val (.int v8), .val (.int v11), .val (.int v14), .val (.int v17), .val (.int v20), .val (.int sel), .val (.ref b36), .unset] [(.int p1), (.int (2 : Int32)), (.ref b36)]))
        obtain ⟨cl39, Ar39, q39, S39, N39q, H39, G39⟩ := id V38
        have hin39 : ¬ ((2 : Int32) < 0 ∨ cl39.slots.size ≤ ((2 : Int32)).toNatClampNeg) := (inb_of S39 ⟨by decide, by decide⟩)
        obtain ⟨T39, h39, X39, e39, W39, st39⟩ := stI X38 hx hZ e38 Ar39 (j := (2 : Int32)) hin39 (g := (mkF m 182 #[.val (.int p1), .val (.int p2), .val (.int p3), .val (.int p4), .val (.int v5), .val (.int v8), .val (.int v11), .val (.int v14), .val (.int v17), .val (.int v20), .val (.int sel), .val (.ref b36), .unset] [(.int p1), (.int (2 : Int32)), (.ref b36)])) rfl rfl (hb hby at_182)
        refine OwnR.of (st39) ?_
        have V39 := Arv.set Ar39 q39 S39 N39q H39 G39 rfl W39 2 rfl (Nat.le_of_ble_eq_true rfl)
        have V39 : Arv Z h39 b36 k36 .int (5 : Int32) [(.int v17), (.int v20), (.int p1), (.int (0 : Int32)), (.int (0 : Int32))] (.int (0 : Int32)) := V39
        have K39 : Keep h0 h39 [] := Keep.wr K38 W39 (Or.inr sz_b36)
        have N39 := Fr.snoc X39 N38 gn_b36
        show OwnR _ _ _ _ _ _ _ (T39.setTop (mkF m 183 #[.val (.int p1), .val (.int p2), .val (.int p3), .val (.int p4), .val (.int v5), .val (.int v8), .val (.int v11), .val (.int v14), .val (.int v17), .val (.int v20), .val (.int sel), .val (.ref b36), .unset] []))
        refine OwnR.of (fun _ hr => XS.aload X39.here hx rfl (hb hby at_183) rfl rfl hr) ?_
        show OwnR _ _ _ _ _ _ _ (T39.setTop (mkF m 185 #[.val (.int p1), .val (.int p2), .val (.int p3), .val (.int p4), .val (.int v5), .val (.int v8), .val (.int v11), .val (.int v14), .val (.int v17), .val (.int v20), .val (.int sel), .val (.ref b36), .unset] [(.ref b36)]))
        refine OwnR.of (fun _ hr => XS.iconst X39.here hx rfl (hb hby at_185) hr) ?_
        show OwnR _ _ _ _ _ _ _ (T39.setTop (mkF m 186 #[.val (.int p1), .val (.int p2), .val (.int p3), .val (.int p4), .val (.int v5), .val (.int v8), .val (.int v11), .val (.int v14), .val (.int v17), .val (.int v20), .val (.int sel), .val (.ref b36), .unset] [(.int (3 : Int32)), (.ref b36)]))
        refine OwnR.of (fun _ hr => XS.iloadN X39.here hx rfl (hb hby at_186) rfl hr) ?_
        show OwnR _ _ _ _ _ _ _ (T39.setTop (mkF m 187 #[.val (.int p1), .val (.int p2), .val (.int p3), .val (.int p4), .val (.int v5), .val (.int v8), .val (.int v11), .val (.int v14), .val (.int v17), .val (.int v20), .val (.int sel), .val (.ref b36), .unset] [(.int p1), (.int (3 : Int32)), (.ref b36)]))
        obtain ⟨cl40, Ar40, q40, S40, N40q, H40, G40⟩ := id V39
        have hin40 : ¬ ((3 : Int32) < 0 ∨ cl40.slots.size ≤ ((3 : Int32)).toNatClampNeg) := (inb_of S40 ⟨by decide, by decide⟩)
        obtain ⟨T40, h40, X40, e40, W40, st40⟩ := stI X39 hx hZ e39 Ar40 (j := (3 : Int32)) hin40 (g := (mkF m 187 #[.val (.int p1), .val (.int p2), .val (.int p3), .val (.int p4), .val (.int v5), .val (.int v8), .val (.int v11), .val (.int v14), .val (.int v17), .val (.int v20), .val (.int sel), .val (.ref b36), .unset] [(.int p1), (.int (3 : Int32)), (.ref b36)])) rfl rfl (hb hby at_187)
        refine OwnR.of (st40) ?_
        have V40 := Arv.set Ar40 q40 S40 N40q H40 G40 rfl W40 3 rfl (Nat.le_of_ble_eq_true rfl)
        have V40 : Arv Z h40 b36 k36 .int (5 : Int32) [(.int v17), (.int v20), (.int p1), (.int p1), (.int (0 : Int32))] (.int (0 : Int32)) := V40
        have K40 : Keep h0 h40 [] := Keep.wr K39 W40 (Or.inr sz_b36)
        have N40 := Fr.snoc X40 N39 gn_b36
        show OwnR _ _ _ _ _ _ _ (T40.setTop (mkF m 188 #[.val (.int p1), .val (.int p2), .val (.int p3), .val (.int p4), .val (.int v5), .val (.int v8), .val (.int v11), .val (.int v14), .val (.int v17), .val (.int v20), .val (.int sel), .val (.ref b36), .unset] []))
        refine OwnR.of (fun _ hr => XS.aload X40.here hx rfl (hb hby at_188) rfl rfl hr) ?_
        show OwnR _ _ _ _ _ _ _ (T40.setTop (mkF m 190 #[.val (.int p1), .val (.int p2), .val (.int p3), .val (.int p4), .val (.int v5), .val (.int v8), .val (.int v11), .val (.int v14), .val (.int v17), .val (.int v20), .val (.int sel), .val (.ref b36), .unset] [(.ref b36)]))
        refine OwnR.of (fun _ hr => XS.iconst X40.here hx rfl (hb hby at_190) hr) ?_
        show OwnR _ _ _ _ _ _ _ (T40.setTop (mkF m 191 #[.val (.int p1), .val (.int p2), .val (.int p3), .val (.int p4), .val (.int v5), .val (.int v8), .val (.int v11), .val (.int v14), .val (.int v17), .val (.int v20), .val (.int sel), .val (.ref b36), .unset] [(.int (4 : Int32)), (.ref b36)]))
        refine OwnR.of (fun _ hr => XS.iloadN X40.here hx rfl (hb hby at_191) rfl hr) ?_
        show OwnR _ _ _ _ _ _ _ (T40.setTop (mkF m 192 #[.val (.int p1), .val (.int p2), .val (.int p3), .val (.int p4), .val (.int v5), .val (.int v8), .val (.int v11), .val (.int v14), .val (.int v17), .val (.int v20), .val (.int sel), .val (.ref b36), .unset] [(.int p1), (.int (4 : Int32)), (.ref b36)]))
        obtain ⟨cl41, Ar41, q41, S41, N41q, H41, G41⟩ := id V40
        have hin41 : ¬ ((4 : Int32) < 0 ∨ cl41.slots.size ≤ ((4 : Int32)).toNatClampNeg) := (inb_of S41 ⟨by decide, by decide⟩)
        obtain ⟨T41, h41, X41, e41, W41, st41⟩ := stI X40 hx hZ e40 Ar41 (j := (4 : Int32)) hin41 (g := (mkF m 192 #[.val (.int p1), .val (.int p2), .val (.int p3), .val (.int p4), .val (.int v5), .val (.int v8), .val (.int v11), .val (.int v14), .val (.int v17), .val (.int v20), .val (.int sel), .val (.ref b36), .unset] [(.int p1), (.int (4 : Int32)), (.ref b36)])) rfl rfl (hb hby at_192)
        refine OwnR.of (st41) ?_
        have V41 := Arv.set Ar41 q41 S41 N41q H41 G41 rfl W41 4 rfl (Nat.le_of_ble_eq_true rfl)
        have V41 : Arv Z h41 b36 k36 .int (5 : Int32) [(.int v17), (.int v20), (.int p1), (.int p1), (.int p1)] (.int (0 : Int32)) := V41
        have K41 : Keep h0 h41 [] := Keep.wr K40 W41 (Or.inr sz_b36)
        have N41 := Fr.snoc X41 N40 gn_b36
        show OwnR _ _ _ _ _ _ _ (T41.setTop (mkF m 193 #[.val (.int p1), .val (.int p2), .val (.int p3), .val (.int p4), .val (.int v5), .val (.int v8), .val (.int v11), .val (.int v14), .val (.int v17), .val (.int v20), .val (.int sel), .val (.ref b36), .unset] []))
        refine OwnR.of (fun _ hr => XS.iconst X41.here hx rfl (hb hby at_193) hr) ?_
        show OwnR _ _ _ _ _ _ _ (T41.setTop (mkF m 194 #[.val (.int p1), .val (.int p2), .val (.int p3), .val (.int p4), .val (.int v5), .val (.int v8), .val (.int v11), .val (.int v14), .val (.int v17), .val (.int v20), .val (.int sel), .val (.ref b36), .unset] [(.int (0 : Int32))]))
        refine OwnR.of (fun _ hr => XS.istore X41.here hx rfl (hb hby at_194) rfl (l' := #[.val (.int p1), .val (.int p2), .val (.int p3), .val (.int p4), .val (.int v5), .val (.int v8), .val (.int v11), .val (.int v14), .val (.int v17), .val (.int v20), .val (.int sel), .val (.ref b36), .val (.int (0 : Int32))]) rfl hr) ?_
        show OwnR _ _ _ _ _ _ _ (T41.setTop (mkF m 196 #[.val (.int p1), .val (.int p2), .val (.int p3), .val (.int p4), .val (.int v5), .val (.int v8), .val (.int v11), .val (.int v14), .val (.int v17), .val (.int v20), .val (.int sel), .val (.ref b36), .val (.int (0 : Int32))] []))
        refine OwnR.of (fun _ hr => XS.goto X41.here hx rfl (pc0 := 196) (pc' := 238) rfl (hb hby at_196) (by decide) (by decide) hr) ?_
        show OwnR _ _ _ _ _ _ _ (T41.setTop (mkF m 238 #[.val (.int p1), .val (.int p2), .val (.int p3), .val (.int p4), .val (.int v5), .val (.int v8), .val (.int v11), .val (.int v14), .val (.int v17), .val (.int v20), .val (.int sel), .val (.ref b36), .val (.int (0 : Int32))] []))
        refine OwnR.of (fun _ hr => XS.aload X41.here hx rfl (hb hby at_238) rfl rfl hr) ?_
        show OwnR _ _ _ _ _ _ _ (T41.setTop (mkF m 240 #[.val (.int p1), .val (.int p2), .val (.int p3), .val (.int p4), .val (.int v5), .val (.int v8), .val (.int v11), .val (.int v14), .val (.int v17), .val (.int v20), .val (.int sel), .val (.ref b36), .val (.int (0 : Int32))] [(.ref b36)]))
        obtain ⟨_, _, ⟨T42, L42, kc42, ns42⟩, -, X42, ⟨Lc42, hQ42, l42, y42, z42⟩, st42⟩ := Jvm.LawKit.callS X41 hx (y := (⟨"com/example/fast_taxonomy/fasttaxonomy/calculus/RoleHierarchy", "isTransitivity", "([I)Z"⟩ : MethodName)) hown (mvT hZ (hw _ (List.mem_of_getElem? (i := 1) rfl))) (mvT hZ (hw _ (List.mem_of_getElem? (i := 2) rfl))) (mvT hZ (hw _ (List.mem_of_getElem? (i := 3) rfl))) (mvT hZ (hw _ (List.mem_of_getElem? (i := 4) rfl))) (by decide) (backOf (W := 0) (rm1a l Z a0 hw [] b36 k36 (5 : Int32) ([(.int v17), (.int v20), (.int p1), (.int p1), (.int p1)]) (.int (0 : Int32)) h41 n0 (Nat.le_trans Z0 K41.1) V41 (by decide)) hZ (hw _ (List.mem_of_getElem? (i := 4) rfl)) (hw _ (List.mem_of_getElem? (i := 3) rfl)) (by decide) (by decide)) (g := (mkF m 240 #[.val (.int p1), .val (.int p2), .val (.int p3), .val (.int p4), .val (.int v5), .val (.int v8), .val (.int v11), .val (.int v14), .val (.int v17), .val (.int v20), .val (.int sel), .val (.ref b36), .val (.int (0 : Int32))] [(.ref b36)])) rfl (by rw [hml]; rfl) (argsL := [(.ref b36)]) (rest := []) (lenOf pd___I_Z rfl) rfl (by show 2 * 0 + _ ≤ _; exact Nat.le_of_eq rfl) (hb hby at_240) (fun _ _ => ⟨rfl, e41, (by decide : 1 + 0 ≤ _), (by decide : 5 + 0 ≤ _)⟩)
        dsimp only [Pt.U, Pt.locs, Pt.cells, Pt.slots] at X42 l42 y42 z42 st42 hQ42
        subst l42 y42 z42
        obtain ⟨rfl, N42q, e42⟩ := hQ42
        have N42 := Fr.app N41 N42q
        refine OwnR.of (st42) ?_
        show OwnR _ _ _ _ _ _ _ (T42.setTop (mkF m 243 #[.val (.int p1), .val (.int p2), .val (.int p3), .val (.int p4), .val (.int v5), .val (.int v8), .val (.int v11), .val (.int v14), .val (.int v17), .val (.int v20), .val (.int sel), .val (.ref b36), .val (.int (0 : Int32))] [(.int (0 : Int32))]))
        refine OwnR.of (fun _ hr => XS.iload X42.here hx rfl (hb hby at_243) rfl hr) ?_
        show OwnR _ _ _ _ _ _ _ (T42.setTop (mkF m 245 #[.val (.int p1), .val (.int p2), .val (.int p3), .val (.int p4), .val (.int v5), .val (.int v8), .val (.int v11), .val (.int v14), .val (.int v17), .val (.int v20), .val (.int sel), .val (.ref b36), .val (.int (0 : Int32))] [(.int (0 : Int32)), (.int (0 : Int32))]))
        refine OwnR.of (fun _ hr => XS.icmpNo X42.here hx rfl (hb hby at_245) rfl (teq (by decide : (0 : Int32) = (0 : Int32))).2 hr) ?_
        show OwnR _ _ _ _ _ _ _ (T42.setTop (mkF m 248 #[.val (.int p1), .val (.int p2), .val (.int p3), .val (.int p4), .val (.int v5), .val (.int v8), .val (.int v11), .val (.int v14), .val (.int v17), .val (.int v20), .val (.int sel), .val (.ref b36), .val (.int (0 : Int32))] []))
        refine OwnR.of (fun _ hr => XS.iconst X42.here hx rfl (hb hby at_248) hr) ?_
        show OwnR _ _ _ _ _ _ _ (T42.setTop (mkF m 249 #[.val (.int p1), .val (.int p2), .val (.int p3), .val (.int p4), .val (.int v5), .val (.int v8), .val (.int v11), .val (.int v14), .val (.int v17), .val (.int v20), .val (.int sel), .val (.ref b36), .val (.int (0 : Int32))] [(.int (1 : Int32))]))
        refine OwnR.of (fun _ hr => XS.goto X42.here hx rfl (pc0 := 249) (pc' := 253) rfl (hb hby at_249) (by decide) (by decide) hr) ?_
        show OwnR _ _ _ _ _ _ _ (T42.setTop (mkF m 253 #[.val (.int p1), .val (.int p2), .val (.int p3), .val (.int p4), .val (.int v5), .val (.int v8), .val (.int v11), .val (.int v14), .val (.int v17), .val (.int v20), .val (.int sel), .val (.ref b36), .val (.int (0 : Int32))] [(.int (1 : Int32))]))
        refine own_leafN X42 hx hlk (t := .boolean) Bd.returns (by simp) (hb hby at_253) (z' := (1 : Int32)) rfl (by decide) (by decide) ?_
        show Q0 Z  h0 n0 _ T42.heap _
        rw [show T42.heap = h41 from e42]
        refine ⟨?_, N42⟩
        show (some (.int (1 : Int32)) : Option Value) = some (.int (1 : Int32))
        rfl
      · skip
        refine OwnR.of (fun _ hr => XS.icmpYes X0.here hx rfl (pc0 := 158) (pc' := 199) rfl (hb hby at_158) rfl (feq hc158_35).2 (by decide) (by decide) hr) ?_
        show OwnR _ _ _ _ _ _ _ (s₁.setTop (mkF m 199 #[.val (.int p1), .val (.int p2), .val (.int p3), .val (.int p4), .val (.int v5), .val (.int v8), .val (.int v11), .val (.int v14), .val (.int v17), .val (.int v20), .val (.int sel), .unset, .unset] []))
        refine OwnR.of (fun _ hr => XS.iconst X0.here hx rfl (hb hby at_199) hr) ?_
        show OwnR _ _ _ _ _ _ _ (s₁.setTop (mkF m 200 #[.val (.int p1), .val (.int p2), .val (.int p3), .val (.int p4), .val (.int v5), .val (.int v8), .val (.int v11), .val (.int v14), .val (.int v17), .val (.int v20), .val (.int sel), .unset, .unset] [(.int (3 : Int32))]))
        obtain ⟨T43, h43, k43, X43, e43, E43, A43, AE43, st43⟩ := newPE X0 hx hZ (hw _ (List.mem_of_getElem? (i := 0) rfl)) e0 (g := (mkF m 200 #[.val (.int p1), .val (.int p2), .val (.int p3), .val (.int p4), .val (.int v5), .val (.int v8), .val (.int v11), .val (.int v14), .val (.int v17), .val (.int v20), .val (.int sel), .unset, .unset] [(.int (3 : Int32))])) rfl (hb hby at_200) rfl (by decide) (cap := 3) (by decide) (by decide) (by decide) (by decide) (ad := "[I") rfl
        obtain ⟨b43, g43⟩ : ∃ z, z = h0.size := ⟨_, rfl⟩
        rw [← g43] at A43 AE43 st43
        refine OwnR.of (st43) ?_
        have gn_b43 : n0 ≤ b43 := Nat.le_trans (Nat.le_trans Z0 (Keep.refl h0 []).1) (Nat.le_of_eq g43.symm)
        have sz_b43 : h0.size ≤ b43 := Nat.le_trans (Keep.refl h0 []).1 (Nat.le_of_eq g43.symm)
        have K43 : Keep h0 h43 [] := Keep.ext (Keep.refl h0 []) E43
        have V43 : Arv Z h43 b43 k43 .int (3 : Int32) [(.int (0 : Int32)), (.int (0 : Int32)), (.int (0 : Int32))] (.int (0 : Int32)) := (Arv.new A43 (by decide)).pad (pad_rep [] (.int (0 : Int32)) 3)
        show OwnR _ _ _ _ _ _ _ (T43.setTop (mkF m 202 #[.val (.int p1), .val (.int p2), .val (.int p3), .val (.int p4), .val (.int v5), .val (.int v8), .val (.int v11), .val (.int v14), .val (.int v17), .val (.int v20), .val (.int sel), .unset, .unset] [(.ref b43)]))
        refine OwnR.of (fun _ hr => XS.astore X43.here hx rfl (hb hby at_202) rfl rfl (l' := #[.val (.int p1), .val (.int p2), .val (.int p3), .val (.int p4), .val (.int v5), .val (.int v8), .val (.int v11), .val (.int v14), .val (.int v17), .val (.int v20), .val (.int sel), .val (.ref b43), .unset]) rfl hr) ?_
        show OwnR _ _ _ _ _ _ _ (T43.setTop (mkF m 204 #[.val (.int p1), .val (.int p2), .val (.int p3), .val (.int p4), .val (.int v5), .val (.int v8), .val (.int v11), .val (.int v14), .val (.int v17), .val (.int v20), .val (.int sel), .val (.ref b43), .unset] []))
        refine OwnR.of (fun _ hr => XS.aload X43.here hx rfl (hb hby at_204) rfl rfl hr) ?_
        show OwnR _ _ _ _ _ _ _ (T43.setTop (mkF m 206 #[.val (.int p1), .val (.int p2), .val (.int p3), .val (.int p4), .val (.int v5), .val (.int v8), .val (.int v11), .val (.int v14), .val (.int v17), .val (.int v20), .val (.int sel), .val (.ref b43), .unset] [(.ref b43)]))
        refine OwnR.of (fun _ hr => XS.iconst X43.here hx rfl (hb hby at_206) hr) ?_
        show OwnR _ _ _ _ _ _ _ (T43.setTop (mkF m 207 #[.val (.int p1), .val (.int p2), .val (.int p3), .val (.int p4), .val (.int v5), .val (.int v8), .val (.int v11), .val (.int v14), .val (.int v17), .val (.int v20), .val (.int sel), .val (.ref b43), .unset] [(.int (0 : Int32)), (.ref b43)]))
        refine OwnR.of (fun _ hr => XS.iload X43.here hx rfl (hb hby at_207) rfl hr) ?_
        show OwnR _ _ _ _ _ _ _ (T43.setTop (mkF m 209 #[.val (.int p1), .val (.int p2), .val (.int p3), .val (.int p4), .val (.int v5), .val (.int v8), .val (.int v11), .val (.int v14), .val (.int v17), .val (.int v20), .val (.int sel), .val (.ref b43), .unset] [(.int v17), (.int (0 : Int32)), (.ref b43)]))
        obtain ⟨cl44, Ar44, q44, S44, N44q, H44, G44⟩ := id V43
        have hin44 : ¬ ((0 : Int32) < 0 ∨ cl44.slots.size ≤ ((0 : Int32)).toNatClampNeg) := (inb_of S44 ⟨by decide, by decide⟩)
        obtain ⟨T44, h44, X44, e44, W44, st44⟩ := stI X43 hx hZ e43 Ar44 (j := (0 : Int32)) hin44 (g := (mkF m 209 #[.val (.int p1), .val (.int p2), .val (.int p3), .val (.int p4), .val (.int v5), .val (.int v8), .val (.int v11), .val (.int v14), .val (.int v17), .val (.int v20), .val (.int sel), .val (.ref b43), .unset] [(.int v17), (.int (0 : Int32)), (.ref b43)])) rfl rfl (hb hby at_209)
        refine OwnR.of (st44) ?_
        have V44 := Arv.set Ar44 q44 S44 N44q H44 G44 rfl W44 0 rfl (Nat.le_of_ble_eq_true rfl)
        have V44 : Arv Z h44 b43 k43 .int (3 : Int32) [(.int v17), (.int (0 : Int32)), (.int (0 : Int32))] (.int (0 : Int32)) := V44
        have K44 : Keep h0 h44 [] := Keep.wr K43 W44 (Or.inr sz_b43)
        have N44 := Fr.snoc X44 N0 gn_b43
        show OwnR _ _ _ _ _ _ _ (T44.setTop (mkF m 210 #[.val (.int p1), .val (.int p2), .val (.int p3), .val (.int p4), .val (.int v5), .val (.int v8), .val (.int v11), .val (.int v14), .val (.int v17), .val (.int v20), .val (.int sel), .val (.ref b43), .unset] []))
        refine OwnR.of (fun _ hr => XS.aload X44.here hx rfl (hb hby at_210) rfl rfl hr) ?_
        show OwnR _ _ _ _ _ _ _ (T44.setTop (mkF m 212 #[.val (.int p1), .val (.int p2), .val (.int p3), .val (.int p4), .val (.int v5), .val (.int v8), .val (.int v11), .val (.int v14), .val (.int v17), .val (.int v20), .val (.int sel), .val (.ref b43), .unset] [(.ref b43)]))
        refine OwnR.of (fun _ hr => XS.iconst X44.here hx rfl (hb hby at_212) hr) ?_
        show OwnR _ _ _ _ _ _ _ (T44.setTop (mkF m 213 #[.val (.int p1), .val (.int p2), .val (.int p3), .val (.int p4), .val (.int v5), .val (.int v8), .val (.int v11), .val (.int v14), .val (.int v17), .val (.int v20), .val (.int sel), .val (.ref b43), .unset] [(.int (1 : Int32)), (.ref b43)]))
        refine OwnR.of (fun _ hr => XS.iload X44.here hx rfl (hb hby at_213) rfl hr) ?_
        show OwnR _ _ _ _ _ _ _ (T44.setTop (mkF m 215 #[.val (.int p1), .val (.int p2), .val (.int p3), .val (.int p4), .val (.int v5), .val (.int v8), .val (.int v11), .val (.int v14), .val (.int v17), .val (.int v20), .val (.int sel), .val (.ref b43), .unset] [(.int v20), (.int (1 : Int32)), (.ref b43)]))
        obtain ⟨cl45, Ar45, q45, S45, N45q, H45, G45⟩ := id V44
        have hin45 : ¬ ((1 : Int32) < 0 ∨ cl45.slots.size ≤ ((1 : Int32)).toNatClampNeg) := (inb_of S45 ⟨by decide, by decide⟩)
        obtain ⟨T45, h45, X45, e45, W45, st45⟩ := stI X44 hx hZ e44 Ar45 (j := (1 : Int32)) hin45 (g := (mkF m 215 #[.val (.int p1), .val (.int p2), .val (.int p3), .val (.int p4), .val (.int v5), .val (.int v8), .val (.int v11), .val (.int v14), .val (.int v17), .val (.int v20), .val (.int sel), .val (.ref b43), .unset] [(.int v20), (.int (1 : Int32)), (.ref b43)])) rfl rfl (hb hby at_215)
        refine OwnR.of (st45) ?_
        have V45 := Arv.set Ar45 q45 S45 N45q H45 G45 rfl W45 1 rfl (Nat.le_of_ble_eq_true rfl)
        have V45 : Arv Z h45 b43 k43 .int (3 : Int32) [(.int v17), (.int v20), (.int (0 : Int32))] (.int (0 : Int32)) := V45
        have K45 : Keep h0 h45 [] := Keep.wr K44 W45 (Or.inr sz_b43)
        have N45 := Fr.snoc X45 N44 gn_b43
        show OwnR _ _ _ _ _ _ _ (T45.setTop (mkF m 216 #[.val (.int p1), .val (.int p2), .val (.int p3), .val (.int p4), .val (.int v5), .val (.int v8), .val (.int v11), .val (.int v14), .val (.int v17), .val (.int v20), .val (.int sel), .val (.ref b43), .unset] []))
        refine OwnR.of (fun _ hr => XS.aload X45.here hx rfl (hb hby at_216) rfl rfl hr) ?_
        show OwnR _ _ _ _ _ _ _ (T45.setTop (mkF m 218 #[.val (.int p1), .val (.int p2), .val (.int p3), .val (.int p4), .val (.int v5), .val (.int v8), .val (.int v11), .val (.int v14), .val (.int v17), .val (.int v20), .val (.int sel), .val (.ref b43), .unset] [(.ref b43)]))
        refine OwnR.of (fun _ hr => XS.iconst X45.here hx rfl (hb hby at_218) hr) ?_
        show OwnR _ _ _ _ _ _ _ (T45.setTop (mkF m 219 #[.val (.int p1), .val (.int p2), .val (.int p3), .val (.int p4), .val (.int v5), .val (.int v8), .val (.int v11), .val (.int v14), .val (.int v17), .val (.int v20), .val (.int sel), .val (.ref b43), .unset] [(.int (2 : Int32)), (.ref b43)]))
        refine OwnR.of (fun _ hr => XS.iloadN X45.here hx rfl (hb hby at_219) rfl hr) ?_
        show OwnR _ _ _ _ _ _ _ (T45.setTop (mkF m 220 #[.val (.int p1), .val (.int p2), .val (.int p3), .val (.int p4), .val (.int v5), .val (.int v8), .val (.int v11), .val (.int v14), .val (.int v17), .val (.int v20), .val (.int sel), .val (.ref b43), .unset] [(.int p1), (.int (2 : Int32)), (.ref b43)]))
        obtain ⟨cl46, Ar46, q46, S46, N46q, H46, G46⟩ := id V45
        have hin46 : ¬ ((2 : Int32) < 0 ∨ cl46.slots.size ≤ ((2 : Int32)).toNatClampNeg) := (inb_of S46 ⟨by decide, by decide⟩)
        obtain ⟨T46, h46, X46, e46, W46, st46⟩ := stI X45 hx hZ e45 Ar46 (j := (2 : Int32)) hin46 (g := (mkF m 220 #[.val (.int p1), .val (.int p2), .val (.int p3), .val (.int p4), .val (.int v5), .val (.int v8), .val (.int v11), .val (.int v14), .val (.int v17), .val (.int v20), .val (.int sel), .val (.ref b43), .unset] [(.int p1), (.int (2 : Int32)), (.ref b43)])) rfl rfl (hb hby at_220)
        refine OwnR.of (st46) ?_
        have V46 := Arv.set Ar46 q46 S46 N46q H46 G46 rfl W46 2 rfl (Nat.le_of_ble_eq_true rfl)
        have V46 : Arv Z h46 b43 k43 .int (3 : Int32) [(.int v17), (.int v20), (.int p1)] (.int (0 : Int32)) := V46
        have K46 : Keep h0 h46 [] := Keep.wr K45 W46 (Or.inr sz_b43)
        have N46 := Fr.snoc X46 N45 gn_b43
        show OwnR _ _ _ _ _ _ _ (T46.setTop (mkF m 221 #[.val (.int p1), .val (.int p2), .val (.int p3), .val (.int p4), .val (.int v5), .val (.int v8), .val (.int v11), .val (.int v14), .val (.int v17), .val (.int v20), .val (.int sel), .val (.ref b43), .unset] []))
        refine OwnR.of (fun _ hr => XS.iload X46.here hx rfl (hb hby at_221) rfl hr) ?_
        show OwnR _ _ _ _ _ _ _ (T46.setTop (mkF m 223 #[.val (.int p1), .val (.int p2), .val (.int p3), .val (.int p4), .val (.int v5), .val (.int v8), .val (.int v11), .val (.int v14), .val (.int v17), .val (.int v20), .val (.int sel), .val (.ref b43), .unset] [(.int v11)]))
        obtain ⟨v47, hv47⟩ : ∃ z : Int32, z = (if v11 = (0 : Int32) then (if v14 = (0 : Int32) then (1 : Int32) else (0 : Int32)) else (0 : Int32)) := ⟨_, rfl⟩
        suffices J236_48 : OwnR p e below s (Q0 Z  h0 n0) 16 128 (T46.setTop (mkF m 236 #[.val (.int p1), .val (.int p2), .val (.int p3), .val (.int p4), .val (.int v5), .val (.int v8), .val (.int v11), .val (.int v14), .val (.int v17), .val (.int v20), .val (.int sel), .val (.ref b43), .unset] [(.int v47)])) by
          by_cases hc223_49 : v11 = (0 : Int32)
          · skip
            refine OwnR.of (fun _ hr => XS.ifNo X46.here hx rfl (hb hby at_223) rfl ((if0 _ _).trans (teq hc223_49).2) hr) ?_
            show OwnR _ _ _ _ _ _ _ (T46.setTop (mkF m 226 #[.val (.int p1), .val (.int p2), .val (.int p3), .val (.int p4), .val (.int v5), .val (.int v8), .val (.int v11), .val (.int v14), .val (.int v17), .val (.int v20), .val (.int sel), .val (.ref b43), .unset] []))
            refine OwnR.of (fun _ hr => XS.iload X46.here hx rfl (hb hby at_226) rfl hr) ?_
            show OwnR _ _ _ _ _ _ _ (T46.setTop (mkF m 228 #[.val (.int p1), .val (.int p2), .val (.int p3), .val (.int p4), .val (.int v5), .val (.int v8), .val (.int v11), .val (.int v14), .val (.int v17), .val (.int v20), .val (.int sel), .val (.ref b43), .unset] [(.int v14)]))
            by_cases hc228_50 : v14 = (0 : Int32)
            · skip
              refine OwnR.of (fun _ hr => XS.ifNo X46.here hx rfl (hb hby at_228) rfl ((if0 _ _).trans (teq hc228_50).2) hr) ?_
              show OwnR _ _ _ _ _ _ _ (T46.setTop (mkF m 231 #[.val (.int p1), .val (.int p2), .val (.int p3), .val (.int p4), .val (.int v5), .val (.int v8), .val (.int v11), .val (.int v14), .val (.int v17), .val (.int v20), .val (.int sel), .val (.ref b43), .unset] []))
              refine OwnR.of (fun _ hr => XS.iconst X46.here hx rfl (hb hby at_231) hr) ?_
              show OwnR _ _ _ _ _ _ _ (T46.setTop (mkF m 232 #[.val (.int p1), .val (.int p2), .val (.int p3), .val (.int p4), .val (.int v5), .val (.int v8), .val (.int v11), .val (.int v14), .val (.int v17), .val (.int v20), .val (.int sel), .val (.ref b43), .unset] [(.int (1 : Int32))]))
              refine OwnR.of (fun _ hr => XS.goto X46.here hx rfl (pc0 := 232) (pc' := 236) rfl (hb hby at_232) (by decide) (by decide) hr) ?_
              show OwnR _ _ _ _ _ _ _ (T46.setTop (mkF m 236 #[.val (.int p1), .val (.int p2), .val (.int p3), .val (.int p4), .val (.int v5), .val (.int v8), .val (.int v11), .val (.int v14), .val (.int v17), .val (.int v20), .val (.int sel), .val (.ref b43), .unset] [(.int (1 : Int32))]))
              simp only [if_pos hc223_49, if_pos hc228_50] at hv47
              subst hv47
              exact J236_48
            · skip
              refine OwnR.of (fun _ hr => XS.ifYes X46.here hx rfl (pc0 := 228) (pc' := 235) rfl (hb hby at_228) rfl ((if0 _ _).trans (feq hc228_50).2) (by decide) (by decide) hr) ?_
              show OwnR _ _ _ _ _ _ _ (T46.setTop (mkF m 235 #[.val (.int p1), .val (.int p2), .val (.int p3), .val (.int p4), .val (.int v5), .val (.int v8), .val (.int v11), .val (.int v14), .val (.int v17), .val (.int v20), .val (.int sel), .val (.ref b43), .unset] []))
              refine OwnR.of (fun _ hr => XS.iconst X46.here hx rfl (hb hby at_235) hr) ?_
              show OwnR _ _ _ _ _ _ _ (T46.setTop (mkF m 236 #[.val (.int p1), .val (.int p2), .val (.int p3), .val (.int p4), .val (.int v5), .val (.int v8), .val (.int v11), .val (.int v14), .val (.int v17), .val (.int v20), .val (.int sel), .val (.ref b43), .unset] [(.int (0 : Int32))]))
              simp only [if_pos hc223_49, if_neg hc228_50] at hv47
              subst hv47
              exact J236_48
          · skip
            refine OwnR.of (fun _ hr => XS.ifYes X46.here hx rfl (pc0 := 223) (pc' := 235) rfl (hb hby at_223) rfl ((if0 _ _).trans (feq hc223_49).2) (by decide) (by decide) hr) ?_
            show OwnR _ _ _ _ _ _ _ (T46.setTop (mkF m 235 #[.val (.int p1), .val (.int p2), .val (.int p3), .val (.int p4), .val (.int v5), .val (.int v8), .val (.int v11), .val (.int v14), .val (.int v17), .val (.int v20), .val (.int sel), .val (.ref b43), .unset] []))
            refine OwnR.of (fun _ hr => XS.iconst X46.here hx rfl (hb hby at_235) hr) ?_
            show OwnR _ _ _ _ _ _ _ (T46.setTop (mkF m 236 #[.val (.int p1), .val (.int p2), .val (.int p3), .val (.int p4), .val (.int v5), .val (.int v8), .val (.int v11), .val (.int v14), .val (.int v17), .val (.int v20), .val (.int sel), .val (.ref b43), .unset] [(.int (0 : Int32))]))
            simp only [if_neg hc223_49] at hv47
            subst hv47
            exact J236_48
        refine OwnR.of (fun _ hr => XS.istore X46.here hx rfl (hb hby at_236) rfl (l' := #[.val (.int p1), .val (.int p2), .val (.int p3), .val (.int p4), .val (.int v5), .val (.int v8), .val (.int v11), .val (.int v14), .val (.int v17), .val (.int v20), .val (.int sel), .val (.ref b43), .val (.int v47)]) rfl hr) ?_
        show OwnR _ _ _ _ _ _ _ (T46.setTop (mkF m 238 #[.val (.int p1), .val (.int p2), .val (.int p3), .val (.int p4), .val (.int v5), .val (.int v8), .val (.int v11), .val (.int v14), .val (.int v17), .val (.int v20), .val (.int sel), .val (.ref b43), .val (.int v47)] []))
        refine OwnR.of (fun _ hr => XS.aload X46.here hx rfl (hb hby at_238) rfl rfl hr) ?_
        show OwnR _ _ _ _ _ _ _ (T46.setTop (mkF m 240 #[.val (.int p1), .val (.int p2), .val (.int p3), .val (.int p4), .val (.int v5), .val (.int v8), .val (.int v11), .val (.int v14), .val (.int v17), .val (.int v20), .val (.int sel), .val (.ref b43), .val (.int v47)] [(.ref b43)]))
        obtain ⟨_, _, ⟨T51, L51, kc51, ns51⟩, -, X51, ⟨Lc51, hQ51, l51, y51, z51⟩, st51⟩ := Jvm.LawKit.callS X46 hx (y := (⟨"com/example/fast_taxonomy/fasttaxonomy/calculus/RoleHierarchy", "isTransitivity", "([I)Z"⟩ : MethodName)) hown (mvT hZ (hw _ (List.mem_of_getElem? (i := 1) rfl))) (mvT hZ (hw _ (List.mem_of_getElem? (i := 2) rfl))) (mvT hZ (hw _ (List.mem_of_getElem? (i := 3) rfl))) (mvT hZ (hw _ (List.mem_of_getElem? (i := 4) rfl))) (by decide) (backOf (W := 0) (rm1b l Z a0 hw [] b43 k43 v17 v20 p1 (.int (0 : Int32)) h46 n0 (Nat.le_trans Z0 K46.1) V46) hZ (hw _ (List.mem_of_getElem? (i := 4) rfl)) (hw _ (List.mem_of_getElem? (i := 3) rfl)) (by decide) (by decide)) (g := (mkF m 240 #[.val (.int p1), .val (.int p2), .val (.int p3), .val (.int p4), .val (.int v5), .val (.int v8), .val (.int v11), .val (.int v14), .val (.int v17), .val (.int v20), .val (.int sel), .val (.ref b43), .val (.int v47)] [(.ref b43)])) rfl (by rw [hml]; rfl) (argsL := [(.ref b43)]) (rest := []) (lenOf pd___I_Z rfl) rfl (by show 2 * 0 + _ ≤ _; exact Nat.le_of_eq rfl) (hb hby at_240) (fun _ _ => ⟨rfl, e46, (by decide : 1 + 0 ≤ _), (by decide : 3 + 0 ≤ _)⟩)
        dsimp only [Pt.U, Pt.locs, Pt.cells, Pt.slots] at X51 l51 y51 z51 st51 hQ51
        subst l51 y51 z51
        obtain ⟨rfl, N51q, e51⟩ := hQ51
        have N51 := Fr.app N46 N51q
        refine OwnR.of (st51) ?_
        show OwnR _ _ _ _ _ _ _ (T51.setTop (mkF m 243 #[.val (.int p1), .val (.int p2), .val (.int p3), .val (.int p4), .val (.int v5), .val (.int v8), .val (.int v11), .val (.int v14), .val (.int v17), .val (.int v20), .val (.int sel), .val (.ref b43), .val (.int v47)] [(.int (own_tr v17 v20 p1))]))
        refine OwnR.of (fun _ hr => XS.iload X51.here hx rfl (hb hby at_243) rfl hr) ?_
        show OwnR _ _ _ _ _ _ _ (T51.setTop (mkF m 245 #[.val (.int p1), .val (.int p2), .val (.int p3), .val (.int p4), .val (.int v5), .val (.int v8), .val (.int v11), .val (.int v14), .val (.int v17), .val (.int v20), .val (.int sel), .val (.ref b43), .val (.int v47)] [(.int v47), (.int (own_tr v17 v20 p1))]))
        have hc245_52 : (own_tr v17 v20 p1) = v47 := by
          refine Classical.byContradiction fun hbad => ?_
          subst_vars
          exact hbad (own_law _ _ _ _ _)
        refine OwnR.of (fun _ hr => XS.icmpNo X51.here hx rfl (hb hby at_245) rfl (teq hc245_52).2 hr) ?_
        show OwnR _ _ _ _ _ _ _ (T51.setTop (mkF m 248 #[.val (.int p1), .val (.int p2), .val (.int p3), .val (.int p4), .val (.int v5), .val (.int v8), .val (.int v11), .val (.int v14), .val (.int v17), .val (.int v20), .val (.int sel), .val (.ref b43), .val (.int v47)] []))
        refine OwnR.of (fun _ hr => XS.iconst X51.here hx rfl (hb hby at_248) hr) ?_
        show OwnR _ _ _ _ _ _ _ (T51.setTop (mkF m 249 #[.val (.int p1), .val (.int p2), .val (.int p3), .val (.int p4), .val (.int v5), .val (.int v8), .val (.int v11), .val (.int v14), .val (.int v17), .val (.int v20), .val (.int sel), .val (.ref b43), .val (.int v47)] [(.int (1 : Int32))]))
        refine OwnR.of (fun _ hr => XS.goto X51.here hx rfl (pc0 := 249) (pc' := 253) rfl (hb hby at_249) (by decide) (by decide) hr) ?_
        show OwnR _ _ _ _ _ _ _ (T51.setTop (mkF m 253 #[.val (.int p1), .val (.int p2), .val (.int p3), .val (.int p4), .val (.int v5), .val (.int v8), .val (.int v11), .val (.int v14), .val (.int v17), .val (.int v20), .val (.int sel), .val (.ref b43), .val (.int v47)] [(.int (1 : Int32))]))
        refine own_leafN X51 hx hlk (t := .boolean) Bd.returns (by simp) (hb hby at_253) (z' := (1 : Int32)) rfl (by decide) (by decide) ?_
        show Q0 Z  h0 n0 _ T51.heap _
        rw [show T51.heap = h46 from e51]
        refine ⟨?_, N51⟩
        show (some (.int (1 : Int32)) : Option Value) = some (.int (1 : Int32))
        rfl
set_option maxRecDepth 65536 in
set_option maxHeartbeats 40000000 in
theorem comes_1 {Post : Tables → Env → Array Value → State → Outcome → State → Prop} (hpost : ∀ tb e args s v u, (limb_1_1.after args s (.returned v) u = true ∧ limb_1_2.after args s (.returned v) u = true ∧ True) → FrameEnd s (.returned v) u (Jvm.fieldLocs frame_1_writes args s ++ Jvm.arrayLocs frame_1_arrays args s ++ Jvm.staticLocs frame_1_statics s) 16 128 → Post tb e args s (.returned v) u) :
    ArmFor flags0 classFile x code maxLocals ret World_1 tables_1 room_1 Calls_1 rest_1 Pre_1 Post := by
  intro l hfl _ _ p e ha hc hk s m args below hf hA hF happ hP
  obtain ⟨hcalls, hrest, hpre⟩ := hP
  obtain ⟨-, -, -, hnamed, -, -, -, hat⟩ := (Spec.applies_iff hf).mp happ
  obtain ⟨hg, hn⟩ := and_e (Cond.before_iff.mp (show (Jvm.Cond.and given_1 narrow_1).before args s = true from hpre))
  obtain ⟨ga1, gb1⟩ := and_e hg
  obtain ⟨ga2, gb2⟩ := and_e gb1
  obtain ⟨ga3, gb3⟩ := and_e gb2
  obtain ⟨ga4, gb4⟩ := and_e gb3
  obtain ⟨w0, w1, w2, w3, rfl⟩ : ∃ w0 w1 w2 w3 : Value, args = #[w0, w1, w2, w3] := by
    have hs : args.size = 4 := by simpa [Cond.value, given_1] using ga1
    obtain ⟨L⟩ := args
    match L, hs with
    | [w0, w1, w2, w3], _ => exact ⟨w0, w1, w2, w3, rfl⟩
  have hw := fun d (hd : d ∈ tables_1) => atoms_spec (ws := Jvm.Cond.code x code maxLocals ret :: tables_1) hat d (List.mem_cons_of_mem _ hd)
  have hfit : Fit s := fun {y c} hc i hi => by
    obtain ⟨ha, rfl⟩ := Array.getElem?_eq_some_iff.mp hc
    have q := List.all_eq_true.mp ((Array.all_eq_true_iff_forall_mem.mp hF) _ (Array.getElem_mem ha)) i (List.mem_range.mpr hi)
    simpa [Array.getElem?_eq_getElem hi] using q
  obtain ⟨i0, ei0⟩ := is_v ga2
  obtain rfl : w0 = (.int i0) := Option.some.inj ei0
  obtain ⟨i1, ei1⟩ := is_v ga3
  obtain rfl : w1 = (.int i1) := Option.some.inj ei1
  obtain ⟨i2, ei2⟩ := is_v ga4
  obtain rfl : w2 = (.int i2) := Option.some.inj ei2
  obtain ⟨i3, ei3⟩ := is_v gb4
  obtain rfl : w3 = (.int i3) := Option.some.inj ei3
  obtain ⟨n, o, h1, h2, h3, _, L, rfl, ⟨rfl, N⟩, hq⟩ := rm0 l s _ hw tables_1 i0 i1 i2 i3 s.heap s.heap.size (Nat.le_refl _) p e ha hc hk s m _ below hf ((Spec.applies_iff_loose hf).mp happ).1 ⟨rfl, State.Warmed39.refl s, rfl⟩ trivial
  refine ⟨n, _, h1, h2, h3, hpost _ _ _ _ _ _ ⟨Cond.after_iff.mpr rfl, Cond.after_iff.mpr (eq_i res_at (Term.int_eval (1)) rfl), trivial⟩ ⟨hq.1, hq.2.1, (hq.2.2.sift fun y hy => Or.inr (N y hy)).mono (by decide) (by decide)⟩⟩
theorem main_1_1 : Claimed_1_1 := comes_1 fun _ _ _ _ _ _ h hF => ⟨h.1, hF⟩
theorem main_1_2 : Claimed_1_2 := comes_1 fun _ _ _ _ _ _ h hF => ⟨h.2.1, hF⟩
end Jvm.Pilot.@@N@@
namespace Jvm.Pilot.@@N@@
open Jvm Jvm.ClassFile Sem Op Lib Jvm.Free Jvm.Stand Jvm.Pilot.@@N@@.Jvm.D
/-! MADE BY PROGRAM (witnessworld.py) out of the Statement's table words and the real class files: 9 classes; the members and pool entries that the words name. The judged class is class 1, her method 1. -/
namespace start1
open Jvm.ClassFile
def u (s : String) : CpInfo := .utf8 (stringToUtf16 s)
/-- a pool by its gaps: so many unusable entries, then the entry; so many at the end -/
def gap : Nat → List CpInfo → List CpInfo
  | 0, r => r
  | n + 1, r => .unusable :: gap n r
def poolList (es : List (Nat × CpInfo)) (last : Nat) : List CpInfo := es.foldr (fun e r => gap e.1 (e.2 :: r)) (gap last [])
def pool (es : List (Nat × CpInfo)) (last : Nat) : Array CpInfo := ⟨poolList es last⟩
def fileOf (pool : Array CpInfo) (this : Nat) (attrs : Array Attribute := #[]) (ms : Array MethodInfo := #[]) (fl : Nat := 33) (sup : Nat := 0) (ifs : Array Nat := #[]) (fds : Array FieldInfo := #[]) : ClassFile where
  minorVersion := 0
  majorVersion := 65
  constantPool := pool
  accessFlags := fl
  thisClass := this
  superClass := sup
  interfaces := ifs
  fields := fds
  methods := ms
  attributes := attrs
def plain (name : String) (sup : Option ClassId) : Class where
  name := name
  kind := .ordinary
  loader := none
  accessFlags := 33
  super := sup
  interfaces := #[]
  cf := none
  fields := #[]
  methods := #[]
  instanceTypes := #[]
  staticTypes := #[]
  resolved := #[]
  callSites := []
  init := .initialized
  statics := none
  mirror := none

def pool0 : Array CpInfo := pool [(5, u "<init>"), (0, u "()V"), (1, .class_ 10), (1, u "java/lang/Object")] 113

def k0m0 : Method := { name := "<init>", desc := "()V", sig := { parameters := [], returnType := none }, accessFlags := 1, code := none }
/-- java/lang/Object -/
def k0 : Class := { plain "java/lang/Object" none with
  accessFlags := 33
  interfaces := #[]
  cf := some (fileOf pool0 8 #[] #[{ accessFlags := 1, nameIndex := 5, descriptorIndex := 6, attributes := #[] }] 33 0 #[] #[])
  fields := #[]
  methods := #[k0m0]
  instanceTypes := #[]
  staticTypes := #[]
  resolved := Array.replicate 124 none
  statics := none }

def pool1 : Array CpInfo := pool [(2, .class_ 4), (1, u "java/lang/Object"), (0, u "<init>"), (0, u "()V"), (0, .methodref 8 9), (0, .class_ 10), (0, .nameAndType 11 12), (0, u "com/example/fast_taxonomy/fasttaxonomy/calculus/RoleHierarchy"), (0, u "isTransitivity"), (0, u "([I)Z"), (0, .class_ 14), (0, u "com/example/fast_taxonomy/fasttaxonomy/calculus/RoleHierarchyIsTransitivityPinLaw"), (2, u "law"), (0, u "(IIII)Z")] 5

def k1m0 : Method := { name := "<init>", desc := "()V", sig := { parameters := [], returnType := none }, accessFlags := 1, code := none }
def k1c1 : Code := { maxStack := 3, maxLocals := 13, code := code, exceptionTable := #[], attributes := #[] }
def k1m1 : Method := { name := "law", desc := "(IIII)Z", sig := { parameters := [.int, .int, .int, .int], returnType := some .boolean }, accessFlags := 9, code := some k1c1 }
/-- com/example/fast_taxonomy/fasttaxonomy/calculus/RoleHierarchyIsTransitivityPinLaw -/
def k1 : Class := { plain "com/example/fast_taxonomy/fasttaxonomy/calculus/RoleHierarchyIsTransitivityPinLaw" (some 0) with
  accessFlags := 49
  interfaces := #[]
  cf := some (fileOf pool1 13 #[] #[{ accessFlags := 1, nameIndex := 5, descriptorIndex := 6, attributes := #[] }, { accessFlags := 9, nameIndex := 17, descriptorIndex := 18, attributes := #[] }] 49 2 #[] #[])
  fields := #[]
  methods := #[k1m0, k1m1]
  instanceTypes := #[]
  staticTypes := #[]
  resolved := Array.replicate 24 none
  statics := none }

def pool2 : Array CpInfo := pool [(2, .class_ 4), (1, u "java/lang/Object"), (3, .class_ 10), (1, u "com/example/fast_taxonomy/fasttaxonomy/calculus/RoleHierarchy"), (0, u "roleCount"), (0, u "I"), (8, u "subRoles"), (0, u "Ljava/util/List;"), (19, u "isFunctional"), (0, u "[Z"), (1, u "[I"), (2, u "superRoles"), (0, u "[[I"), (2, u "functionalSuperRoles"), (20, u "chainsBelow"), (6, u "isSimple"), (26, u "component"), (8, u "members"), (31, u "isTransitivity"), (0, u "([I)Z"), (49, .class_ 200), (0, u "com/example/fast_taxonomy/fasttaxonomy/calculus/RoleHierarchy$ComponentSearch"), (6, u "NONE_FREE"), (2, u "ALL_FREE")] 56

def k2c0 : Code := { maxStack := 3, maxLocals := 1, code := prog_7_method_9_code, exceptionTable := #[], attributes := #[] }
def k2m0 : Method := { name := "isTransitivity", desc := "([I)Z", sig := { parameters := [(.array .int)], returnType := some .boolean }, accessFlags := 8, code := some k2c0 }
/-- com/example/fast_taxonomy/fasttaxonomy/calculus/RoleHierarchy -/
def k2 : Class := { plain "com/example/fast_taxonomy/fasttaxonomy/calculus/RoleHierarchy" (some 0) with
  accessFlags := 48
  interfaces := #[]
  cf := some (fileOf pool2 8 #[.nestMembers #[199]] #[{ accessFlags := 8, nameIndex := 148, descriptorIndex := 149, attributes := #[] }] 48 2 #[] #[{ accessFlags := 26, nameIndex := 207, descriptorIndex := 12, attributes := #[] }, { accessFlags := 26, nameIndex := 210, descriptorIndex := 12, attributes := #[] }, { accessFlags := 18, nameIndex := 11, descriptorIndex := 12, attributes := #[] }, { accessFlags := 18, nameIndex := 48, descriptorIndex := 49, attributes := #[] }, { accessFlags := 18, nameIndex := 52, descriptorIndex := 49, attributes := #[] }, { accessFlags := 18, nameIndex := 42, descriptorIndex := 43, attributes := #[] }, { accessFlags := 18, nameIndex := 21, descriptorIndex := 22, attributes := #[] }, { accessFlags := 18, nameIndex := 73, descriptorIndex := 22, attributes := #[] }, { accessFlags := 18, nameIndex := 80, descriptorIndex := 43, attributes := #[] }, { accessFlags := 18, nameIndex := 107, descriptorIndex := 45, attributes := #[] }, { accessFlags := 18, nameIndex := 116, descriptorIndex := 22, attributes := #[] }])
  fields := #[{ name := "NONE_FREE", type := .int, accessFlags := 26, slot := 0, constantValue := 0 }, { name := "ALL_FREE", type := .int, accessFlags := 26, slot := 1, constantValue := 0 }, { name := "roleCount", type := .int, accessFlags := 18, slot := 0, constantValue := 0 }, { name := "superRoles", type := (.array (.array .int)), accessFlags := 18, slot := 1, constantValue := 0 }, { name := "functionalSuperRoles", type := (.array (.array .int)), accessFlags := 18, slot := 2, constantValue := 0 }, { name := "isFunctional", type := (.array .boolean), accessFlags := 18, slot := 3, constantValue := 0 }, { name := "subRoles", type := (.object "java/util/List"), accessFlags := 18, slot := 4, constantValue := 0 }, { name := "chainsBelow", type := (.object "java/util/List"), accessFlags := 18, slot := 5, constantValue := 0 }, { name := "isSimple", type := (.array .boolean), accessFlags := 18, slot := 6, constantValue := 0 }, { name := "component", type := (.array .int), accessFlags := 18, slot := 7, constantValue := 0 }, { name := "members", type := (.object "java/util/List"), accessFlags := 18, slot := 8, constantValue := 0 }]
  methods := #[k2m0]
  instanceTypes := #[.int, (.array (.array .int)), (.array (.array .int)), (.array .boolean), (.object "java/util/List"), (.object "java/util/List"), (.array .boolean), (.array .int), (.object "java/util/List")]
  staticTypes := #[.int, .int]
  resolved := Array.replicate 267 none
  statics := none }

def pool3 : Array CpInfo := pool [(1, u "java/lang/Cloneable"), (0, .class_ 1), (0, u "java/lang/Object"), (0, .class_ 3)] 3

/-- java/lang/Cloneable -/
def k3 : Class := { plain "java/lang/Cloneable" (some 0) with
  accessFlags := 1537
  interfaces := #[]
  cf := some (fileOf pool3 2 #[] #[] 1537 4 #[] #[])
  fields := #[]
  methods := #[]
  instanceTypes := #[]
  staticTypes := #[]
  resolved := Array.replicate 8 none
  statics := none }

def pool4 : Array CpInfo := pool [(1, u "java/io/Serializable"), (0, .class_ 1), (0, u "java/lang/Object"), (0, .class_ 3)] 3

/-- java/io/Serializable -/
def k4 : Class := { plain "java/io/Serializable" (some 0) with
  accessFlags := 1537
  interfaces := #[]
  cf := some (fileOf pool4 2 #[] #[] 1537 4 #[] #[])
  fields := #[]
  methods := #[]
  instanceTypes := #[]
  staticTypes := #[]
  resolved := Array.replicate 8 none
  statics := none }

/-- the primitive byte -/
def k5 : Class := { plain "byte" none with kind := .primitive 'B', accessFlags := 0x411 }
/-- [B -/
def k6 : Class := { plain "[B" (some 0) with kind := .array 5 .byte, interfaces := #[3, 4], accessFlags := 1041 }

/-- the primitive int -/
def k7 : Class := { plain "int" none with kind := .primitive 'I', accessFlags := 0x411 }
/-- [I -/
def k8 : Class := { plain "[I" (some 0) with kind := .array 7 .int, interfaces := #[3, 4], accessFlags := 1041 }

def heap : Heap := #[]
def classes : Array Class := #[k0, k1, k2, k3, k4, k5, k6, k7, k8]
def interned : List (Array UInt16 × Addr) := []
def slotsUsed : Nat := 0
def theMethod : MethodId := ⟨1, 1⟩
def args0 : Array Value := #[.int 5, .int 7, .int 9, .int 3]
def aboutOver (below : List Frame) : State where
  vm := { classes := classes, interned := interned.toArray }
  heap := heap
  slotsUsed := slotsUsed
  threads := #[{ frames := .invoking theMethod args0 :: below }]
def below0 : List Frame := [.native { method := ⟨0, 0⟩, args := #[] }]
def about1 : State := aboutOver below0
def p0 : Program := .bare "" "" ""
def e0 : Env := launch0.env 0 0 0
theorem w_frames : about1.frames = Frame.invoking theMethod args0 :: below0 := rfl
set_option maxRecDepth 65536 in
theorem w_args : argsFit about1.vm theMethod args0 = true := by decide +kernel
set_option maxRecDepth 65536 in
theorem w_heap : heapFits about1 = true := by decide +kernel
set_option maxRecDepth 65536 in
theorem w_runnable : about1.curStatus? = some .runnable := by decide +kernel
set_option maxRecDepth 65536 in
theorem w_alone : about1.alone = true := by decide +kernel
set_option maxRecDepth 65536 in
theorem w_named : about1.methodNamed? x = some theMethod := by decide +kernel
set_option maxRecDepth 65536 in
theorem w_hears : about1.hears theMethod below0 = true := by decide +kernel
set_option maxRecDepth 65536 in
theorem w_ripe : about1.ripe theMethod args0 below0 = true := by decide +kernel
theorem w_running : about1.status = .running := rfl
set_option maxRecDepth 65536 in
theorem w_room : about1.hasRoom e0.platform room_1 = true :=
  launch0.hasRoom_least _ room_1 (by decide +kernel) (by decide +kernel) (by decide +kernel) (by decide +kernel) (by decide +kernel) (by decide +kernel)
theorem allAtoms_all (ts : List Jvm.Cond) (a : Array Jvm.Value) (st : Jvm.State) : (allAtoms ts).before a st = ts.all (fun c => c.before a st) := by
  induction ts with
  | nil => rfl
  | cons c t ih =>
    show (Jvm.Cond.and c (allAtoms t)).before a st = _
    rw [Jvm.Cond.before_and, ih, List.all_cons]
def words1 : List Jvm.Cond := Jvm.Cond.code x code maxLocals ret :: tables_1
/-- a 'code' word, met by the world's own term for the bytes: nothing is compared byte by byte -/
theorem code_word {y : MethodName} {bytes : ByteArray} {mx : Nat} {rt : Option FieldType} {a : Array Value} {s : State} {m : MethodId} {meth : Method} {c : Code} (h1 : s.methodNamed? y = some m) (h2 : s.vm.method? m = some meth) (h3 : meth.code = some c) (h4 : c.code = bytes)
    (h5 : (c.maxLocals == mx && c.exceptionTable.isEmpty && decide (c.maxStack ≤ mostOperands) && decide (meth.sig.returnType = rt) && !meth.locks && decide (parseMethodDescriptor y.desc = some meth.sig)) = true) : (Jvm.Cond.code y bytes mx rt).before a s = true := by
  simp only [Bool.and_eq_true, beq_iff_eq, Bool.not_eq_true', decide_eq_true_eq] at h5
  obtain ⟨⟨⟨⟨⟨g1, g2⟩, g3⟩, g4⟩, g5⟩, g6⟩ := h5
  simp [Cond.before, Cond.holds, Cond.value, h1, h2, h3, h4, g1, g2, g3, g4, g5, g6]
def isCode : Jvm.Cond → Bool
  | .code _ _ _ _ => true
  | _ => false
theorem all_split {L : List Jvm.Cond} {P : Jvm.Cond → Bool} (h1 : L.all (fun c => isCode c || P c) = true) (h2 : ∀ c ∈ L.filter isCode, P c = true) : L.all P = true := by
  refine List.all_eq_true.mpr fun c hc => ?_
  have h := List.all_eq_true.mp h1 c hc
  rcases Bool.eq_false_or_eq_true (isCode c) with hi | hi
  · exact h2 c (List.mem_filter.mpr ⟨hc, hi⟩)
  · simpa [hi] using h
set_option maxRecDepth 65536 in
theorem w_c0 : (Jvm.Cond.code x code maxLocals ret).before args0 about1 = true := code_word (m := ⟨1, 1⟩) (meth := k1m1) (c := k1c1) (by decide +kernel) rfl rfl rfl (by decide +kernel)
set_option maxRecDepth 65536 in
theorem w_c1 : (Jvm.Cond.code ({ cls := "com/example/fast_taxonomy/fasttaxonomy/calculus/RoleHierarchy", name := "isTransitivity", desc := "([I)Z" } : Jvm.MethodName) prog_7_method_9_code (1 : Nat) (Option.some Jvm.ClassFile.FieldType.boolean)).before args0 about1 = true := code_word (m := ⟨2, 0⟩) (meth := k2m0) (c := k2c0) (by decide +kernel) rfl rfl rfl (by decide +kernel)
def codes1 : List Jvm.Cond := [Jvm.Cond.code x code maxLocals ret, Jvm.Cond.code ({ cls := "com/example/fast_taxonomy/fasttaxonomy/calculus/RoleHierarchy", name := "isTransitivity", desc := "([I)Z" } : Jvm.MethodName) prog_7_method_9_code (1 : Nat) (Option.some Jvm.ClassFile.FieldType.boolean)]
set_option maxRecDepth 65536 in
theorem codes_eq : words1.filter isCode = codes1 := rfl
theorem w_codes : ∀ c ∈ words1.filter isCode, c.before args0 about1 = true := by
  rw [codes_eq]
  intro c hc
  simp only [codes1, List.mem_cons, List.not_mem_nil, or_false] at hc
  rcases hc with rfl | rfl
  · exact w_c0
  · exact w_c1
set_option maxRecDepth 65536 in
theorem w_t1 : words1.all (fun c => isCode c || c.before args0 about1) = true := by decide +kernel
theorem w_tables : (allAtoms (Jvm.Cond.code x code maxLocals ret :: tables_1)).before args0 about1 = true := by
  rw [allAtoms_all]
  show words1.all (fun c => c.before args0 about1) = true
  refine all_split ?_ w_codes
  rw [w_t1]
set_option maxRecDepth 65536 in
theorem w_case : (Jvm.Cond.and given_1 narrow_1).before args0 about1 = true := by decide +kernel
theorem w_applies : (headSpec (Jvm.Cond.code x code maxLocals ret :: tables_1) room_1).applies x e0.platform about1 = true :=
  (Spec.applies_iff w_frames).mpr ⟨w_running, w_runnable, w_alone, w_named, w_hears, w_ripe, w_room, w_tables⟩
theorem atStart : AtStart classFile x code maxLocals ret World_1 tables_1 room_1 Calls_1 rest_1 Pre_1 launch0 p0 e0 about1 theMethod args0 below0 :=
  ⟨lists_1, trivial, launch0.admits_env _ _ _, launch0.least_env, fairChoices_fair.cas, fairChoices_fair.clock, w_frames, w_args, w_heap, w_applies, trivial, trivial, w_case⟩
end start1
theorem witness_1 : WitnessClaimed_1 := ⟨start1.p0, start1.e0, start1.about1, start1.theMethod, start1.args0, start1.below0, start1.atStart⟩
end Jvm.Pilot.@@N@@
