import JvmDerived
import JvmDerived.Pilot.@@N@@Statement
import JvmDerived.Pilot.@@N@@Code
set_option linter.unusedVariables false
set_option linter.unusedSimpArgs false
namespace Jvm.Pilot.@@N@@
open Jvm Jvm.ClassFile Sem Op Lib Jvm.Free Jvm.Stand Jvm.LawKit Jvm.RoadKit Bundle Jvm.Pilot.@@N@@.Jvm.D
section OwnKit
variable {p : Program} {l : Launch} {e : Env} {R : Room} {s : State} {m : MethodId} {args : Array Value} {below : List Frame} {meth : Method} {c : Code} {T : State} {locs : List Loc} {cells slots : Nat}
theorem own_retI (X : Stand p l e R s m args below meth c T locs cells slots) (hx : p.tables.exec = Jvm.exec) {pc : Nat} {Ls : Array Slot} {z : Int32} {rest : List Value} (hret : meth.sig.returnType = some .int) (hd : decode c.code pc = .ok (.ireturn, 1)) {fs : List Frame}
    (hl : ∀ (f : JFrame) (acts : List Action), f.method = m → f.locked = none → f.entered = [] → (doReturn e (T.setTop f) acts (some (.int z))).1 = T.setFrames fs) : Steps p.tables e below (T.setTop (mkF m pc Ls (.int z :: rest))) (T.setFrames fs) := by
  have hm' : T.vm.method? m = some meth := X.method'
  have hn : narrow .int (.int z) = .int z := rfl
  show Steps p.tables e below (T.setTop { method := m, pc := pc, locals := Ls, stack := _ :: rest, locked := none }) _
  jvm_step X.here [X.here.top, hx, hd, hm', hret, hn]
  first | (intro acts; rw [hl _ acts rfl rfl rfl]) | rw [hl _ _ rfl rfl rfl]
  exact Steps.refl _
theorem own_retJ (X : Stand p l e R s m args below meth c T locs cells slots) (hx : p.tables.exec = Jvm.exec) {pc : Nat} {Ls : Array Slot} {z : Int64} {rest : List Value} (hret : meth.sig.returnType = some .long) (hd : decode c.code pc = .ok (.lreturn, 1)) {fs : List Frame}
    (hl : ∀ (f : JFrame) (acts : List Action), f.method = m → f.locked = none → f.entered = [] → (doReturn e (T.setTop f) acts (some (.long z))).1 = T.setFrames fs) : Steps p.tables e below (T.setTop (mkF m pc Ls (.long z :: rest))) (T.setFrames fs) := by
  have hm' : T.vm.method? m = some meth := X.method'
  have hn : narrow .long (.long z) = .long z := rfl
  show Steps p.tables e below (T.setTop { method := m, pc := pc, locals := Ls, stack := _ :: rest, locked := none }) _
  jvm_step X.here [X.here.top, hx, hd, hm', hret, hn]
  first | (intro acts; rw [hl _ acts rfl rfl rfl]) | rw [hl _ _ rfl rfl rfl]
  exact Steps.refl _
theorem own_retA (X : Stand p l e R s m args below meth c T locs cells slots) (hx : p.tables.exec = Jvm.exec) {pc : Nat} {Ls : Array Slot} {w : Value} {t : FieldType} {rest : List Value} (hret : meth.sig.returnType = some t) (ht : t.isReference = true) (hw : w.isRef = true) (hd : decode c.code pc = .ok (.areturn, 1)) {fs : List Frame}
    (hl : ∀ (f : JFrame) (acts : List Action), f.method = m → f.locked = none → f.entered = [] → (doReturn e (T.setTop f) acts (some w)).1 = T.setFrames fs) : Steps p.tables e below (T.setTop (mkF m pc Ls (w :: rest))) (T.setFrames fs) :=
  retOut X hx hret (by cases t <;> first | (cases ht; done) | (cases w <;> first | rfl | (cases hw; done))) (Or.inr (Or.inr (Or.inr (Or.inr ⟨rfl, ht, hw⟩)))) hd hl
/-- the run from S ends, returned, as Q says -/
def OwnR (p : Program) (e : Env) (below : List Frame) (s : State) (Q : Option Value → Heap → List Loc → Prop) (kc ks : Nat) (S : State) : Prop :=
  ∃ s₂ o, Steps p.tables e below S s₂ ∧ s₂.status = .running ∧ Ended s₂ below o ∧ ∃ v L, o = .returned v ∧ Q v s₂.heap L ∧ FrameEnd s o s₂ L kc ks
theorem OwnR.of {Q : Option Value → Heap → List Loc → Prop} {kc ks : Nat} {S S' : State} (k : ∀ t, Steps p.tables e below S' t → Steps p.tables e below S t) (h : OwnR p e below s Q kc ks S') : OwnR p e below s Q kc ks S := by
  obtain ⟨a, o, h1, h2⟩ := h
  exact ⟨a, o, k a h1, h2⟩
theorem own_leafI (X : Stand p l e R s m args below meth c T locs cells slots) (hx : p.tables.exec = Jvm.exec) (hlk : meth.locks = false) (hret : meth.sig.returnType = some .int) {Q : Option Value → Heap → List Loc → Prop} {kc ks pc : Nat} {Ls : Array Slot} {z : Int32} {rest : List Value} (hd : decode c.code pc = .ok (.ireturn, 1)) (hk : cells ≤ kc) (hs : slots ≤ ks) (hQ : Q (some (.int z)) T.heap locs) :
    OwnR p e below s Q kc ks (T.setTop (mkF m pc Ls (.int z :: rest))) := by
  obtain ⟨fs, hr, hrun, hended, hW, hsame⟩ := X.leave (v := some (.int z)) (fun h => by rw [hret] at h; cases h) hlk
  exact ⟨_, _, own_retI X hx hret hd hr, hrun, hended, _, _, rfl, hQ, ⟨_, rfl⟩, hW, hsame.mono hk hs⟩
theorem own_leafN (X : Stand p l e R s m args below meth c T locs cells slots) (hx : p.tables.exec = Jvm.exec) (hlk : meth.locks = false) {t : FieldType} (hret : meth.sig.returnType = some t) (ht : t = .boolean ∨ t = .byte ∨ t = .char ∨ t = .short) {Q : Option Value → Heap → List Loc → Prop} {kc ks pc : Nat} {Ls : Array Slot} {z z' : Int32} {rest : List Value} (hd : decode c.code pc = .ok (.ireturn, 1)) (hz : nar t z = z') (hk : cells ≤ kc) (hs : slots ≤ ks) (hQ : Q (some (.int z')) T.heap locs) :
    OwnR p e below s Q kc ks (T.setTop (mkF m pc Ls (.int z :: rest))) := by
  subst hz
  obtain ⟨fs, hr, hrun, hended, hW, hsame⟩ := X.leave (v := some (.int (nar t z))) (fun h => by rw [hret] at h; cases h) hlk
  exact ⟨_, _, retN X hx hret ht hd hr, hrun, hended, _, _, rfl, hQ, ⟨_, rfl⟩, hW, hsame.mono hk hs⟩
theorem own_leafJ (X : Stand p l e R s m args below meth c T locs cells slots) (hx : p.tables.exec = Jvm.exec) (hlk : meth.locks = false) (hret : meth.sig.returnType = some .long) {Q : Option Value → Heap → List Loc → Prop} {kc ks pc : Nat} {Ls : Array Slot} {z : Int64} {rest : List Value} (hd : decode c.code pc = .ok (.lreturn, 1)) (hk : cells ≤ kc) (hs : slots ≤ ks) (hQ : Q (some (.long z)) T.heap locs) :
    OwnR p e below s Q kc ks (T.setTop (mkF m pc Ls (.long z :: rest))) := by
  obtain ⟨fs, hr, hrun, hended, hW, hsame⟩ := X.leave (v := some (.long z)) (fun h => by rw [hret] at h; cases h) hlk
  exact ⟨_, _, own_retJ X hx hret hd hr, hrun, hended, _, _, rfl, hQ, ⟨_, rfl⟩, hW, hsame.mono hk hs⟩
theorem own_leafA (X : Stand p l e R s m args below meth c T locs cells slots) (hx : p.tables.exec = Jvm.exec) (hlk : meth.locks = false) {t : FieldType} (hret : meth.sig.returnType = some t) (ht : t.isReference = true) {Q : Option Value → Heap → List Loc → Prop} {kc ks pc : Nat} {Ls : Array Slot} {w : Value} (hw : w.isRef = true) {rest : List Value} (hd : decode c.code pc = .ok (.areturn, 1)) (hk : cells ≤ kc) (hs : slots ≤ ks) (hQ : Q (some w) T.heap locs) :
    OwnR p e below s Q kc ks (T.setTop (mkF m pc Ls (w :: rest))) := by
  obtain ⟨fs, hr, hrun, hended, hW, hsame⟩ := X.leave (v := some w) (fun h => by rw [hret] at h; cases h) hlk
  exact ⟨_, _, own_retA X hx hret ht hw hd hr, hrun, hended, _, _, rfl, hQ, ⟨_, rfl⟩, hW, hsame.mono hk hs⟩
theorem own_leafD (X : Stand p l e R s m args below meth c T locs cells slots) (hx : p.tables.exec = Jvm.exec) (hlk : meth.locks = false) (hret : meth.sig.returnType = some .double) {Q : Option Value → Heap → List Loc → Prop} {kc ks pc : Nat} {Ls : Array Slot} {z : UInt64} {rest : List Value} (hd : decode c.code pc = .ok (.dreturn, 1)) (hk : cells ≤ kc) (hs : slots ≤ ks) (hQ : Q (some (.double z)) T.heap locs) :
    OwnR p e below s Q kc ks (T.setTop (mkF m pc Ls (.double z :: rest))) := by
  obtain ⟨fs, hr, hrun, hended, hW, hsame⟩ := X.leave (v := some (.double z)) (fun h => by rw [hret] at h; cases h) hlk
  exact ⟨_, _, retOut X hx hret rfl (Or.inr (Or.inr (Or.inl ⟨rfl, rfl, z, rfl⟩))) hd hr, hrun, hended, _, _, rfl, hQ, ⟨_, rfl⟩, hW, hsame.mono hk hs⟩
theorem own_leafV (X : Stand p l e R s m args below meth c T locs cells slots) (hx : p.tables.exec = Jvm.exec) (hlk : meth.locks = false) (hret : meth.sig.returnType = none) {Q : Option Value → Heap → List Loc → Prop} {kc ks pc : Nat} {Ls : Array Slot} (hd : decode c.code pc = .ok (.return_, 1)) (hk : cells ≤ kc) (hs : slots ≤ ks) (hQ : Q none T.heap locs) :
    OwnR p e below s Q kc ks (T.setTop (mkF m pc Ls [])) := by
  obtain ⟨fs, hr, hrun, hended, hW, hsame⟩ := X.leave (v := none) (fun _ => rfl) hlk
  exact ⟨_, _, X.returnOut hx hret hd hr, hrun, hended, _, _, rfl, hQ, ⟨_, rfl⟩, hW, hsame.mono hk hs⟩
theorem own_sta {Z : State} {h h' : Heap} {C n d : String} {v : Value} (F : Sta Z h C n d v) (K : Keep h h' []) : Sta Z h' C n d v := by
  obtain ⟨cf, i, k, f, st, cell, h1, h2, h3, h4, h5, r⟩ := F
  exact ⟨cf, i, k, f, st, cell, h1, h2, h3, h4, K.2.1 _ _ h5 nin0, r⟩
theorem own_arr {Z : State} {h h' : Heap} {a : Addr} {c : Cell} {ty : FieldType} {ws : List Addr} (A : Arr Z h a c ty) (K : Keep h h' ws) (q : a ∉ ws) : Arr Z h' a c ty := ⟨K.2.1 _ _ A.1 q, A.2⟩
theorem own_lclt (a b : Int64) : lcmpW a b < 0 ↔ a < b := by
  obtain ⟨h1, h2, h3⟩ := c_lcmp a b
  have e1 := @Int64.lt_iff_toInt_lt a b
  have e2 := @Int32.lt_iff_toInt_lt (lcmpW a b) 0
  have e0 : (0 : Int32).toInt = 0 := by decide
  rw [e1, e2, e0]; omega
theorem own_lcgt (a b : Int64) : 0 < lcmpW a b ↔ b < a := by
  obtain ⟨h1, h2, h3⟩ := c_lcmp a b
  have e1 := @Int64.lt_iff_toInt_lt b a
  have e2 := @Int32.lt_iff_toInt_lt 0 (lcmpW a b)
  have e0 : (0 : Int32).toInt = 0 := by decide
  rw [e1, e2, e0]; omega
theorem own_lceq (a b : Int64) : lcmpW a b = 0 ↔ a = b := by
  obtain ⟨h1, h2, h3⟩ := c_lcmp a b
  have e0 : (0 : Int32).toInt = 0 := by decide
  rw [← Int64.toInt_inj, ← Int32.toInt_inj, e0]; omega
end OwnKit
theorem own_mod (x y : Int32) (hy : 0 < y.toInt) : 0 ≤ ((x &&& 2147483647) % y).toInt ∧ ((x &&& 2147483647) % y).toInt < y.toInt := by
  have h := (c_and x 2147483647 (by decide)).1
  have q := (c_iremV (x &&& 2147483647) y).1 h hy
  exact ⟨q.1, q.2.1⟩
theorem own_eqi {args : Array Value} {Z : State} {t : Jvm.Term} {k : Int32} (h : (Jvm.Cond.eq t (Jvm.Term.int k)).value args Z none Z [] = some true) : t.eval args Z none [] Z = some (.int k) := by
  cases ht : t.eval args Z none [] Z with
  | none => simp [Jvm.Cond.value, ht] at h
  | some v => cases v <;> simp [Jvm.Cond.value, ht, Jvm.Term.eval] at h ⊢ <;> first | exact h | exact h.symm
theorem own_eql {args : Array Value} {Z : State} {t : Jvm.Term} {k : Int64} (h : (Jvm.Cond.eq t (Jvm.Term.long k)).value args Z none Z [] = some true) : t.eval args Z none [] Z = some (.long k) := by
  cases ht : t.eval args Z none [] Z with
  | none => simp [Jvm.Cond.value, ht] at h
  | some v => cases v <;> simp [Jvm.Cond.value, ht, Jvm.Term.eval] at h ⊢ <;> first | exact h | exact h.symm
def own_max (x y : Int64) : Int64 := if x < y then y else x
def own_min (x y : Int64) : Int64 := if y < x then y else x
def own_imax (x y : Int32) : Int32 := if x < y then y else x
def own_mag (s : Int64) : Int32 := ((s &&& 63).toInt32) % 39
def own_v16 (s : Int64) : Int64 := (((s.toUInt64 >>> ((6 : Int32) &&& 0x3f).toInt64.toUInt64).toInt64) &&& 65535)
def own_high (s : Int64) : Int64 := if own_mag s = 0 then own_v16 s else if own_mag s = 38 then (32768 ||| (own_v16 s &&& 63)) else (32768 ||| own_v16 s)
def own_floor (s : Int64) : Int64 := if (s &&& 63) = 63 then 0 else (own_high s <<< (own_mag s &&& 0x3f).toInt64)
def own_micros (s : Int64) : Int64 := ((own_high s <<< (own_mag s &&& 0x3f).toInt64) ||| (((s.toUInt64 >>> ((26 : Int32) &&& 0x3f).toInt64.toUInt64).toInt64) &&& (((1 : Int64) <<< (own_mag s &&& 0x3f).toInt64) - 1)))
def own_rest (s : Int64) : Int64 := ((((s.toUInt64 >>> ((22 : Int32) &&& 0x3f).toInt64.toUInt64).toInt64) &&& 1023) - ((((s.toUInt64 >>> ((22 : Int32) &&& 0x3f).toInt64.toUInt64).toInt64) &&& 1023) / 1000) * 1000)
def own_nanos (s : Int64) : Int64 := if (s &&& 63) = 63 then (s ||| (-9223372036854775808)) else ((own_micros s * 1000) + own_rest s)
def own_u (x k : Int32) : Int32 := ((x.toUInt32 >>> (k &&& 31).toUInt32).toInt32)
def own_y1 (x : Int32) : Int32 := if x < 65536 then x else own_u x 16
def own_n1 (x : Int32) : Int32 := if x < 65536 then 31 else 15
def own_y2 (y : Int32) : Int32 := if y < 256 then y else own_u y 8
def own_n2 (y n : Int32) : Int32 := if y < 256 then n else n + (-8)
def own_y3 (y : Int32) : Int32 := if y < 16 then y else own_u y 4
def own_n3 (y n : Int32) : Int32 := if y < 16 then n else n + (-4)
def own_y4 (y : Int32) : Int32 := if y < 4 then y else own_u y 2
def own_n4 (y n : Int32) : Int32 := if y < 4 then n else n + (-2)
def own_nlp (x : Int32) : Int32 := own_n4 (own_y3 (own_y2 (own_y1 x))) (own_n3 (own_y2 (own_y1 x)) (own_n2 (own_y1 x) (own_n1 x))) - own_u (own_y4 (own_y3 (own_y2 (own_y1 x)))) 1
def own_nl (x : Int32) : Int32 := if 0 < x then own_nlp x else if x = 0 then 32 else 0
def own_nlL (q : Int64) : Int32 := if ((q.toUInt64 >>> ((32 : Int32) &&& 0x3f).toInt64.toUInt64).toInt64).toInt32 = 0 then 32 + own_nl q.toInt32 else own_nl (((q.toUInt64 >>> ((32 : Int32) &&& 0x3f).toInt64.toUInt64).toInt64).toInt32)
def own_magn (q : Int64) : Int32 := own_imax 0 ((64 - own_nlL q) - 16)
def own_idx (q : Int64) (m : Int32) : Int32 := if m = 0 then q.toInt32 else ((q >>> (m &&& 0x3f).toInt64).toInt32) - 32768

theorem ef_rmMaxJ (m : MethodId) (x0 : Int64) (x1 : Int64) : entryFrame m #[(.long x0), (.long x1)] 4 = mkF m 0 #[.val (.long x0), .second, .val (.long x1), .second] [] := by first | (simp [entryFrame, mkF, argsToLocals, Value.category]; done) | rfl
theorem d8_0 : decode jdk_29_method_66_code 0 = .ok (.lload_n 0, 1) := by decide +kernel
theorem d8_1 : decode jdk_29_method_66_code 1 = .ok (.lload_n 2, 1) := by decide +kernel
theorem d8_2 : decode jdk_29_method_66_code 2 = .ok (.lcmp, 1) := by decide +kernel
theorem d8_3 : decode jdk_29_method_66_code 3 = .ok (.ifCond .lt 7, 3) := by decide +kernel
theorem d8_10 : decode jdk_29_method_66_code 10 = .ok (.lload_n 2, 1) := by decide +kernel
theorem d8_11 : decode jdk_29_method_66_code 11 = .ok (.lreturn, 1) := by decide +kernel
theorem d8_6 : decode jdk_29_method_66_code 6 = .ok (.lload_n 0, 1) := by decide +kernel
theorem d8_7 : decode jdk_29_method_66_code 7 = .ok (.goto 4, 3) := by decide +kernel
def QMaxJ (Z : State) (q1 : Int64) (q2 : Int64) (h0 : Heap) (n0 : Nat) (v : Option Value) (h : Heap) (L : List Loc) : Prop := v = some (.long (own_max q1 q2)) ∧ Fr n0 L ∧ h = h0
set_option maxRecDepth 65536 in
set_option maxHeartbeats 40000000 in
theorem rmMaxJ (l : Launch) (Z : State) (a0 : Array Value) (hw : ∀ d ∈ tables_1, d.before a0 Z = true) (ws : List Jvm.Cond) (q1 : Int64) (q2 : Int64) (h0 : Heap) (n0 : Nat) (Z0 : n0 ≤ h0.size) :
    MetFree l (⟨"java/lang/Math", "max", "(JJ)J"⟩ : MethodName) (head1 (Jvm.Cond.code (⟨"java/lang/Math", "max", "(JJ)J"⟩ : MethodName) jdk_29_method_66_code 4 (some .long) :: ws) ({ frames := 0, cells := 0, slots := 0, locals := 0 } : Room)) (fun a U => a = #[(.long q1), (.long q2)] ∧ Z.Warmed39 U.vm ∧ U.heap = h0) (fun _ _ _ _ _ => True) (fun _ U o U' => ∃ v L, o = .returned v ∧ QMaxJ Z q1 q2 h0 n0 v U'.heap L ∧ FrameEnd U o U' L ({ frames := 0, cells := 0, slots := 0, locals := 0 } : Room).cells ({ frames := 0, cells := 0, slots := 0, locals := 0 } : Room).slots) := by
  refine MetFree.of_bodySF (Jvm.Free.JP.mathPlain rfl (by decide +kernel)) hisR ?_
  intro p e s m args below meth c s₁ Bd hml0 hP hK
  obtain ⟨rfl, hZ, hh⟩ := hP
  have hx := Bd.exec
  have hby := Bd.bytes
  have hlk := BodyLoose.notSynchronized Bd
  have hml : c.maxLocals = 4 := hml0
  have hown : s.vm.findClass "java/lang/Math" = some m.cls := findClass_of_methodNamed Bd.named
  have hnm := (name_of_methodNamed Bd.named Bd.method).1
  have X0 : Stand p l e ({ frames := 0, cells := 0, slots := 0, locals := 0 } : Room) s m #[(.long q1), (.long q2)] below meth c s₁ [] 0 0 := Stand.of_body Bd
  have e0 : s₁.heap = h0 := by rw [← hh, Bd.state]; rfl
  have N0 := Fr.nil n0
  refine OwnR.of (s := s) (Q := QMaxJ Z q1 q2 h0 n0) (fun t k => castTop (ef_rmMaxJ m q1 q2) k) ?_
  show OwnR _ _ _ _ _ _ _ (s₁.setTop (mkF m 0 #[.val (.long q1), .second, .val (.long q2), .second] []))
  refine OwnR.of (fun _ hr => XS.lloadN X0.here hx rfl (hb hby d8_0) rfl hr) ?_
  show OwnR _ _ _ _ _ _ _ (s₁.setTop (mkF m 1 #[.val (.long q1), .second, .val (.long q2), .second] [(.long q1)]))
  refine OwnR.of (fun _ hr => XS.lloadN X0.here hx rfl (hb hby d8_1) rfl hr) ?_
  show OwnR _ _ _ _ _ _ _ (s₁.setTop (mkF m 2 #[.val (.long q1), .second, .val (.long q2), .second] [(.long q2), (.long q1)]))
  refine OwnR.of (fun _ hr => XS.lcmp X0.here hx rfl (hb hby d8_2) rfl hr) ?_
  show OwnR _ _ _ _ _ _ _ (s₁.setTop (mkF m 3 #[.val (.long q1), .second, .val (.long q2), .second] [(.int (lcmpW q1 q2))]))
  by_cases hc3_3 : q1 < q2
  · skip
    refine OwnR.of (fun _ hr => XS.ifYes X0.here hx rfl (pc0 := 3) (pc' := 10) rfl (hb hby d8_3) rfl ((if0 _ _).trans (tlt ((own_lclt _ _).mpr hc3_3)).1) (by decide) (by decide) hr) ?_
    show OwnR _ _ _ _ _ _ _ (s₁.setTop (mkF m 10 #[.val (.long q1), .second, .val (.long q2), .second] []))
    refine OwnR.of (fun _ hr => XS.lloadN X0.here hx rfl (hb hby d8_10) rfl hr) ?_
    show OwnR _ _ _ _ _ _ _ (s₁.setTop (mkF m 11 #[.val (.long q1), .second, .val (.long q2), .second] [(.long q2)]))
    refine own_leafJ X0 hx hlk Bd.returns (hb hby d8_11) (by decide) (by decide) ?_
    show QMaxJ Z q1 q2 h0 n0 _ s₁.heap _
    rw [show s₁.heap = h0 from e0]
    refine ⟨?_, N0, rfl⟩
    show (some (.long q2) : Option Value) = some (.long (own_max q1 q2))
    simp only [own_max, if_pos hc3_3]
  · skip
    refine OwnR.of (fun _ hr => XS.ifNo X0.here hx rfl (hb hby d8_3) rfl ((if0 _ _).trans (flt ((not_congr (own_lclt _ _)).mpr hc3_3)).1) hr) ?_
    show OwnR _ _ _ _ _ _ _ (s₁.setTop (mkF m 6 #[.val (.long q1), .second, .val (.long q2), .second] []))
    refine OwnR.of (fun _ hr => XS.lloadN X0.here hx rfl (hb hby d8_6) rfl hr) ?_
    show OwnR _ _ _ _ _ _ _ (s₁.setTop (mkF m 7 #[.val (.long q1), .second, .val (.long q2), .second] [(.long q1)]))
    refine OwnR.of (fun _ hr => XS.goto X0.here hx rfl (pc0 := 7) (pc' := 11) rfl (hb hby d8_7) (by decide) (by decide) hr) ?_
    show OwnR _ _ _ _ _ _ _ (s₁.setTop (mkF m 11 #[.val (.long q1), .second, .val (.long q2), .second] [(.long q1)]))
    refine own_leafJ X0 hx hlk Bd.returns (hb hby d8_11) (by decide) (by decide) ?_
    show QMaxJ Z q1 q2 h0 n0 _ s₁.heap _
    rw [show s₁.heap = h0 from e0]
    refine ⟨?_, N0, rfl⟩
    show (some (.long q1) : Option Value) = some (.long (own_max q1 q2))
    simp only [own_max, if_neg hc3_3]
theorem ef_rmMinJ (m : MethodId) (x0 : Int64) (x1 : Int64) : entryFrame m #[(.long x0), (.long x1)] 4 = mkF m 0 #[.val (.long x0), .second, .val (.long x1), .second] [] := by first | (simp [entryFrame, mkF, argsToLocals, Value.category]; done) | rfl
theorem d15_0 : decode jdk_29_method_70_code 0 = .ok (.lload_n 0, 1) := by decide +kernel
theorem d15_1 : decode jdk_29_method_70_code 1 = .ok (.lload_n 2, 1) := by decide +kernel
theorem d15_2 : decode jdk_29_method_70_code 2 = .ok (.lcmp, 1) := by decide +kernel
theorem d15_3 : decode jdk_29_method_70_code 3 = .ok (.ifCond .gt 7, 3) := by decide +kernel
theorem d15_10 : decode jdk_29_method_70_code 10 = .ok (.lload_n 2, 1) := by decide +kernel
theorem d15_11 : decode jdk_29_method_70_code 11 = .ok (.lreturn, 1) := by decide +kernel
theorem d15_6 : decode jdk_29_method_70_code 6 = .ok (.lload_n 0, 1) := by decide +kernel
theorem d15_7 : decode jdk_29_method_70_code 7 = .ok (.goto 4, 3) := by decide +kernel
def QMinJ (Z : State) (q1 : Int64) (q2 : Int64) (h0 : Heap) (n0 : Nat) (v : Option Value) (h : Heap) (L : List Loc) : Prop := v = some (.long (own_min q1 q2)) ∧ Fr n0 L ∧ h = h0
set_option maxRecDepth 65536 in
set_option maxHeartbeats 40000000 in
theorem rmMinJ (l : Launch) (Z : State) (a0 : Array Value) (hw : ∀ d ∈ tables_1, d.before a0 Z = true) (ws : List Jvm.Cond) (q1 : Int64) (q2 : Int64) (h0 : Heap) (n0 : Nat) (Z0 : n0 ≤ h0.size) :
    MetFree l (⟨"java/lang/Math", "min", "(JJ)J"⟩ : MethodName) (head1 (Jvm.Cond.code (⟨"java/lang/Math", "min", "(JJ)J"⟩ : MethodName) jdk_29_method_70_code 4 (some .long) :: ws) ({ frames := 0, cells := 0, slots := 0, locals := 0 } : Room)) (fun a U => a = #[(.long q1), (.long q2)] ∧ Z.Warmed39 U.vm ∧ U.heap = h0) (fun _ _ _ _ _ => True) (fun _ U o U' => ∃ v L, o = .returned v ∧ QMinJ Z q1 q2 h0 n0 v U'.heap L ∧ FrameEnd U o U' L ({ frames := 0, cells := 0, slots := 0, locals := 0 } : Room).cells ({ frames := 0, cells := 0, slots := 0, locals := 0 } : Room).slots) := by
  refine MetFree.of_bodySF (Jvm.Free.JP.mathPlain rfl (by decide +kernel)) hisR ?_
  intro p e s m args below meth c s₁ Bd hml0 hP hK
  obtain ⟨rfl, hZ, hh⟩ := hP
  have hx := Bd.exec
  have hby := Bd.bytes
  have hlk := BodyLoose.notSynchronized Bd
  have hml : c.maxLocals = 4 := hml0
  have hown : s.vm.findClass "java/lang/Math" = some m.cls := findClass_of_methodNamed Bd.named
  have hnm := (name_of_methodNamed Bd.named Bd.method).1
  have X0 : Stand p l e ({ frames := 0, cells := 0, slots := 0, locals := 0 } : Room) s m #[(.long q1), (.long q2)] below meth c s₁ [] 0 0 := Stand.of_body Bd
  have e0 : s₁.heap = h0 := by rw [← hh, Bd.state]; rfl
  have N0 := Fr.nil n0
  refine OwnR.of (s := s) (Q := QMinJ Z q1 q2 h0 n0) (fun t k => castTop (ef_rmMinJ m q1 q2) k) ?_
  show OwnR _ _ _ _ _ _ _ (s₁.setTop (mkF m 0 #[.val (.long q1), .second, .val (.long q2), .second] []))
  refine OwnR.of (fun _ hr => XS.lloadN X0.here hx rfl (hb hby d15_0) rfl hr) ?_
  show OwnR _ _ _ _ _ _ _ (s₁.setTop (mkF m 1 #[.val (.long q1), .second, .val (.long q2), .second] [(.long q1)]))
  refine OwnR.of (fun _ hr => XS.lloadN X0.here hx rfl (hb hby d15_1) rfl hr) ?_
  show OwnR _ _ _ _ _ _ _ (s₁.setTop (mkF m 2 #[.val (.long q1), .second, .val (.long q2), .second] [(.long q2), (.long q1)]))
  refine OwnR.of (fun _ hr => XS.lcmp X0.here hx rfl (hb hby d15_2) rfl hr) ?_
  show OwnR _ _ _ _ _ _ _ (s₁.setTop (mkF m 3 #[.val (.long q1), .second, .val (.long q2), .second] [(.int (lcmpW q1 q2))]))
  by_cases hc3_3 : q2 < q1
  · skip
    refine OwnR.of (fun _ hr => XS.ifYes X0.here hx rfl (pc0 := 3) (pc' := 10) rfl (hb hby d15_3) rfl ((if0 _ _).trans (tlt ((own_lcgt _ _).mpr hc3_3)).2.2.1) (by decide) (by decide) hr) ?_
    show OwnR _ _ _ _ _ _ _ (s₁.setTop (mkF m 10 #[.val (.long q1), .second, .val (.long q2), .second] []))
    refine OwnR.of (fun _ hr => XS.lloadN X0.here hx rfl (hb hby d15_10) rfl hr) ?_
    show OwnR _ _ _ _ _ _ _ (s₁.setTop (mkF m 11 #[.val (.long q1), .second, .val (.long q2), .second] [(.long q2)]))
    refine own_leafJ X0 hx hlk Bd.returns (hb hby d15_11) (by decide) (by decide) ?_
    show QMinJ Z q1 q2 h0 n0 _ s₁.heap _
    rw [show s₁.heap = h0 from e0]
    refine ⟨?_, N0, rfl⟩
    show (some (.long q2) : Option Value) = some (.long (own_min q1 q2))
    simp only [own_min, if_pos hc3_3]
  · skip
    refine OwnR.of (fun _ hr => XS.ifNo X0.here hx rfl (hb hby d15_3) rfl ((if0 _ _).trans (flt ((not_congr (own_lcgt _ _)).mpr hc3_3)).2.2.1) hr) ?_
    show OwnR _ _ _ _ _ _ _ (s₁.setTop (mkF m 6 #[.val (.long q1), .second, .val (.long q2), .second] []))
    refine OwnR.of (fun _ hr => XS.lloadN X0.here hx rfl (hb hby d15_6) rfl hr) ?_
    show OwnR _ _ _ _ _ _ _ (s₁.setTop (mkF m 7 #[.val (.long q1), .second, .val (.long q2), .second] [(.long q1)]))
    refine OwnR.of (fun _ hr => XS.goto X0.here hx rfl (pc0 := 7) (pc' := 11) rfl (hb hby d15_7) (by decide) (by decide) hr) ?_
    show OwnR _ _ _ _ _ _ _ (s₁.setTop (mkF m 11 #[.val (.long q1), .second, .val (.long q2), .second] [(.long q1)]))
    refine own_leafJ X0 hx hlk Bd.returns (hb hby d15_11) (by decide) (by decide) ?_
    show QMinJ Z q1 q2 h0 n0 _ s₁.heap _
    rw [show s₁.heap = h0 from e0]
    refine ⟨?_, N0, rfl⟩
    show (some (.long q1) : Option Value) = some (.long (own_min q1 q2))
    simp only [own_min, if_neg hc3_3]
theorem ef_rmMaxI (m : MethodId) (x0 : Int32) (x1 : Int32) : entryFrame m #[(.int x0), (.int x1)] 2 = mkF m 0 #[.val (.int x0), .val (.int x1)] [] := by first | (simp [entryFrame, mkF, argsToLocals, Value.category]; done) | rfl
theorem d12_0 : decode jdk_29_method_65_code 0 = .ok (.iload_n 0, 1) := by decide +kernel
theorem d12_1 : decode jdk_29_method_65_code 1 = .ok (.iload_n 1, 1) := by decide +kernel
theorem d12_2 : decode jdk_29_method_65_code 2 = .ok (.if_icmp .lt 7, 3) := by decide +kernel
theorem d12_9 : decode jdk_29_method_65_code 9 = .ok (.iload_n 1, 1) := by decide +kernel
theorem d12_10 : decode jdk_29_method_65_code 10 = .ok (.ireturn, 1) := by decide +kernel
theorem d12_5 : decode jdk_29_method_65_code 5 = .ok (.iload_n 0, 1) := by decide +kernel
theorem d12_6 : decode jdk_29_method_65_code 6 = .ok (.goto 4, 3) := by decide +kernel
def QMaxI (Z : State) (p1 : Int32) (p2 : Int32) (h0 : Heap) (n0 : Nat) (v : Option Value) (h : Heap) (L : List Loc) : Prop := v = some (.int (own_imax p1 p2)) ∧ Fr n0 L ∧ h = h0
set_option maxRecDepth 65536 in
set_option maxHeartbeats 40000000 in
theorem rmMaxI (l : Launch) (Z : State) (a0 : Array Value) (hw : ∀ d ∈ tables_1, d.before a0 Z = true) (ws : List Jvm.Cond) (p1 : Int32) (p2 : Int32) (h0 : Heap) (n0 : Nat) (Z0 : n0 ≤ h0.size) :
    MetFree l (⟨"java/lang/Math", "max", "(II)I"⟩ : MethodName) (head1 (Jvm.Cond.code (⟨"java/lang/Math", "max", "(II)I"⟩ : MethodName) jdk_29_method_65_code 2 (some .int) :: ws) ({ frames := 0, cells := 0, slots := 0, locals := 0 } : Room)) (fun a U => a = #[(.int p1), (.int p2)] ∧ Z.Warmed39 U.vm ∧ U.heap = h0) (fun _ _ _ _ _ => True) (fun _ U o U' => ∃ v L, o = .returned v ∧ QMaxI Z p1 p2 h0 n0 v U'.heap L ∧ FrameEnd U o U' L ({ frames := 0, cells := 0, slots := 0, locals := 0 } : Room).cells ({ frames := 0, cells := 0, slots := 0, locals := 0 } : Room).slots) := by
  refine MetFree.of_bodySF (Jvm.Free.JP.mathPlain rfl (by decide +kernel)) hisR ?_
  intro p e s m args below meth c s₁ Bd hml0 hP hK
  obtain ⟨rfl, hZ, hh⟩ := hP
  have hx := Bd.exec
  have hby := Bd.bytes
  have hlk := BodyLoose.notSynchronized Bd
  have hml : c.maxLocals = 2 := hml0
  have hown : s.vm.findClass "java/lang/Math" = some m.cls := findClass_of_methodNamed Bd.named
  have hnm := (name_of_methodNamed Bd.named Bd.method).1
  have X0 : Stand p l e ({ frames := 0, cells := 0, slots := 0, locals := 0 } : Room) s m #[(.int p1), (.int p2)] below meth c s₁ [] 0 0 := Stand.of_body Bd
  have e0 : s₁.heap = h0 := by rw [← hh, Bd.state]; rfl
  have N0 := Fr.nil n0
  refine OwnR.of (s := s) (Q := QMaxI Z p1 p2 h0 n0) (fun t k => castTop (ef_rmMaxI m p1 p2) k) ?_
  show OwnR _ _ _ _ _ _ _ (s₁.setTop (mkF m 0 #[.val (.int p1), .val (.int p2)] []))
  refine OwnR.of (fun _ hr => XS.iloadN X0.here hx rfl (hb hby d12_0) rfl hr) ?_
  show OwnR _ _ _ _ _ _ _ (s₁.setTop (mkF m 1 #[.val (.int p1), .val (.int p2)] [(.int p1)]))
  refine OwnR.of (fun _ hr => XS.iloadN X0.here hx rfl (hb hby d12_1) rfl hr) ?_
  show OwnR _ _ _ _ _ _ _ (s₁.setTop (mkF m 2 #[.val (.int p1), .val (.int p2)] [(.int p2), (.int p1)]))
  by_cases hc2_3 : p1 < p2
  · skip
    refine OwnR.of (fun _ hr => XS.icmpYes X0.here hx rfl (pc0 := 2) (pc' := 9) rfl (hb hby d12_2) rfl (tlt hc2_3).1 (by decide) (by decide) hr) ?_
    show OwnR _ _ _ _ _ _ _ (s₁.setTop (mkF m 9 #[.val (.int p1), .val (.int p2)] []))
    refine OwnR.of (fun _ hr => XS.iloadN X0.here hx rfl (hb hby d12_9) rfl hr) ?_
    show OwnR _ _ _ _ _ _ _ (s₁.setTop (mkF m 10 #[.val (.int p1), .val (.int p2)] [(.int p2)]))
    refine own_leafI X0 hx hlk Bd.returns (hb hby d12_10) (by decide) (by decide) ?_
    show QMaxI Z p1 p2 h0 n0 _ s₁.heap _
    rw [show s₁.heap = h0 from e0]
    refine ⟨?_, N0, rfl⟩
    show (some (.int p2) : Option Value) = some (.int (own_imax p1 p2))
    simp only [own_imax, if_pos hc2_3]
  · skip
    refine OwnR.of (fun _ hr => XS.icmpNo X0.here hx rfl (hb hby d12_2) rfl (flt hc2_3).1 hr) ?_
    show OwnR _ _ _ _ _ _ _ (s₁.setTop (mkF m 5 #[.val (.int p1), .val (.int p2)] []))
    refine OwnR.of (fun _ hr => XS.iloadN X0.here hx rfl (hb hby d12_5) rfl hr) ?_
    show OwnR _ _ _ _ _ _ _ (s₁.setTop (mkF m 6 #[.val (.int p1), .val (.int p2)] [(.int p1)]))
    refine OwnR.of (fun _ hr => XS.goto X0.here hx rfl (pc0 := 6) (pc' := 10) rfl (hb hby d12_6) (by decide) (by decide) hr) ?_
    show OwnR _ _ _ _ _ _ _ (s₁.setTop (mkF m 10 #[.val (.int p1), .val (.int p2)] [(.int p1)]))
    refine own_leafI X0 hx hlk Bd.returns (hb hby d12_10) (by decide) (by decide) ?_
    show QMaxI Z p1 p2 h0 n0 _ s₁.heap _
    rw [show s₁.heap = h0 from e0]
    refine ⟨?_, N0, rfl⟩
    show (some (.int p1) : Option Value) = some (.int (own_imax p1 p2))
    simp only [own_imax, if_neg hc2_3]
theorem pn_com_example_kurir_kurir_bench_LatenciesPercentileMicrosPinLaw : plainName "com/example/kurir/kurir/bench/LatenciesPercentileMicrosPinLaw" = true := by first | (simp [plainName, overriddenIn]; done) | decide +kernel
theorem ef_rmMag (m : MethodId) (x0 : Int64) : entryFrame m #[(.long x0)] 2 = mkF m 0 #[.val (.long x0), .second] [] := by first | (simp [entryFrame, mkF, argsToLocals, Value.category]; done) | rfl
theorem d2_0 : decode method_3_code 0 = .ok (.lload_n 0, 1) := by decide +kernel
theorem d2_1 : decode method_3_code 1 = .ok (.ldc2_w 41, 3) := by decide +kernel
theorem d2_4 : decode method_3_code 4 = .ok (.land, 1) := by decide +kernel
theorem d2_5 : decode method_3_code 5 = .ok (.l2i, 1) := by decide +kernel
theorem d2_6 : decode method_3_code 6 = .ok (.bipush 39, 2) := by decide +kernel
theorem d2_8 : decode method_3_code 8 = .ok (.irem, 1) := by decide +kernel
theorem d2_9 : decode method_3_code 9 = .ok (.ireturn, 1) := by decide +kernel
def QMag (Z : State) (q1 : Int64) (h0 : Heap) (n0 : Nat) (v : Option Value) (h : Heap) (L : List Loc) : Prop := v = some (.int (own_mag q1)) ∧ Fr n0 L ∧ h = h0
set_option maxRecDepth 65536 in
set_option maxHeartbeats 40000000 in
theorem rmMag (l : Launch) (Z : State) (a0 : Array Value) (hw : ∀ d ∈ tables_1, d.before a0 Z = true) (ws : List Jvm.Cond) (q1 : Int64) (h0 : Heap) (n0 : Nat) (Z0 : n0 ≤ h0.size) :
    MetFree l (⟨"com/example/kurir/kurir/bench/LatenciesPercentileMicrosPinLaw", "mag", "(J)I"⟩ : MethodName) (head1 (Jvm.Cond.code (⟨"com/example/kurir/kurir/bench/LatenciesPercentileMicrosPinLaw", "mag", "(J)I"⟩ : MethodName) method_3_code 2 (some .int) :: ws) ({ frames := 0, cells := 0, slots := 0, locals := 0 } : Room)) (fun a U => a = #[(.long q1)] ∧ Z.Warmed39 U.vm ∧ U.heap = h0) (fun _ _ _ _ _ => True) (fun _ U o U' => ∃ v L, o = .returned v ∧ QMag Z q1 h0 n0 v U'.heap L ∧ FrameEnd U o U' L ({ frames := 0, cells := 0, slots := 0, locals := 0 } : Room).cells ({ frames := 0, cells := 0, slots := 0, locals := 0 } : Room).slots) := by
  refine MetFree.of_bodySF (plainFor_of_name pn_com_example_kurir_kurir_bench_LatenciesPercentileMicrosPinLaw) hisR ?_
  intro p e s m args below meth c s₁ Bd hml0 hP hK
  obtain ⟨rfl, hZ, hh⟩ := hP
  have hx := Bd.exec
  have hby := Bd.bytes
  have hlk := BodyLoose.notSynchronized Bd
  have hml : c.maxLocals = 2 := hml0
  have hown : s.vm.findClass "com/example/kurir/kurir/bench/LatenciesPercentileMicrosPinLaw" = some m.cls := findClass_of_methodNamed Bd.named
  have hnm := (name_of_methodNamed Bd.named Bd.method).1
  have X0 : Stand p l e ({ frames := 0, cells := 0, slots := 0, locals := 0 } : Room) s m #[(.long q1)] below meth c s₁ [] 0 0 := Stand.of_body Bd
  have e0 : s₁.heap = h0 := by rw [← hh, Bd.state]; rfl
  have N0 := Fr.nil n0
  refine OwnR.of (s := s) (Q := QMag Z q1 h0 n0) (fun t k => castTop (ef_rmMag m q1) k) ?_
  show OwnR _ _ _ _ _ _ _ (s₁.setTop (mkF m 0 #[.val (.long q1), .second] []))
  refine OwnR.of (fun _ hr => XS.lloadN X0.here hx rfl (hb hby d2_0) rfl hr) ?_
  show OwnR _ _ _ _ _ _ _ (s₁.setTop (mkF m 1 #[.val (.long q1), .second] [(.long q1)]))
  refine OwnR.of (X0.ldc2Long hx hown (mvT hZ (hw _ (List.mem_of_getElem? (i := 5) rfl))) (g := (mkF m 1 #[.val (.long q1), .second] [(.long q1)])) rfl (hb hby d2_1)) ?_
  show OwnR _ _ _ _ _ _ _ (s₁.setTop (mkF m 4 #[.val (.long q1), .second] [(.long (63 : Int64)), (.long q1)]))
  refine OwnR.of (fun _ hr => XS.land X0.here hx rfl (hb hby d2_4) rfl hr) ?_
  show OwnR _ _ _ _ _ _ _ (s₁.setTop (mkF m 5 #[.val (.long q1), .second] [(.long (q1 &&& (63 : Int64)))]))
  refine OwnR.of (fun _ hr => XS.l2i X0.here hx rfl (hb hby d2_5) rfl hr) ?_
  show OwnR _ _ _ _ _ _ _ (s₁.setTop (mkF m 6 #[.val (.long q1), .second] [(.int ((q1 &&& (63 : Int64)).toInt32))]))
  refine OwnR.of (fun _ hr => XS.bipush X0.here hx rfl (hb hby d2_6) hr) ?_
  show OwnR _ _ _ _ _ _ _ (s₁.setTop (mkF m 8 #[.val (.long q1), .second] [(.int (39 : Int32)), (.int ((q1 &&& (63 : Int64)).toInt32))]))
  refine OwnR.of (fun _ hr => iremM X0 hx rfl (hb hby d2_8) rfl (by decide) hr) ?_
  show OwnR _ _ _ _ _ _ _ (s₁.setTop (mkF m 9 #[.val (.long q1), .second] [(.int (((q1 &&& (63 : Int64)).toInt32) % (39 : Int32)))]))
  refine own_leafI X0 hx hlk Bd.returns (hb hby d2_9) (by decide) (by decide) ?_
  show QMag Z q1 h0 n0 _ s₁.heap _
  rw [show s₁.heap = h0 from e0]
  refine ⟨?_, N0, rfl⟩
  show (some (.int (((q1 &&& (63 : Int64)).toInt32) % (39 : Int32))) : Option Value) = some (.int (own_mag q1))
  rfl
theorem ef_rmHigh (m : MethodId) (x0 : Int64) : entryFrame m #[(.long x0)] 5 = mkF m 0 #[.val (.long x0), .second, .unset, .unset, .unset] [] := by first | (simp [entryFrame, mkF, argsToLocals, Value.category]; done) | rfl
theorem d3_0 : decode method_4_code 0 = .ok (.lload_n 0, 1) := by decide +kernel
theorem d3_1 : decode method_4_code 1 = .ok (.invokestatic 43, 3) := by decide +kernel
theorem pd__J_I : parseMethodDescriptor "(J)I" = some ⟨[.long], some .int⟩ := by decide +kernel
theorem d3_4 : decode method_4_code 4 = .ok (.istore_n 2, 1) := by decide +kernel
theorem d3_5 : decode method_4_code 5 = .ok (.lload_n 0, 1) := by decide +kernel
theorem d3_6 : decode method_4_code 6 = .ok (.bipush 6, 2) := by decide +kernel
theorem d3_8 : decode method_4_code 8 = .ok (.lushr, 1) := by decide +kernel
theorem d3_9 : decode method_4_code 9 = .ok (.ldc2_w 47, 3) := by decide +kernel
theorem d3_12 : decode method_4_code 12 = .ok (.land, 1) := by decide +kernel
theorem d3_13 : decode method_4_code 13 = .ok (.lstore_n 3, 1) := by decide +kernel
theorem d3_14 : decode method_4_code 14 = .ok (.iload_n 2, 1) := by decide +kernel
theorem d3_15 : decode method_4_code 15 = .ok (.ifCond .ne 5, 3) := by decide +kernel
theorem d3_18 : decode method_4_code 18 = .ok (.lload_n 3, 1) := by decide +kernel
theorem d3_19 : decode method_4_code 19 = .ok (.lreturn, 1) := by decide +kernel
theorem d3_20 : decode method_4_code 20 = .ok (.iload_n 2, 1) := by decide +kernel
theorem d3_21 : decode method_4_code 21 = .ok (.bipush 38, 2) := by decide +kernel
theorem d3_23 : decode method_4_code 23 = .ok (.if_icmp .ne 13, 3) := by decide +kernel
theorem d3_26 : decode method_4_code 26 = .ok (.ldc2_w 49, 3) := by decide +kernel
theorem d3_29 : decode method_4_code 29 = .ok (.lload_n 3, 1) := by decide +kernel
theorem d3_30 : decode method_4_code 30 = .ok (.ldc2_w 41, 3) := by decide +kernel
theorem d3_33 : decode method_4_code 33 = .ok (.land, 1) := by decide +kernel
theorem d3_34 : decode method_4_code 34 = .ok (.lor, 1) := by decide +kernel
theorem d3_35 : decode method_4_code 35 = .ok (.lreturn, 1) := by decide +kernel
theorem d3_36 : decode method_4_code 36 = .ok (.ldc2_w 49, 3) := by decide +kernel
theorem d3_39 : decode method_4_code 39 = .ok (.lload_n 3, 1) := by decide +kernel
theorem d3_40 : decode method_4_code 40 = .ok (.lor, 1) := by decide +kernel
theorem d3_41 : decode method_4_code 41 = .ok (.lreturn, 1) := by decide +kernel
def QHigh (Z : State) (q1 : Int64) (h0 : Heap) (n0 : Nat) (v : Option Value) (h : Heap) (L : List Loc) : Prop := v = some (.long (own_high q1)) ∧ Fr n0 L ∧ h = h0
set_option maxRecDepth 65536 in
set_option maxHeartbeats 40000000 in
theorem rmHigh (l : Launch) (Z : State) (a0 : Array Value) (hw : ∀ d ∈ tables_1, d.before a0 Z = true) (ws : List Jvm.Cond) (q1 : Int64) (h0 : Heap) (n0 : Nat) (Z0 : n0 ≤ h0.size) :
    MetFree l (⟨"com/example/kurir/kurir/bench/LatenciesPercentileMicrosPinLaw", "high", "(J)J"⟩ : MethodName) (head1 (Jvm.Cond.code (⟨"com/example/kurir/kurir/bench/LatenciesPercentileMicrosPinLaw", "high", "(J)J"⟩ : MethodName) method_4_code 5 (some .long) :: ws) ({ frames := 1, cells := 0, slots := 0, locals := 16 } : Room)) (fun a U => a = #[(.long q1)] ∧ Z.Warmed39 U.vm ∧ U.heap = h0) (fun _ _ _ _ _ => True) (fun _ U o U' => ∃ v L, o = .returned v ∧ QHigh Z q1 h0 n0 v U'.heap L ∧ FrameEnd U o U' L ({ frames := 1, cells := 0, slots := 0, locals := 16 } : Room).cells ({ frames := 1, cells := 0, slots := 0, locals := 16 } : Room).slots) := by
  refine MetFree.of_bodySF (plainFor_of_name pn_com_example_kurir_kurir_bench_LatenciesPercentileMicrosPinLaw) hisR ?_
  intro p e s m args below meth c s₁ Bd hml0 hP hK
  obtain ⟨rfl, hZ, hh⟩ := hP
  have hx := Bd.exec
  have hby := Bd.bytes
  have hlk := BodyLoose.notSynchronized Bd
  have hml : c.maxLocals = 5 := hml0
  have hown : s.vm.findClass "com/example/kurir/kurir/bench/LatenciesPercentileMicrosPinLaw" = some m.cls := findClass_of_methodNamed Bd.named
  have hnm := (name_of_methodNamed Bd.named Bd.method).1
  have X0 : Stand p l e ({ frames := 1, cells := 0, slots := 0, locals := 16 } : Room) s m #[(.long q1)] below meth c s₁ [] 0 0 := Stand.of_body Bd
  have e0 : s₁.heap = h0 := by rw [← hh, Bd.state]; rfl
  have N0 := Fr.nil n0
  refine OwnR.of (s := s) (Q := QHigh Z q1 h0 n0) (fun t k => castTop (ef_rmHigh m q1) k) ?_
  show OwnR _ _ _ _ _ _ _ (s₁.setTop (mkF m 0 #[.val (.long q1), .second, .unset, .unset, .unset] []))
  refine OwnR.of (fun _ hr => XS.lloadN X0.here hx rfl (hb hby d3_0) rfl hr) ?_
  show OwnR _ _ _ _ _ _ _ (s₁.setTop (mkF m 1 #[.val (.long q1), .second, .unset, .unset, .unset] [(.long q1)]))
  obtain ⟨_, _, ⟨T2, L2, kc2, ns2⟩, -, X2, ⟨Lc2, hQ2, l2, y2, z2⟩, st2⟩ := Jvm.LawKit.callS X0 hx (y := (⟨"com/example/kurir/kurir/bench/LatenciesPercentileMicrosPinLaw", "mag", "(J)I"⟩ : MethodName)) hown (mvT hZ (hw _ (List.mem_of_getElem? (i := 6) rfl))) (mvT hZ (hw _ (List.mem_of_getElem? (i := 7) rfl))) (mvT hZ (hw _ (List.mem_of_getElem? (i := 3) rfl))) (mvT hZ (hw _ (List.mem_of_getElem? (i := 8) rfl))) (by decide) (backOf (W := 0) (rmMag l Z a0 hw [] q1 h0 n0 (Nat.le_trans Z0 (Keep.refl h0 []).1) ) hZ (hw _ (List.mem_of_getElem? (i := 8) rfl)) (hw _ (List.mem_of_getElem? (i := 3) rfl)) (by decide) (by decide)) (g := (mkF m 1 #[.val (.long q1), .second, .unset, .unset, .unset] [(.long q1)])) rfl (by rw [hml]; rfl) (argsL := [(.long q1)]) (rest := []) (lenOf pd__J_I rfl) rfl (by show 2 * 0 + _ ≤ _; exact Nat.le_of_eq rfl) (hb hby d3_1) (fun _ _ => ⟨rfl, e0, (by decide : 0 + 0 ≤ _), (by decide : 0 + 0 ≤ _)⟩)
  dsimp only [Pt.U, Pt.locs, Pt.cells, Pt.slots] at X2 l2 y2 z2 st2 hQ2
  rw [l2, y2, z2] at X2
  obtain ⟨rfl, N2q, e2⟩ := hQ2
  have N2 := Fr.app N0 N2q
  refine OwnR.of (st2) ?_
  show OwnR _ _ _ _ _ _ _ (T2.setTop (mkF m 4 #[.val (.long q1), .second, .unset, .unset, .unset] [(.int (own_mag q1))]))
  refine OwnR.of (fun _ hr => XS.istoreN X2.here hx rfl (hb hby d3_4) rfl (l' := #[.val (.long q1), .second, .val (.int (own_mag q1)), .unset, .unset]) rfl hr) ?_
  show OwnR _ _ _ _ _ _ _ (T2.setTop (mkF m 5 #[.val (.long q1), .second, .val (.int (own_mag q1)), .unset, .unset] []))
  refine OwnR.of (fun _ hr => XS.lloadN X2.here hx rfl (hb hby d3_5) rfl hr) ?_
  show OwnR _ _ _ _ _ _ _ (T2.setTop (mkF m 6 #[.val (.long q1), .second, .val (.int (own_mag q1)), .unset, .unset] [(.long q1)]))
  refine OwnR.of (fun _ hr => XS.bipush X2.here hx rfl (hb hby d3_6) hr) ?_
  show OwnR _ _ _ _ _ _ _ (T2.setTop (mkF m 8 #[.val (.long q1), .second, .val (.int (own_mag q1)), .unset, .unset] [(.int (6 : Int32)), (.long q1)]))
  refine OwnR.of (fun _ hr => XS.lushr X2.here hx rfl (hb hby d3_8) rfl hr) ?_
  show OwnR _ _ _ _ _ _ _ (T2.setTop (mkF m 9 #[.val (.long q1), .second, .val (.int (own_mag q1)), .unset, .unset] [(.long ((q1.toUInt64 >>> ((6 : Int32) &&& 0x3f).toInt64.toUInt64).toInt64))]))
  refine OwnR.of (X2.ldc2Long hx hown (mvT hZ (hw _ (List.mem_of_getElem? (i := 12) rfl))) (g := (mkF m 9 #[.val (.long q1), .second, .val (.int (own_mag q1)), .unset, .unset] [(.long ((q1.toUInt64 >>> ((6 : Int32) &&& 0x3f).toInt64.toUInt64).toInt64))])) rfl (hb hby d3_9)) ?_
  show OwnR _ _ _ _ _ _ _ (T2.setTop (mkF m 12 #[.val (.long q1), .second, .val (.int (own_mag q1)), .unset, .unset] [(.long (65535 : Int64)), (.long ((q1.toUInt64 >>> ((6 : Int32) &&& 0x3f).toInt64.toUInt64).toInt64))]))
  refine OwnR.of (fun _ hr => XS.land X2.here hx rfl (hb hby d3_12) rfl hr) ?_
  show OwnR _ _ _ _ _ _ _ (T2.setTop (mkF m 13 #[.val (.long q1), .second, .val (.int (own_mag q1)), .unset, .unset] [(.long (((q1.toUInt64 >>> ((6 : Int32) &&& 0x3f).toInt64.toUInt64).toInt64) &&& (65535 : Int64)))]))
  refine OwnR.of (fun _ hr => XS.lstoreN X2.here hx rfl (hb hby d3_13) rfl (l' := #[.val (.long q1), .second, .val (.int (own_mag q1)), .val (.long (((q1.toUInt64 >>> ((6 : Int32) &&& 0x3f).toInt64.toUInt64).toInt64) &&& (65535 : Int64))), .second]) rfl hr) ?_
  show OwnR _ _ _ _ _ _ _ (T2.setTop (mkF m 14 #[.val (.long q1), .second, .val (.int (own_mag q1)), .val (.long (((q1.toUInt64 >>> ((6 : Int32) &&& 0x3f).toInt64.toUInt64).toInt64) &&& (65535 : Int64))), .second] []))
  refine OwnR.of (fun _ hr => XS.iloadN X2.here hx rfl (hb hby d3_14) rfl hr) ?_
  show OwnR _ _ _ _ _ _ _ (T2.setTop (mkF m 15 #[.val (.long q1), .second, .val (.int (own_mag q1)), .val (.long (((q1.toUInt64 >>> ((6 : Int32) &&& 0x3f).toInt64.toUInt64).toInt64) &&& (65535 : Int64))), .second] [(.int (own_mag q1))]))
  by_cases hc15_3 : (own_mag q1) = (0 : Int32)
  · skip
    refine OwnR.of (fun _ hr => XS.ifNo X2.here hx rfl (hb hby d3_15) rfl ((if0 _ _).trans (teq hc15_3).2) hr) ?_
    show OwnR _ _ _ _ _ _ _ (T2.setTop (mkF m 18 #[.val (.long q1), .second, .val (.int (own_mag q1)), .val (.long (((q1.toUInt64 >>> ((6 : Int32) &&& 0x3f).toInt64.toUInt64).toInt64) &&& (65535 : Int64))), .second] []))
    refine OwnR.of (fun _ hr => XS.lloadN X2.here hx rfl (hb hby d3_18) rfl hr) ?_
    show OwnR _ _ _ _ _ _ _ (T2.setTop (mkF m 19 #[.val (.long q1), .second, .val (.int (own_mag q1)), .val (.long (((q1.toUInt64 >>> ((6 : Int32) &&& 0x3f).toInt64.toUInt64).toInt64) &&& (65535 : Int64))), .second] [(.long (((q1.toUInt64 >>> ((6 : Int32) &&& 0x3f).toInt64.toUInt64).toInt64) &&& (65535 : Int64)))]))
    refine own_leafJ X2 hx hlk Bd.returns (hb hby d3_19) (by decide) (by decide) ?_
    show QHigh Z q1 h0 n0 _ T2.heap _
    rw [show T2.heap = h0 from e2]
    refine ⟨?_, N2, rfl⟩
    show (some (.long (((q1.toUInt64 >>> ((6 : Int32) &&& 0x3f).toInt64.toUInt64).toInt64) &&& (65535 : Int64))) : Option Value) = some (.long (own_high q1))
    simp only [own_high, own_v16, if_pos hc15_3]
  · skip
    refine OwnR.of (fun _ hr => XS.ifYes X2.here hx rfl (pc0 := 15) (pc' := 20) rfl (hb hby d3_15) rfl ((if0 _ _).trans (feq hc15_3).2) (by decide) (by decide) hr) ?_
    show OwnR _ _ _ _ _ _ _ (T2.setTop (mkF m 20 #[.val (.long q1), .second, .val (.int (own_mag q1)), .val (.long (((q1.toUInt64 >>> ((6 : Int32) &&& 0x3f).toInt64.toUInt64).toInt64) &&& (65535 : Int64))), .second] []))
    refine OwnR.of (fun _ hr => XS.iloadN X2.here hx rfl (hb hby d3_20) rfl hr) ?_
    show OwnR _ _ _ _ _ _ _ (T2.setTop (mkF m 21 #[.val (.long q1), .second, .val (.int (own_mag q1)), .val (.long (((q1.toUInt64 >>> ((6 : Int32) &&& 0x3f).toInt64.toUInt64).toInt64) &&& (65535 : Int64))), .second] [(.int (own_mag q1))]))
    refine OwnR.of (fun _ hr => XS.bipush X2.here hx rfl (hb hby d3_21) hr) ?_
    show OwnR _ _ _ _ _ _ _ (T2.setTop (mkF m 23 #[.val (.long q1), .second, .val (.int (own_mag q1)), .val (.long (((q1.toUInt64 >>> ((6 : Int32) &&& 0x3f).toInt64.toUInt64).toInt64) &&& (65535 : Int64))), .second] [(.int (38 : Int32)), (.int (own_mag q1))]))
    by_cases hc23_4 : (own_mag q1) = (38 : Int32)
    · skip
      refine OwnR.of (fun _ hr => XS.icmpNo X2.here hx rfl (hb hby d3_23) rfl (teq hc23_4).2 hr) ?_
      show OwnR _ _ _ _ _ _ _ (T2.setTop (mkF m 26 #[.val (.long q1), .second, .val (.int (own_mag q1)), .val (.long (((q1.toUInt64 >>> ((6 : Int32) &&& 0x3f).toInt64.toUInt64).toInt64) &&& (65535 : Int64))), .second] []))
      refine OwnR.of (X2.ldc2Long hx hown (mvT hZ (hw _ (List.mem_of_getElem? (i := 13) rfl))) (g := (mkF m 26 #[.val (.long q1), .second, .val (.int (own_mag q1)), .val (.long (((q1.toUInt64 >>> ((6 : Int32) &&& 0x3f).toInt64.toUInt64).toInt64) &&& (65535 : Int64))), .second] [])) rfl (hb hby d3_26)) ?_
      show OwnR _ _ _ _ _ _ _ (T2.setTop (mkF m 29 #[.val (.long q1), .second, .val (.int (own_mag q1)), .val (.long (((q1.toUInt64 >>> ((6 : Int32) &&& 0x3f).toInt64.toUInt64).toInt64) &&& (65535 : Int64))), .second] [(.long (32768 : Int64))]))
      refine OwnR.of (fun _ hr => XS.lloadN X2.here hx rfl (hb hby d3_29) rfl hr) ?_
      show OwnR _ _ _ _ _ _ _ (T2.setTop (mkF m 30 #[.val (.long q1), .second, .val (.int (own_mag q1)), .val (.long (((q1.toUInt64 >>> ((6 : Int32) &&& 0x3f).toInt64.toUInt64).toInt64) &&& (65535 : Int64))), .second] [(.long (((q1.toUInt64 >>> ((6 : Int32) &&& 0x3f).toInt64.toUInt64).toInt64) &&& (65535 : Int64))), (.long (32768 : Int64))]))
      refine OwnR.of (X2.ldc2Long hx hown (mvT hZ (hw _ (List.mem_of_getElem? (i := 5) rfl))) (g := (mkF m 30 #[.val (.long q1), .second, .val (.int (own_mag q1)), .val (.long (((q1.toUInt64 >>> ((6 : Int32) &&& 0x3f).toInt64.toUInt64).toInt64) &&& (65535 : Int64))), .second] [(.long (((q1.toUInt64 >>> ((6 : Int32) &&& 0x3f).toInt64.toUInt64).toInt64) &&& (65535 : Int64))), (.long (32768 : Int64))])) rfl (hb hby d3_30)) ?_
      show OwnR _ _ _ _ _ _ _ (T2.setTop (mkF m 33 #[.val (.long q1), .second, .val (.int (own_mag q1)), .val (.long (((q1.toUInt64 >>> ((6 : Int32) &&& 0x3f).toInt64.toUInt64).toInt64) &&& (65535 : Int64))), .second] [(.long (63 : Int64)), (.long (((q1.toUInt64 >>> ((6 : Int32) &&& 0x3f).toInt64.toUInt64).toInt64) &&& (65535 : Int64))), (.long (32768 : Int64))]))
      refine OwnR.of (fun _ hr => XS.land X2.here hx rfl (hb hby d3_33) rfl hr) ?_
      show OwnR _ _ _ _ _ _ _ (T2.setTop (mkF m 34 #[.val (.long q1), .second, .val (.int (own_mag q1)), .val (.long (((q1.toUInt64 >>> ((6 : Int32) &&& 0x3f).toInt64.toUInt64).toInt64) &&& (65535 : Int64))), .second] [(.long ((((q1.toUInt64 >>> ((6 : Int32) &&& 0x3f).toInt64.toUInt64).toInt64) &&& (65535 : Int64)) &&& (63 : Int64))), (.long (32768 : Int64))]))
      refine OwnR.of (fun _ hr => XS.lor X2.here hx rfl (hb hby d3_34) rfl hr) ?_
      show OwnR _ _ _ _ _ _ _ (T2.setTop (mkF m 35 #[.val (.long q1), .second, .val (.int (own_mag q1)), .val (.long (((q1.toUInt64 >>> ((6 : Int32) &&& 0x3f).toInt64.toUInt64).toInt64) &&& (65535 : Int64))), .second] [(.long ((32768 : Int64) ||| ((((q1.toUInt64 >>> ((6 : Int32) &&& 0x3f).toInt64.toUInt64).toInt64) &&& (65535 : Int64)) &&& (63 : Int64))))]))
      refine own_leafJ X2 hx hlk Bd.returns (hb hby d3_35) (by decide) (by decide) ?_
      show QHigh Z q1 h0 n0 _ T2.heap _
      rw [show T2.heap = h0 from e2]
      refine ⟨?_, N2, rfl⟩
      show (some (.long ((32768 : Int64) ||| ((((q1.toUInt64 >>> ((6 : Int32) &&& 0x3f).toInt64.toUInt64).toInt64) &&& (65535 : Int64)) &&& (63 : Int64)))) : Option Value) = some (.long (own_high q1))
      simp only [own_high, own_v16, if_neg hc15_3, if_pos hc23_4]
    · skip
      refine OwnR.of (fun _ hr => XS.icmpYes X2.here hx rfl (pc0 := 23) (pc' := 36) rfl (hb hby d3_23) rfl (feq hc23_4).2 (by decide) (by decide) hr) ?_
      show OwnR _ _ _ _ _ _ _ (T2.setTop (mkF m 36 #[.val (.long q1), .second, .val (.int (own_mag q1)), .val (.long (((q1.toUInt64 >>> ((6 : Int32) &&& 0x3f).toInt64.toUInt64).toInt64) &&& (65535 : Int64))), .second] []))
      refine OwnR.of (X2.ldc2Long hx hown (mvT hZ (hw _ (List.mem_of_getElem? (i := 13) rfl))) (g := (mkF m 36 #[.val (.long q1), .second, .val (.int (own_mag q1)), .val (.long (((q1.toUInt64 >>> ((6 : Int32) &&& 0x3f).toInt64.toUInt64).toInt64) &&& (65535 : Int64))), .second] [])) rfl (hb hby d3_36)) ?_
      show OwnR _ _ _ _ _ _ _ (T2.setTop (mkF m 39 #[.val (.long q1), .second, .val (.int (own_mag q1)), .val (.long (((q1.toUInt64 >>> ((6 : Int32) &&& 0x3f).toInt64.toUInt64).toInt64) &&& (65535 : Int64))), .second] [(.long (32768 : Int64))]))
      refine OwnR.of (fun _ hr => XS.lloadN X2.here hx rfl (hb hby d3_39) rfl hr) ?_
      show OwnR _ _ _ _ _ _ _ (T2.setTop (mkF m 40 #[.val (.long q1), .second, .val (.int (own_mag q1)), .val (.long (((q1.toUInt64 >>> ((6 : Int32) &&& 0x3f).toInt64.toUInt64).toInt64) &&& (65535 : Int64))), .second] [(.long (((q1.toUInt64 >>> ((6 : Int32) &&& 0x3f).toInt64.toUInt64).toInt64) &&& (65535 : Int64))), (.long (32768 : Int64))]))
      refine OwnR.of (fun _ hr => XS.lor X2.here hx rfl (hb hby d3_40) rfl hr) ?_
      show OwnR _ _ _ _ _ _ _ (T2.setTop (mkF m 41 #[.val (.long q1), .second, .val (.int (own_mag q1)), .val (.long (((q1.toUInt64 >>> ((6 : Int32) &&& 0x3f).toInt64.toUInt64).toInt64) &&& (65535 : Int64))), .second] [(.long ((32768 : Int64) ||| (((q1.toUInt64 >>> ((6 : Int32) &&& 0x3f).toInt64.toUInt64).toInt64) &&& (65535 : Int64))))]))
      refine own_leafJ X2 hx hlk Bd.returns (hb hby d3_41) (by decide) (by decide) ?_
      show QHigh Z q1 h0 n0 _ T2.heap _
      rw [show T2.heap = h0 from e2]
      refine ⟨?_, N2, rfl⟩
      show (some (.long ((32768 : Int64) ||| (((q1.toUInt64 >>> ((6 : Int32) &&& 0x3f).toInt64.toUInt64).toInt64) &&& (65535 : Int64)))) : Option Value) = some (.long (own_high q1))
      simp only [own_high, own_v16, if_neg hc15_3, if_neg hc23_4]
theorem ef_rmFloor (m : MethodId) (x0 : Int64) : entryFrame m #[(.long x0)] 3 = mkF m 0 #[.val (.long x0), .second, .unset] [] := by first | (simp [entryFrame, mkF, argsToLocals, Value.category]; done) | rfl
theorem d1_0 : decode method_5_code 0 = .ok (.lload_n 0, 1) := by decide +kernel
theorem d1_1 : decode method_5_code 1 = .ok (.ldc2_w 41, 3) := by decide +kernel
theorem d1_4 : decode method_5_code 4 = .ok (.land, 1) := by decide +kernel
theorem d1_5 : decode method_5_code 5 = .ok (.ldc2_w 41, 3) := by decide +kernel
theorem d1_8 : decode method_5_code 8 = .ok (.lcmp, 1) := by decide +kernel
theorem d1_9 : decode method_5_code 9 = .ok (.ifCond .ne 5, 3) := by decide +kernel
theorem d1_12 : decode method_5_code 12 = .ok (.lconst 0, 1) := by decide +kernel
theorem d1_13 : decode method_5_code 13 = .ok (.lreturn, 1) := by decide +kernel
theorem d1_14 : decode method_5_code 14 = .ok (.lload_n 0, 1) := by decide +kernel
theorem d1_15 : decode method_5_code 15 = .ok (.invokestatic 43, 3) := by decide +kernel
theorem d1_18 : decode method_5_code 18 = .ok (.istore_n 2, 1) := by decide +kernel
theorem d1_19 : decode method_5_code 19 = .ok (.lload_n 0, 1) := by decide +kernel
theorem d1_20 : decode method_5_code 20 = .ok (.invokestatic 51, 3) := by decide +kernel
theorem pd__J_J : parseMethodDescriptor "(J)J" = some ⟨[.long], some .long⟩ := by decide +kernel
theorem d1_23 : decode method_5_code 23 = .ok (.iload_n 2, 1) := by decide +kernel
theorem d1_24 : decode method_5_code 24 = .ok (.lshl, 1) := by decide +kernel
theorem d1_25 : decode method_5_code 25 = .ok (.lreturn, 1) := by decide +kernel
def QFloor (Z : State) (q1 : Int64) (h0 : Heap) (n0 : Nat) (v : Option Value) (h : Heap) (L : List Loc) : Prop := v = some (.long (own_floor q1)) ∧ Fr n0 L ∧ h = h0
set_option maxRecDepth 65536 in
set_option maxHeartbeats 40000000 in
theorem rmFloor (l : Launch) (Z : State) (a0 : Array Value) (hw : ∀ d ∈ tables_1, d.before a0 Z = true) (ws : List Jvm.Cond) (q1 : Int64) (h0 : Heap) (n0 : Nat) (Z0 : n0 ≤ h0.size) :
    MetFree l (⟨"com/example/kurir/kurir/bench/LatenciesPercentileMicrosPinLaw", "floorOf", "(J)J"⟩ : MethodName) (head1 (Jvm.Cond.code (⟨"com/example/kurir/kurir/bench/LatenciesPercentileMicrosPinLaw", "floorOf", "(J)J"⟩ : MethodName) method_5_code 3 (some .long) :: ws) ({ frames := 2, cells := 0, slots := 0, locals := 40 } : Room)) (fun a U => a = #[(.long q1)] ∧ Z.Warmed39 U.vm ∧ U.heap = h0) (fun _ _ _ _ _ => True) (fun _ U o U' => ∃ v L, o = .returned v ∧ QFloor Z q1 h0 n0 v U'.heap L ∧ FrameEnd U o U' L ({ frames := 2, cells := 0, slots := 0, locals := 40 } : Room).cells ({ frames := 2, cells := 0, slots := 0, locals := 40 } : Room).slots) := by
  refine MetFree.of_bodySF (plainFor_of_name pn_com_example_kurir_kurir_bench_LatenciesPercentileMicrosPinLaw) hisR ?_
  intro p e s m args below meth c s₁ Bd hml0 hP hK
  obtain ⟨rfl, hZ, hh⟩ := hP
  have hx := Bd.exec
  have hby := Bd.bytes
  have hlk := BodyLoose.notSynchronized Bd
  have hml : c.maxLocals = 3 := hml0
  have hown : s.vm.findClass "com/example/kurir/kurir/bench/LatenciesPercentileMicrosPinLaw" = some m.cls := findClass_of_methodNamed Bd.named
  have hnm := (name_of_methodNamed Bd.named Bd.method).1
  have X0 : Stand p l e ({ frames := 2, cells := 0, slots := 0, locals := 40 } : Room) s m #[(.long q1)] below meth c s₁ [] 0 0 := Stand.of_body Bd
  have e0 : s₁.heap = h0 := by rw [← hh, Bd.state]; rfl
  have N0 := Fr.nil n0
  refine OwnR.of (s := s) (Q := QFloor Z q1 h0 n0) (fun t k => castTop (ef_rmFloor m q1) k) ?_
  show OwnR _ _ _ _ _ _ _ (s₁.setTop (mkF m 0 #[.val (.long q1), .second, .unset] []))
  refine OwnR.of (fun _ hr => XS.lloadN X0.here hx rfl (hb hby d1_0) rfl hr) ?_
  show OwnR _ _ _ _ _ _ _ (s₁.setTop (mkF m 1 #[.val (.long q1), .second, .unset] [(.long q1)]))
  refine OwnR.of (X0.ldc2Long hx hown (mvT hZ (hw _ (List.mem_of_getElem? (i := 5) rfl))) (g := (mkF m 1 #[.val (.long q1), .second, .unset] [(.long q1)])) rfl (hb hby d1_1)) ?_
  show OwnR _ _ _ _ _ _ _ (s₁.setTop (mkF m 4 #[.val (.long q1), .second, .unset] [(.long (63 : Int64)), (.long q1)]))
  refine OwnR.of (fun _ hr => XS.land X0.here hx rfl (hb hby d1_4) rfl hr) ?_
  show OwnR _ _ _ _ _ _ _ (s₁.setTop (mkF m 5 #[.val (.long q1), .second, .unset] [(.long (q1 &&& (63 : Int64)))]))
  refine OwnR.of (X0.ldc2Long hx hown (mvT hZ (hw _ (List.mem_of_getElem? (i := 5) rfl))) (g := (mkF m 5 #[.val (.long q1), .second, .unset] [(.long (q1 &&& (63 : Int64)))])) rfl (hb hby d1_5)) ?_
  show OwnR _ _ _ _ _ _ _ (s₁.setTop (mkF m 8 #[.val (.long q1), .second, .unset] [(.long (63 : Int64)), (.long (q1 &&& (63 : Int64)))]))
  refine OwnR.of (fun _ hr => XS.lcmp X0.here hx rfl (hb hby d1_8) rfl hr) ?_
  show OwnR _ _ _ _ _ _ _ (s₁.setTop (mkF m 9 #[.val (.long q1), .second, .unset] [(.int (lcmpW (q1 &&& (63 : Int64)) (63 : Int64)))]))
  by_cases hc9_2 : (q1 &&& (63 : Int64)) = (63 : Int64)
  · skip
    refine OwnR.of (fun _ hr => XS.ifNo X0.here hx rfl (hb hby d1_9) rfl ((if0 _ _).trans (teq ((own_lceq _ _).mpr hc9_2)).2) hr) ?_
    show OwnR _ _ _ _ _ _ _ (s₁.setTop (mkF m 12 #[.val (.long q1), .second, .unset] []))
    refine OwnR.of (fun _ hr => XS.lconst X0.here hx rfl (hb hby d1_12) hr) ?_
    show OwnR _ _ _ _ _ _ _ (s₁.setTop (mkF m 13 #[.val (.long q1), .second, .unset] [(.long (0 : Int64))]))
    refine own_leafJ X0 hx hlk Bd.returns (hb hby d1_13) (by decide) (by decide) ?_
    show QFloor Z q1 h0 n0 _ s₁.heap _
    rw [show s₁.heap = h0 from e0]
    refine ⟨?_, N0, rfl⟩
    show (some (.long (0 : Int64)) : Option Value) = some (.long (own_floor q1))
    simp only [own_floor, if_pos hc9_2]
  · skip
    refine OwnR.of (fun _ hr => XS.ifYes X0.here hx rfl (pc0 := 9) (pc' := 14) rfl (hb hby d1_9) rfl ((if0 _ _).trans (feq ((not_congr (own_lceq _ _)).mpr hc9_2)).2) (by decide) (by decide) hr) ?_
    show OwnR _ _ _ _ _ _ _ (s₁.setTop (mkF m 14 #[.val (.long q1), .second, .unset] []))
    refine OwnR.of (fun _ hr => XS.lloadN X0.here hx rfl (hb hby d1_14) rfl hr) ?_
    show OwnR _ _ _ _ _ _ _ (s₁.setTop (mkF m 15 #[.val (.long q1), .second, .unset] [(.long q1)]))
    obtain ⟨_, _, ⟨T3, L3, kc3, ns3⟩, -, X3, ⟨Lc3, hQ3, l3, y3, z3⟩, st3⟩ := Jvm.LawKit.callS X0 hx (y := (⟨"com/example/kurir/kurir/bench/LatenciesPercentileMicrosPinLaw", "mag", "(J)I"⟩ : MethodName)) hown (mvT hZ (hw _ (List.mem_of_getElem? (i := 6) rfl))) (mvT hZ (hw _ (List.mem_of_getElem? (i := 7) rfl))) (mvT hZ (hw _ (List.mem_of_getElem? (i := 3) rfl))) (mvT hZ (hw _ (List.mem_of_getElem? (i := 8) rfl))) (by decide) (backOf (W := 0) (rmMag l Z a0 hw [] q1 h0 n0 (Nat.le_trans Z0 (Keep.refl h0 []).1) ) hZ (hw _ (List.mem_of_getElem? (i := 8) rfl)) (hw _ (List.mem_of_getElem? (i := 3) rfl)) (by decide) (by decide)) (g := (mkF m 15 #[.val (.long q1), .second, .unset] [(.long q1)])) rfl (by rw [hml]; rfl) (argsL := [(.long q1)]) (rest := []) (lenOf pd__J_I rfl) rfl (by show 2 * 0 + _ ≤ _; exact Nat.le_of_eq rfl) (hb hby d1_15) (fun _ _ => ⟨rfl, e0, (by decide : 0 + 0 ≤ _), (by decide : 0 + 0 ≤ _)⟩)
    dsimp only [Pt.U, Pt.locs, Pt.cells, Pt.slots] at X3 l3 y3 z3 st3 hQ3
    rw [l3, y3, z3] at X3
    obtain ⟨rfl, N3q, e3⟩ := hQ3
    have N3 := Fr.app N0 N3q
    refine OwnR.of (st3) ?_
    show OwnR _ _ _ _ _ _ _ (T3.setTop (mkF m 18 #[.val (.long q1), .second, .unset] [(.int (own_mag q1))]))
    refine OwnR.of (fun _ hr => XS.istoreN X3.here hx rfl (hb hby d1_18) rfl (l' := #[.val (.long q1), .second, .val (.int (own_mag q1))]) rfl hr) ?_
    show OwnR _ _ _ _ _ _ _ (T3.setTop (mkF m 19 #[.val (.long q1), .second, .val (.int (own_mag q1))] []))
    refine OwnR.of (fun _ hr => XS.lloadN X3.here hx rfl (hb hby d1_19) rfl hr) ?_
    show OwnR _ _ _ _ _ _ _ (T3.setTop (mkF m 20 #[.val (.long q1), .second, .val (.int (own_mag q1))] [(.long q1)]))
    obtain ⟨_, _, ⟨T4, L4, kc4, ns4⟩, -, X4, ⟨Lc4, hQ4, l4, y4, z4⟩, st4⟩ := Jvm.LawKit.callS X3 hx (y := (⟨"com/example/kurir/kurir/bench/LatenciesPercentileMicrosPinLaw", "high", "(J)J"⟩ : MethodName)) hown (mvT hZ (hw _ (List.mem_of_getElem? (i := 9) rfl))) (mvT hZ (hw _ (List.mem_of_getElem? (i := 10) rfl))) (mvT hZ (hw _ (List.mem_of_getElem? (i := 3) rfl))) (mvT hZ (hw _ (List.mem_of_getElem? (i := 11) rfl))) (by decide) (backOf (W := 0) (rmHigh l Z a0 hw [] q1 h0 n0 (Nat.le_trans Z0 (Keep.refl h0 []).1) ) hZ (hw _ (List.mem_of_getElem? (i := 11) rfl)) (hw _ (List.mem_of_getElem? (i := 3) rfl)) (by decide) (by decide)) (g := (mkF m 20 #[.val (.long q1), .second, .val (.int (own_mag q1))] [(.long q1)])) rfl (by rw [hml]; rfl) (argsL := [(.long q1)]) (rest := []) (lenOf pd__J_J rfl) rfl (by show 2 * 0 + _ ≤ _; exact Nat.le_of_eq rfl) (hb hby d1_20) (fun _ _ => ⟨rfl, e3, (by decide : 0 + 0 ≤ _), (by decide : 0 + 0 ≤ _)⟩)
    dsimp only [Pt.U, Pt.locs, Pt.cells, Pt.slots] at X4 l4 y4 z4 st4 hQ4
    rw [l4, y4, z4] at X4
    obtain ⟨rfl, N4q, e4⟩ := hQ4
    have N4 := Fr.app N3 N4q
    refine OwnR.of (st4) ?_
    show OwnR _ _ _ _ _ _ _ (T4.setTop (mkF m 23 #[.val (.long q1), .second, .val (.int (own_mag q1))] [(.long (own_high q1))]))
    refine OwnR.of (fun _ hr => XS.iloadN X4.here hx rfl (hb hby d1_23) rfl hr) ?_
    show OwnR _ _ _ _ _ _ _ (T4.setTop (mkF m 24 #[.val (.long q1), .second, .val (.int (own_mag q1))] [(.int (own_mag q1)), (.long (own_high q1))]))
    refine OwnR.of (fun _ hr => XS.lshl X4.here hx rfl (hb hby d1_24) rfl hr) ?_
    show OwnR _ _ _ _ _ _ _ (T4.setTop (mkF m 25 #[.val (.long q1), .second, .val (.int (own_mag q1))] [(.long ((own_high q1) <<< ((own_mag q1) &&& 0x3f).toInt64))]))
    refine own_leafJ X4 hx hlk Bd.returns (hb hby d1_25) (by decide) (by decide) ?_
    show QFloor Z q1 h0 n0 _ T4.heap _
    rw [show T4.heap = h0 from e4]
    refine ⟨?_, N4, rfl⟩
    show (some (.long ((own_high q1) <<< ((own_mag q1) &&& 0x3f).toInt64)) : Option Value) = some (.long (own_floor q1))
    simp only [own_floor, if_neg hc9_2]
theorem ef_rmNanos (m : MethodId) (x0 : Int64) : entryFrame m #[(.long x0)] 9 = mkF m 0 #[.val (.long x0), .second, .unset, .unset, .unset, .unset, .unset, .unset, .unset] [] := by first | (simp [entryFrame, mkF, argsToLocals, Value.category]; done) | rfl
theorem d6_0 : decode method_6_code 0 = .ok (.lload_n 0, 1) := by decide +kernel
theorem d6_1 : decode method_6_code 1 = .ok (.ldc2_w 41, 3) := by decide +kernel
theorem d6_4 : decode method_6_code 4 = .ok (.land, 1) := by decide +kernel
theorem d6_5 : decode method_6_code 5 = .ok (.ldc2_w 41, 3) := by decide +kernel
theorem d6_8 : decode method_6_code 8 = .ok (.lcmp, 1) := by decide +kernel
theorem d6_9 : decode method_6_code 9 = .ok (.ifCond .ne 9, 3) := by decide +kernel
theorem d6_12 : decode method_6_code 12 = .ok (.lload_n 0, 1) := by decide +kernel
theorem d6_13 : decode method_6_code 13 = .ok (.ldc2_w 56, 3) := by decide +kernel
theorem d6_16 : decode method_6_code 16 = .ok (.lor, 1) := by decide +kernel
theorem d6_17 : decode method_6_code 17 = .ok (.lreturn, 1) := by decide +kernel
theorem d6_18 : decode method_6_code 18 = .ok (.lload_n 0, 1) := by decide +kernel
theorem d6_19 : decode method_6_code 19 = .ok (.invokestatic 43, 3) := by decide +kernel
theorem d6_22 : decode method_6_code 22 = .ok (.istore_n 2, 1) := by decide +kernel
theorem d6_23 : decode method_6_code 23 = .ok (.lload_n 0, 1) := by decide +kernel
theorem d6_24 : decode method_6_code 24 = .ok (.bipush 26, 2) := by decide +kernel
theorem d6_26 : decode method_6_code 26 = .ok (.lushr, 1) := by decide +kernel
theorem d6_27 : decode method_6_code 27 = .ok (.lconst 1, 1) := by decide +kernel
theorem d6_28 : decode method_6_code 28 = .ok (.iload_n 2, 1) := by decide +kernel
theorem d6_29 : decode method_6_code 29 = .ok (.lshl, 1) := by decide +kernel
theorem d6_30 : decode method_6_code 30 = .ok (.lconst 1, 1) := by decide +kernel
theorem d6_31 : decode method_6_code 31 = .ok (.lsub, 1) := by decide +kernel
theorem d6_32 : decode method_6_code 32 = .ok (.land, 1) := by decide +kernel
theorem d6_33 : decode method_6_code 33 = .ok (.lstore_n 3, 1) := by decide +kernel
theorem d6_34 : decode method_6_code 34 = .ok (.lload_n 0, 1) := by decide +kernel
theorem d6_35 : decode method_6_code 35 = .ok (.invokestatic 51, 3) := by decide +kernel
theorem d6_38 : decode method_6_code 38 = .ok (.iload_n 2, 1) := by decide +kernel
theorem d6_39 : decode method_6_code 39 = .ok (.lshl, 1) := by decide +kernel
theorem d6_40 : decode method_6_code 40 = .ok (.lload_n 3, 1) := by decide +kernel
theorem d6_41 : decode method_6_code 41 = .ok (.lor, 1) := by decide +kernel
theorem d6_42 : decode method_6_code 42 = .ok (.lstore 5, 2) := by decide +kernel
theorem d6_44 : decode method_6_code 44 = .ok (.lload_n 0, 1) := by decide +kernel
theorem d6_45 : decode method_6_code 45 = .ok (.bipush 22, 2) := by decide +kernel
theorem d6_47 : decode method_6_code 47 = .ok (.lushr, 1) := by decide +kernel
theorem d6_48 : decode method_6_code 48 = .ok (.ldc2_w 58, 3) := by decide +kernel
theorem d6_51 : decode method_6_code 51 = .ok (.land, 1) := by decide +kernel
theorem d6_52 : decode method_6_code 52 = .ok (.ldc2_w 60, 3) := by decide +kernel
theorem d6_55 : decode method_6_code 55 = .ok (.lrem, 1) := by decide +kernel
theorem d6_56 : decode method_6_code 56 = .ok (.lstore 7, 2) := by decide +kernel
theorem d6_58 : decode method_6_code 58 = .ok (.lload 5, 2) := by decide +kernel
theorem d6_60 : decode method_6_code 60 = .ok (.ldc2_w 60, 3) := by decide +kernel
theorem d6_63 : decode method_6_code 63 = .ok (.lmul, 1) := by decide +kernel
theorem d6_64 : decode method_6_code 64 = .ok (.lload 7, 2) := by decide +kernel
theorem d6_66 : decode method_6_code 66 = .ok (.ladd, 1) := by decide +kernel
theorem d6_67 : decode method_6_code 67 = .ok (.lreturn, 1) := by decide +kernel
def QNanos (Z : State) (q1 : Int64) (h0 : Heap) (n0 : Nat) (v : Option Value) (h : Heap) (L : List Loc) : Prop := v = some (.long (own_nanos q1)) ∧ Fr n0 L ∧ h = h0
set_option maxRecDepth 65536 in
set_option maxHeartbeats 40000000 in
theorem rmNanos (l : Launch) (Z : State) (a0 : Array Value) (hw : ∀ d ∈ tables_1, d.before a0 Z = true) (ws : List Jvm.Cond) (q1 : Int64) (h0 : Heap) (n0 : Nat) (Z0 : n0 ≤ h0.size) :
    MetFree l (⟨"com/example/kurir/kurir/bench/LatenciesPercentileMicrosPinLaw", "nanosOf", "(J)J"⟩ : MethodName) (head1 (Jvm.Cond.code (⟨"com/example/kurir/kurir/bench/LatenciesPercentileMicrosPinLaw", "nanosOf", "(J)J"⟩ : MethodName) method_6_code 9 (some .long) :: ws) ({ frames := 2, cells := 0, slots := 0, locals := 40 } : Room)) (fun a U => a = #[(.long q1)] ∧ Z.Warmed39 U.vm ∧ U.heap = h0) (fun _ _ _ _ _ => True) (fun _ U o U' => ∃ v L, o = .returned v ∧ QNanos Z q1 h0 n0 v U'.heap L ∧ FrameEnd U o U' L ({ frames := 2, cells := 0, slots := 0, locals := 40 } : Room).cells ({ frames := 2, cells := 0, slots := 0, locals := 40 } : Room).slots) := by
  refine MetFree.of_bodySF (plainFor_of_name pn_com_example_kurir_kurir_bench_LatenciesPercentileMicrosPinLaw) hisR ?_
  intro p e s m args below meth c s₁ Bd hml0 hP hK
  obtain ⟨rfl, hZ, hh⟩ := hP
  have hx := Bd.exec
  have hby := Bd.bytes
  have hlk := BodyLoose.notSynchronized Bd
  have hml : c.maxLocals = 9 := hml0
  have hown : s.vm.findClass "com/example/kurir/kurir/bench/LatenciesPercentileMicrosPinLaw" = some m.cls := findClass_of_methodNamed Bd.named
  have hnm := (name_of_methodNamed Bd.named Bd.method).1
  have X0 : Stand p l e ({ frames := 2, cells := 0, slots := 0, locals := 40 } : Room) s m #[(.long q1)] below meth c s₁ [] 0 0 := Stand.of_body Bd
  have e0 : s₁.heap = h0 := by rw [← hh, Bd.state]; rfl
  have N0 := Fr.nil n0
  refine OwnR.of (s := s) (Q := QNanos Z q1 h0 n0) (fun t k => castTop (ef_rmNanos m q1) k) ?_
  show OwnR _ _ _ _ _ _ _ (s₁.setTop (mkF m 0 #[.val (.long q1), .second, .unset, .unset, .unset, .unset, .unset, .unset, .unset] []))
  refine OwnR.of (fun _ hr => XS.lloadN X0.here hx rfl (hb hby d6_0) rfl hr) ?_
  show OwnR _ _ _ _ _ _ _ (s₁.setTop (mkF m 1 #[.val (.long q1), .second, .unset, .unset, .unset, .unset, .unset, .unset, .unset] [(.long q1)]))
  refine OwnR.of (X0.ldc2Long hx hown (mvT hZ (hw _ (List.mem_of_getElem? (i := 5) rfl))) (g := (mkF m 1 #[.val (.long q1), .second, .unset, .unset, .unset, .unset, .unset, .unset, .unset] [(.long q1)])) rfl (hb hby d6_1)) ?_
  show OwnR _ _ _ _ _ _ _ (s₁.setTop (mkF m 4 #[.val (.long q1), .second, .unset, .unset, .unset, .unset, .unset, .unset, .unset] [(.long (63 : Int64)), (.long q1)]))
  refine OwnR.of (fun _ hr => XS.land X0.here hx rfl (hb hby d6_4) rfl hr) ?_
  show OwnR _ _ _ _ _ _ _ (s₁.setTop (mkF m 5 #[.val (.long q1), .second, .unset, .unset, .unset, .unset, .unset, .unset, .unset] [(.long (q1 &&& (63 : Int64)))]))
  refine OwnR.of (X0.ldc2Long hx hown (mvT hZ (hw _ (List.mem_of_getElem? (i := 5) rfl))) (g := (mkF m 5 #[.val (.long q1), .second, .unset, .unset, .unset, .unset, .unset, .unset, .unset] [(.long (q1 &&& (63 : Int64)))])) rfl (hb hby d6_5)) ?_
  show OwnR _ _ _ _ _ _ _ (s₁.setTop (mkF m 8 #[.val (.long q1), .second, .unset, .unset, .unset, .unset, .unset, .unset, .unset] [(.long (63 : Int64)), (.long (q1 &&& (63 : Int64)))]))
  refine OwnR.of (fun _ hr => XS.lcmp X0.here hx rfl (hb hby d6_8) rfl hr) ?_
  show OwnR _ _ _ _ _ _ _ (s₁.setTop (mkF m 9 #[.val (.long q1), .second, .unset, .unset, .unset, .unset, .unset, .unset, .unset] [(.int (lcmpW (q1 &&& (63 : Int64)) (63 : Int64)))]))
  by_cases hc9_2 : (q1 &&& (63 : Int64)) = (63 : Int64)
  · skip
    refine OwnR.of (fun _ hr => XS.ifNo X0.here hx rfl (hb hby d6_9) rfl ((if0 _ _).trans (teq ((own_lceq _ _).mpr hc9_2)).2) hr) ?_
    show OwnR _ _ _ _ _ _ _ (s₁.setTop (mkF m 12 #[.val (.long q1), .second, .unset, .unset, .unset, .unset, .unset, .unset, .unset] []))
    refine OwnR.of (fun _ hr => XS.lloadN X0.here hx rfl (hb hby d6_12) rfl hr) ?_
    show OwnR _ _ _ _ _ _ _ (s₁.setTop (mkF m 13 #[.val (.long q1), .second, .unset, .unset, .unset, .unset, .unset, .unset, .unset] [(.long q1)]))
    refine OwnR.of (X0.ldc2Long hx hown (mvT hZ (hw _ (List.mem_of_getElem? (i := 86) rfl))) (g := (mkF m 13 #[.val (.long q1), .second, .unset, .unset, .unset, .unset, .unset, .unset, .unset] [(.long q1)])) rfl (hb hby d6_13)) ?_
    show OwnR _ _ _ _ _ _ _ (s₁.setTop (mkF m 16 #[.val (.long q1), .second, .unset, .unset, .unset, .unset, .unset, .unset, .unset] [(.long (-9223372036854775808 : Int64)), (.long q1)]))
    refine OwnR.of (fun _ hr => XS.lor X0.here hx rfl (hb hby d6_16) rfl hr) ?_
    show OwnR _ _ _ _ _ _ _ (s₁.setTop (mkF m 17 #[.val (.long q1), .second, .unset, .unset, .unset, .unset, .unset, .unset, .unset] [(.long (q1 ||| (-9223372036854775808 : Int64)))]))
    refine own_leafJ X0 hx hlk Bd.returns (hb hby d6_17) (by decide) (by decide) ?_
    show QNanos Z q1 h0 n0 _ s₁.heap _
    rw [show s₁.heap = h0 from e0]
    refine ⟨?_, N0, rfl⟩
    show (some (.long (q1 ||| (-9223372036854775808 : Int64))) : Option Value) = some (.long (own_nanos q1))
    simp only [own_nanos, own_micros, own_rest, if_pos hc9_2]
  · skip
    refine OwnR.of (fun _ hr => XS.ifYes X0.here hx rfl (pc0 := 9) (pc' := 18) rfl (hb hby d6_9) rfl ((if0 _ _).trans (feq ((not_congr (own_lceq _ _)).mpr hc9_2)).2) (by decide) (by decide) hr) ?_
    show OwnR _ _ _ _ _ _ _ (s₁.setTop (mkF m 18 #[.val (.long q1), .second, .unset, .unset, .unset, .unset, .unset, .unset, .unset] []))
    refine OwnR.of (fun _ hr => XS.lloadN X0.here hx rfl (hb hby d6_18) rfl hr) ?_
    show OwnR _ _ _ _ _ _ _ (s₁.setTop (mkF m 19 #[.val (.long q1), .second, .unset, .unset, .unset, .unset, .unset, .unset, .unset] [(.long q1)]))
    obtain ⟨_, _, ⟨T3, L3, kc3, ns3⟩, -, X3, ⟨Lc3, hQ3, l3, y3, z3⟩, st3⟩ := Jvm.LawKit.callS X0 hx (y := (⟨"com/example/kurir/kurir/bench/LatenciesPercentileMicrosPinLaw", "mag", "(J)I"⟩ : MethodName)) hown (mvT hZ (hw _ (List.mem_of_getElem? (i := 6) rfl))) (mvT hZ (hw _ (List.mem_of_getElem? (i := 7) rfl))) (mvT hZ (hw _ (List.mem_of_getElem? (i := 3) rfl))) (mvT hZ (hw _ (List.mem_of_getElem? (i := 8) rfl))) (by decide) (backOf (W := 0) (rmMag l Z a0 hw [] q1 h0 n0 (Nat.le_trans Z0 (Keep.refl h0 []).1) ) hZ (hw _ (List.mem_of_getElem? (i := 8) rfl)) (hw _ (List.mem_of_getElem? (i := 3) rfl)) (by decide) (by decide)) (g := (mkF m 19 #[.val (.long q1), .second, .unset, .unset, .unset, .unset, .unset, .unset, .unset] [(.long q1)])) rfl (by rw [hml]; rfl) (argsL := [(.long q1)]) (rest := []) (lenOf pd__J_I rfl) rfl (by show 2 * 0 + _ ≤ _; exact Nat.le_of_eq rfl) (hb hby d6_19) (fun _ _ => ⟨rfl, e0, (by decide : 0 + 0 ≤ _), (by decide : 0 + 0 ≤ _)⟩)
    dsimp only [Pt.U, Pt.locs, Pt.cells, Pt.slots] at X3 l3 y3 z3 st3 hQ3
    rw [l3, y3, z3] at X3
    obtain ⟨rfl, N3q, e3⟩ := hQ3
    have N3 := Fr.app N0 N3q
    refine OwnR.of (st3) ?_
    show OwnR _ _ _ _ _ _ _ (T3.setTop (mkF m 22 #[.val (.long q1), .second, .unset, .unset, .unset, .unset, .unset, .unset, .unset] [(.int (own_mag q1))]))
    refine OwnR.of (fun _ hr => XS.istoreN X3.here hx rfl (hb hby d6_22) rfl (l' := #[.val (.long q1), .second, .val (.int (own_mag q1)), .unset, .unset, .unset, .unset, .unset, .unset]) rfl hr) ?_
    show OwnR _ _ _ _ _ _ _ (T3.setTop (mkF m 23 #[.val (.long q1), .second, .val (.int (own_mag q1)), .unset, .unset, .unset, .unset, .unset, .unset] []))
    refine OwnR.of (fun _ hr => XS.lloadN X3.here hx rfl (hb hby d6_23) rfl hr) ?_
    show OwnR _ _ _ _ _ _ _ (T3.setTop (mkF m 24 #[.val (.long q1), .second, .val (.int (own_mag q1)), .unset, .unset, .unset, .unset, .unset, .unset] [(.long q1)]))
    refine OwnR.of (fun _ hr => XS.bipush X3.here hx rfl (hb hby d6_24) hr) ?_
    show OwnR _ _ _ _ _ _ _ (T3.setTop (mkF m 26 #[.val (.long q1), .second, .val (.int (own_mag q1)), .unset, .unset, .unset, .unset, .unset, .unset] [(.int (26 : Int32)), (.long q1)]))
    refine OwnR.of (fun _ hr => XS.lushr X3.here hx rfl (hb hby d6_26) rfl hr) ?_
    show OwnR _ _ _ _ _ _ _ (T3.setTop (mkF m 27 #[.val (.long q1), .second, .val (.int (own_mag q1)), .unset, .unset, .unset, .unset, .unset, .unset] [(.long ((q1.toUInt64 >>> ((26 : Int32) &&& 0x3f).toInt64.toUInt64).toInt64))]))
    refine OwnR.of (fun _ hr => XS.lconst X3.here hx rfl (hb hby d6_27) hr) ?_
    show OwnR _ _ _ _ _ _ _ (T3.setTop (mkF m 28 #[.val (.long q1), .second, .val (.int (own_mag q1)), .unset, .unset, .unset, .unset, .unset, .unset] [(.long (1 : Int64)), (.long ((q1.toUInt64 >>> ((26 : Int32) &&& 0x3f).toInt64.toUInt64).toInt64))]))
    refine OwnR.of (fun _ hr => XS.iloadN X3.here hx rfl (hb hby d6_28) rfl hr) ?_
    show OwnR _ _ _ _ _ _ _ (T3.setTop (mkF m 29 #[.val (.long q1), .second, .val (.int (own_mag q1)), .unset, .unset, .unset, .unset, .unset, .unset] [(.int (own_mag q1)), (.long (1 : Int64)), (.long ((q1.toUInt64 >>> ((26 : Int32) &&& 0x3f).toInt64.toUInt64).toInt64))]))
    refine OwnR.of (fun _ hr => XS.lshl X3.here hx rfl (hb hby d6_29) rfl hr) ?_
    show OwnR _ _ _ _ _ _ _ (T3.setTop (mkF m 30 #[.val (.long q1), .second, .val (.int (own_mag q1)), .unset, .unset, .unset, .unset, .unset, .unset] [(.long ((1 : Int64) <<< ((own_mag q1) &&& 0x3f).toInt64)), (.long ((q1.toUInt64 >>> ((26 : Int32) &&& 0x3f).toInt64.toUInt64).toInt64))]))
    refine OwnR.of (fun _ hr => XS.lconst X3.here hx rfl (hb hby d6_30) hr) ?_
    show OwnR _ _ _ _ _ _ _ (T3.setTop (mkF m 31 #[.val (.long q1), .second, .val (.int (own_mag q1)), .unset, .unset, .unset, .unset, .unset, .unset] [(.long (1 : Int64)), (.long ((1 : Int64) <<< ((own_mag q1) &&& 0x3f).toInt64)), (.long ((q1.toUInt64 >>> ((26 : Int32) &&& 0x3f).toInt64.toUInt64).toInt64))]))
    refine OwnR.of (fun _ hr => XS.lsub X3.here hx rfl (hb hby d6_31) rfl hr) ?_
    show OwnR _ _ _ _ _ _ _ (T3.setTop (mkF m 32 #[.val (.long q1), .second, .val (.int (own_mag q1)), .unset, .unset, .unset, .unset, .unset, .unset] [(.long (((1 : Int64) <<< ((own_mag q1) &&& 0x3f).toInt64) - (1 : Int64))), (.long ((q1.toUInt64 >>> ((26 : Int32) &&& 0x3f).toInt64.toUInt64).toInt64))]))
    refine OwnR.of (fun _ hr => XS.land X3.here hx rfl (hb hby d6_32) rfl hr) ?_
    show OwnR _ _ _ _ _ _ _ (T3.setTop (mkF m 33 #[.val (.long q1), .second, .val (.int (own_mag q1)), .unset, .unset, .unset, .unset, .unset, .unset] [(.long (((q1.toUInt64 >>> ((26 : Int32) &&& 0x3f).toInt64.toUInt64).toInt64) &&& (((1 : Int64) <<< ((own_mag q1) &&& 0x3f).toInt64) - (1 : Int64))))]))
    refine OwnR.of (fun _ hr => XS.lstoreN X3.here hx rfl (hb hby d6_33) rfl (l' := #[.val (.long q1), .second, .val (.int (own_mag q1)), .val (.long (((q1.toUInt64 >>> ((26 : Int32) &&& 0x3f).toInt64.toUInt64).toInt64) &&& (((1 : Int64) <<< ((own_mag q1) &&& 0x3f).toInt64) - (1 : Int64)))), .second, .unset, .unset, .unset, .unset]) rfl hr) ?_
    show OwnR _ _ _ _ _ _ _ (T3.setTop (mkF m 34 #[.val (.long q1), .second, .val (.int (own_mag q1)), .val (.long (((q1.toUInt64 >>> ((26 : Int32) &&& 0x3f).toInt64.toUInt64).toInt64) &&& (((1 : Int64) <<< ((own_mag q1) &&& 0x3f).toInt64) - (1 : Int64)))), .second, .unset, .unset, .unset, .unset] []))
    refine OwnR.of (fun _ hr => XS.lloadN X3.here hx rfl (hb hby d6_34) rfl hr) ?_
    show OwnR _ _ _ _ _ _ _ (T3.setTop (mkF m 35 #[.val (.long q1), .second, .val (.int (own_mag q1)), .val (.long (((q1.toUInt64 >>> ((26 : Int32) &&& 0x3f).toInt64.toUInt64).toInt64) &&& (((1 : Int64) <<< ((own_mag q1) &&& 0x3f).toInt64) - (1 : Int64)))), .second, .unset, .unset, .unset, .unset] [(.long q1)]))
    obtain ⟨_, _, ⟨T4, L4, kc4, ns4⟩, -, X4, ⟨Lc4, hQ4, l4, y4, z4⟩, st4⟩ := Jvm.LawKit.callS X3 hx (y := (⟨"com/example/kurir/kurir/bench/LatenciesPercentileMicrosPinLaw", "high", "(J)J"⟩ : MethodName)) hown (mvT hZ (hw _ (List.mem_of_getElem? (i := 9) rfl))) (mvT hZ (hw _ (List.mem_of_getElem? (i := 10) rfl))) (mvT hZ (hw _ (List.mem_of_getElem? (i := 3) rfl))) (mvT hZ (hw _ (List.mem_of_getElem? (i := 11) rfl))) (by decide) (backOf (W := 0) (rmHigh l Z a0 hw [] q1 h0 n0 (Nat.le_trans Z0 (Keep.refl h0 []).1) ) hZ (hw _ (List.mem_of_getElem? (i := 11) rfl)) (hw _ (List.mem_of_getElem? (i := 3) rfl)) (by decide) (by decide)) (g := (mkF m 35 #[.val (.long q1), .second, .val (.int (own_mag q1)), .val (.long (((q1.toUInt64 >>> ((26 : Int32) &&& 0x3f).toInt64.toUInt64).toInt64) &&& (((1 : Int64) <<< ((own_mag q1) &&& 0x3f).toInt64) - (1 : Int64)))), .second, .unset, .unset, .unset, .unset] [(.long q1)])) rfl (by rw [hml]; rfl) (argsL := [(.long q1)]) (rest := []) (lenOf pd__J_J rfl) rfl (by show 2 * 0 + _ ≤ _; exact Nat.le_of_eq rfl) (hb hby d6_35) (fun _ _ => ⟨rfl, e3, (by decide : 0 + 0 ≤ _), (by decide : 0 + 0 ≤ _)⟩)
    dsimp only [Pt.U, Pt.locs, Pt.cells, Pt.slots] at X4 l4 y4 z4 st4 hQ4
    rw [l4, y4, z4] at X4
    obtain ⟨rfl, N4q, e4⟩ := hQ4
    have N4 := Fr.app N3 N4q
    refine OwnR.of (st4) ?_
    show OwnR _ _ _ _ _ _ _ (T4.setTop (mkF m 38 #[.val (.long q1), .second, .val (.int (own_mag q1)), .val (.long (((q1.toUInt64 >>> ((26 : Int32) &&& 0x3f).toInt64.toUInt64).toInt64) &&& (((1 : Int64) <<< ((own_mag q1) &&& 0x3f).toInt64) - (1 : Int64)))), .second, .unset, .unset, .unset, .unset] [(.long (own_high q1))]))
    refine OwnR.of (fun _ hr => XS.iloadN X4.here hx rfl (hb hby d6_38) rfl hr) ?_
    show OwnR _ _ _ _ _ _ _ (T4.setTop (mkF m 39 #[.val (.long q1), .second, .val (.int (own_mag q1)), .val (.long (((q1.toUInt64 >>> ((26 : Int32) &&& 0x3f).toInt64.toUInt64).toInt64) &&& (((1 : Int64) <<< ((own_mag q1) &&& 0x3f).toInt64) - (1 : Int64)))), .second, .unset, .unset, .unset, .unset] [(.int (own_mag q1)), (.long (own_high q1))]))
    refine OwnR.of (fun _ hr => XS.lshl X4.here hx rfl (hb hby d6_39) rfl hr) ?_
    show OwnR _ _ _ _ _ _ _ (T4.setTop (mkF m 40 #[.val (.long q1), .second, .val (.int (own_mag q1)), .val (.long (((q1.toUInt64 >>> ((26 : Int32) &&& 0x3f).toInt64.toUInt64).toInt64) &&& (((1 : Int64) <<< ((own_mag q1) &&& 0x3f).toInt64) - (1 : Int64)))), .second, .unset, .unset, .unset, .unset] [(.long ((own_high q1) <<< ((own_mag q1) &&& 0x3f).toInt64))]))
    refine OwnR.of (fun _ hr => XS.lloadN X4.here hx rfl (hb hby d6_40) rfl hr) ?_
    show OwnR _ _ _ _ _ _ _ (T4.setTop (mkF m 41 #[.val (.long q1), .second, .val (.int (own_mag q1)), .val (.long (((q1.toUInt64 >>> ((26 : Int32) &&& 0x3f).toInt64.toUInt64).toInt64) &&& (((1 : Int64) <<< ((own_mag q1) &&& 0x3f).toInt64) - (1 : Int64)))), .second, .unset, .unset, .unset, .unset] [(.long (((q1.toUInt64 >>> ((26 : Int32) &&& 0x3f).toInt64.toUInt64).toInt64) &&& (((1 : Int64) <<< ((own_mag q1) &&& 0x3f).toInt64) - (1 : Int64)))), (.long ((own_high q1) <<< ((own_mag q1) &&& 0x3f).toInt64))]))
    refine OwnR.of (fun _ hr => XS.lor X4.here hx rfl (hb hby d6_41) rfl hr) ?_
    show OwnR _ _ _ _ _ _ _ (T4.setTop (mkF m 42 #[.val (.long q1), .second, .val (.int (own_mag q1)), .val (.long (((q1.toUInt64 >>> ((26 : Int32) &&& 0x3f).toInt64.toUInt64).toInt64) &&& (((1 : Int64) <<< ((own_mag q1) &&& 0x3f).toInt64) - (1 : Int64)))), .second, .unset, .unset, .unset, .unset] [(.long (((own_high q1) <<< ((own_mag q1) &&& 0x3f).toInt64) ||| (((q1.toUInt64 >>> ((26 : Int32) &&& 0x3f).toInt64.toUInt64).toInt64) &&& (((1 : Int64) <<< ((own_mag q1) &&& 0x3f).toInt64) - (1 : Int64)))))]))
    refine OwnR.of (fun _ hr => XS.lstore X4.here hx rfl (hb hby d6_42) rfl (l' := #[.val (.long q1), .second, .val (.int (own_mag q1)), .val (.long (((q1.toUInt64 >>> ((26 : Int32) &&& 0x3f).toInt64.toUInt64).toInt64) &&& (((1 : Int64) <<< ((own_mag q1) &&& 0x3f).toInt64) - (1 : Int64)))), .second, .val (.long (((own_high q1) <<< ((own_mag q1) &&& 0x3f).toInt64) ||| (((q1.toUInt64 >>> ((26 : Int32) &&& 0x3f).toInt64.toUInt64).toInt64) &&& (((1 : Int64) <<< ((own_mag q1) &&& 0x3f).toInt64) - (1 : Int64))))), .second, .unset, .unset]) rfl hr) ?_
    show OwnR _ _ _ _ _ _ _ (T4.setTop (mkF m 44 #[.val (.long q1), .second, .val (.int (own_mag q1)), .val (.long (((q1.toUInt64 >>> ((26 : Int32) &&& 0x3f).toInt64.toUInt64).toInt64) &&& (((1 : Int64) <<< ((own_mag q1) &&& 0x3f).toInt64) - (1 : Int64)))), .second, .val (.long (((own_high q1) <<< ((own_mag q1) &&& 0x3f).toInt64) ||| (((q1.toUInt64 >>> ((26 : Int32) &&& 0x3f).toInt64.toUInt64).toInt64) &&& (((1 : Int64) <<< ((own_mag q1) &&& 0x3f).toInt64) - (1 : Int64))))), .second, .unset, .unset] []))
    refine OwnR.of (fun _ hr => XS.lloadN X4.here hx rfl (hb hby d6_44) rfl hr) ?_
    show OwnR _ _ _ _ _ _ _ (T4.setTop (mkF m 45 #[.val (.long q1), .second, .val (.int (own_mag q1)), .val (.long (((q1.toUInt64 >>> ((26 : Int32) &&& 0x3f).toInt64.toUInt64).toInt64) &&& (((1 : Int64) <<< ((own_mag q1) &&& 0x3f).toInt64) - (1 : Int64)))), .second, .val (.long (((own_high q1) <<< ((own_mag q1) &&& 0x3f).toInt64) ||| (((q1.toUInt64 >>> ((26 : Int32) &&& 0x3f).toInt64.toUInt64).toInt64) &&& (((1 : Int64) <<< ((own_mag q1) &&& 0x3f).toInt64) - (1 : Int64))))), .second, .unset, .unset] [(.long q1)]))
    refine OwnR.of (fun _ hr => XS.bipush X4.here hx rfl (hb hby d6_45) hr) ?_
    show OwnR _ _ _ _ _ _ _ (T4.setTop (mkF m 47 #[.val (.long q1), .second, .val (.int (own_mag q1)), .val (.long (((q1.toUInt64 >>> ((26 : Int32) &&& 0x3f).toInt64.toUInt64).toInt64) &&& (((1 : Int64) <<< ((own_mag q1) &&& 0x3f).toInt64) - (1 : Int64)))), .second, .val (.long (((own_high q1) <<< ((own_mag q1) &&& 0x3f).toInt64) ||| (((q1.toUInt64 >>> ((26 : Int32) &&& 0x3f).toInt64.toUInt64).toInt64) &&& (((1 : Int64) <<< ((own_mag q1) &&& 0x3f).toInt64) - (1 : Int64))))), .second, .unset, .unset] [(.int (22 : Int32)), (.long q1)]))
    refine OwnR.of (fun _ hr => XS.lushr X4.here hx rfl (hb hby d6_47) rfl hr) ?_
    show OwnR _ _ _ _ _ _ _ (T4.setTop (mkF m 48 #[.val (.long q1), .second, .val (.int (own_mag q1)), .val (.long (((q1.toUInt64 >>> ((26 : Int32) &&& 0x3f).toInt64.toUInt64).toInt64) &&& (((1 : Int64) <<< ((own_mag q1) &&& 0x3f).toInt64) - (1 : Int64)))), .second, .val (.long (((own_high q1) <<< ((own_mag q1) &&& 0x3f).toInt64) ||| (((q1.toUInt64 >>> ((26 : Int32) &&& 0x3f).toInt64.toUInt64).toInt64) &&& (((1 : Int64) <<< ((own_mag q1) &&& 0x3f).toInt64) - (1 : Int64))))), .second, .unset, .unset] [(.long ((q1.toUInt64 >>> ((22 : Int32) &&& 0x3f).toInt64.toUInt64).toInt64))]))
    refine OwnR.of (X4.ldc2Long hx hown (mvT hZ (hw _ (List.mem_of_getElem? (i := 32) rfl))) (g := (mkF m 48 #[.val (.long q1), .second, .val (.int (own_mag q1)), .val (.long (((q1.toUInt64 >>> ((26 : Int32) &&& 0x3f).toInt64.toUInt64).toInt64) &&& (((1 : Int64) <<< ((own_mag q1) &&& 0x3f).toInt64) - (1 : Int64)))), .second, .val (.long (((own_high q1) <<< ((own_mag q1) &&& 0x3f).toInt64) ||| (((q1.toUInt64 >>> ((26 : Int32) &&& 0x3f).toInt64.toUInt64).toInt64) &&& (((1 : Int64) <<< ((own_mag q1) &&& 0x3f).toInt64) - (1 : Int64))))), .second, .unset, .unset] [(.long ((q1.toUInt64 >>> ((22 : Int32) &&& 0x3f).toInt64.toUInt64).toInt64))])) rfl (hb hby d6_48)) ?_
    show OwnR _ _ _ _ _ _ _ (T4.setTop (mkF m 51 #[.val (.long q1), .second, .val (.int (own_mag q1)), .val (.long (((q1.toUInt64 >>> ((26 : Int32) &&& 0x3f).toInt64.toUInt64).toInt64) &&& (((1 : Int64) <<< ((own_mag q1) &&& 0x3f).toInt64) - (1 : Int64)))), .second, .val (.long (((own_high q1) <<< ((own_mag q1) &&& 0x3f).toInt64) ||| (((q1.toUInt64 >>> ((26 : Int32) &&& 0x3f).toInt64.toUInt64).toInt64) &&& (((1 : Int64) <<< ((own_mag q1) &&& 0x3f).toInt64) - (1 : Int64))))), .second, .unset, .unset] [(.long (1023 : Int64)), (.long ((q1.toUInt64 >>> ((22 : Int32) &&& 0x3f).toInt64.toUInt64).toInt64))]))
    refine OwnR.of (fun _ hr => XS.land X4.here hx rfl (hb hby d6_51) rfl hr) ?_
    show OwnR _ _ _ _ _ _ _ (T4.setTop (mkF m 52 #[.val (.long q1), .second, .val (.int (own_mag q1)), .val (.long (((q1.toUInt64 >>> ((26 : Int32) &&& 0x3f).toInt64.toUInt64).toInt64) &&& (((1 : Int64) <<< ((own_mag q1) &&& 0x3f).toInt64) - (1 : Int64)))), .second, .val (.long (((own_high q1) <<< ((own_mag q1) &&& 0x3f).toInt64) ||| (((q1.toUInt64 >>> ((26 : Int32) &&& 0x3f).toInt64.toUInt64).toInt64) &&& (((1 : Int64) <<< ((own_mag q1) &&& 0x3f).toInt64) - (1 : Int64))))), .second, .unset, .unset] [(.long (((q1.toUInt64 >>> ((22 : Int32) &&& 0x3f).toInt64.toUInt64).toInt64) &&& (1023 : Int64)))]))
    refine OwnR.of (X4.ldc2Long hx hown (mvT hZ (hw _ (List.mem_of_getElem? (i := 33) rfl))) (g := (mkF m 52 #[.val (.long q1), .second, .val (.int (own_mag q1)), .val (.long (((q1.toUInt64 >>> ((26 : Int32) &&& 0x3f).toInt64.toUInt64).toInt64) &&& (((1 : Int64) <<< ((own_mag q1) &&& 0x3f).toInt64) - (1 : Int64)))), .second, .val (.long (((own_high q1) <<< ((own_mag q1) &&& 0x3f).toInt64) ||| (((q1.toUInt64 >>> ((26 : Int32) &&& 0x3f).toInt64.toUInt64).toInt64) &&& (((1 : Int64) <<< ((own_mag q1) &&& 0x3f).toInt64) - (1 : Int64))))), .second, .unset, .unset] [(.long (((q1.toUInt64 >>> ((22 : Int32) &&& 0x3f).toInt64.toUInt64).toInt64) &&& (1023 : Int64)))])) rfl (hb hby d6_52)) ?_
    show OwnR _ _ _ _ _ _ _ (T4.setTop (mkF m 55 #[.val (.long q1), .second, .val (.int (own_mag q1)), .val (.long (((q1.toUInt64 >>> ((26 : Int32) &&& 0x3f).toInt64.toUInt64).toInt64) &&& (((1 : Int64) <<< ((own_mag q1) &&& 0x3f).toInt64) - (1 : Int64)))), .second, .val (.long (((own_high q1) <<< ((own_mag q1) &&& 0x3f).toInt64) ||| (((q1.toUInt64 >>> ((26 : Int32) &&& 0x3f).toInt64.toUInt64).toInt64) &&& (((1 : Int64) <<< ((own_mag q1) &&& 0x3f).toInt64) - (1 : Int64))))), .second, .unset, .unset] [(.long (1000 : Int64)), (.long (((q1.toUInt64 >>> ((22 : Int32) &&& 0x3f).toInt64.toUInt64).toInt64) &&& (1023 : Int64)))]))
    refine OwnR.of (fun _ hr => XS.lrem X4.here hx rfl (hb hby d6_55) rfl (by decide) hr) ?_
    show OwnR _ _ _ _ _ _ _ (T4.setTop (mkF m 56 #[.val (.long q1), .second, .val (.int (own_mag q1)), .val (.long (((q1.toUInt64 >>> ((26 : Int32) &&& 0x3f).toInt64.toUInt64).toInt64) &&& (((1 : Int64) <<< ((own_mag q1) &&& 0x3f).toInt64) - (1 : Int64)))), .second, .val (.long (((own_high q1) <<< ((own_mag q1) &&& 0x3f).toInt64) ||| (((q1.toUInt64 >>> ((26 : Int32) &&& 0x3f).toInt64.toUInt64).toInt64) &&& (((1 : Int64) <<< ((own_mag q1) &&& 0x3f).toInt64) - (1 : Int64))))), .second, .unset, .unset] [(.long ((((q1.toUInt64 >>> ((22 : Int32) &&& 0x3f).toInt64.toUInt64).toInt64) &&& (1023 : Int64)) - ((((q1.toUInt64 >>> ((22 : Int32) &&& 0x3f).toInt64.toUInt64).toInt64) &&& (1023 : Int64)) / (1000 : Int64)) * (1000 : Int64)))]))
    refine OwnR.of (fun _ hr => XS.lstore X4.here hx rfl (hb hby d6_56) rfl (l' := #[.val (.long q1), .second, .val (.int (own_mag q1)), .val (.long (((q1.toUInt64 >>> ((26 : Int32) &&& 0x3f).toInt64.toUInt64).toInt64) &&& (((1 : Int64) <<< ((own_mag q1) &&& 0x3f).toInt64) - (1 : Int64)))), .second, .val (.long (((own_high q1) <<< ((own_mag q1) &&& 0x3f).toInt64) ||| (((q1.toUInt64 >>> ((26 : Int32) &&& 0x3f).toInt64.toUInt64).toInt64) &&& (((1 : Int64) <<< ((own_mag q1) &&& 0x3f).toInt64) - (1 : Int64))))), .second, .val (.long ((((q1.toUInt64 >>> ((22 : Int32) &&& 0x3f).toInt64.toUInt64).toInt64) &&& (1023 : Int64)) - ((((q1.toUInt64 >>> ((22 : Int32) &&& 0x3f).toInt64.toUInt64).toInt64) &&& (1023 : Int64)) / (1000 : Int64)) * (1000 : Int64))), .second]) rfl hr) ?_
    show OwnR _ _ _ _ _ _ _ (T4.setTop (mkF m 58 #[.val (.long q1), .second, .val (.int (own_mag q1)), .val (.long (((q1.toUInt64 >>> ((26 : Int32) &&& 0x3f).toInt64.toUInt64).toInt64) &&& (((1 : Int64) <<< ((own_mag q1) &&& 0x3f).toInt64) - (1 : Int64)))), .second, .val (.long (((own_high q1) <<< ((own_mag q1) &&& 0x3f).toInt64) ||| (((q1.toUInt64 >>> ((26 : Int32) &&& 0x3f).toInt64.toUInt64).toInt64) &&& (((1 : Int64) <<< ((own_mag q1) &&& 0x3f).toInt64) - (1 : Int64))))), .second, .val (.long ((((q1.toUInt64 >>> ((22 : Int32) &&& 0x3f).toInt64.toUInt64).toInt64) &&& (1023 : Int64)) - ((((q1.toUInt64 >>> ((22 : Int32) &&& 0x3f).toInt64.toUInt64).toInt64) &&& (1023 : Int64)) / (1000 : Int64)) * (1000 : Int64))), .second] []))
    refine OwnR.of (fun _ hr => XS.lload X4.here hx rfl (hb hby d6_58) rfl hr) ?_
    show OwnR _ _ _ _ _ _ _ (T4.setTop (mkF m 60 #[.val (.long q1), .second, .val (.int (own_mag q1)), .val (.long (((q1.toUInt64 >>> ((26 : Int32) &&& 0x3f).toInt64.toUInt64).toInt64) &&& (((1 : Int64) <<< ((own_mag q1) &&& 0x3f).toInt64) - (1 : Int64)))), .second, .val (.long (((own_high q1) <<< ((own_mag q1) &&& 0x3f).toInt64) ||| (((q1.toUInt64 >>> ((26 : Int32) &&& 0x3f).toInt64.toUInt64).toInt64) &&& (((1 : Int64) <<< ((own_mag q1) &&& 0x3f).toInt64) - (1 : Int64))))), .second, .val (.long ((((q1.toUInt64 >>> ((22 : Int32) &&& 0x3f).toInt64.toUInt64).toInt64) &&& (1023 : Int64)) - ((((q1.toUInt64 >>> ((22 : Int32) &&& 0x3f).toInt64.toUInt64).toInt64) &&& (1023 : Int64)) / (1000 : Int64)) * (1000 : Int64))), .second] [(.long (((own_high q1) <<< ((own_mag q1) &&& 0x3f).toInt64) ||| (((q1.toUInt64 >>> ((26 : Int32) &&& 0x3f).toInt64.toUInt64).toInt64) &&& (((1 : Int64) <<< ((own_mag q1) &&& 0x3f).toInt64) - (1 : Int64)))))]))
    refine OwnR.of (X4.ldc2Long hx hown (mvT hZ (hw _ (List.mem_of_getElem? (i := 33) rfl))) (g := (mkF m 60 #[.val (.long q1), .second, .val (.int (own_mag q1)), .val (.long (((q1.toUInt64 >>> ((26 : Int32) &&& 0x3f).toInt64.toUInt64).toInt64) &&& (((1 : Int64) <<< ((own_mag q1) &&& 0x3f).toInt64) - (1 : Int64)))), .second, .val (.long (((own_high q1) <<< ((own_mag q1) &&& 0x3f).toInt64) ||| (((q1.toUInt64 >>> ((26 : Int32) &&& 0x3f).toInt64.toUInt64).toInt64) &&& (((1 : Int64) <<< ((own_mag q1) &&& 0x3f).toInt64) - (1 : Int64))))), .second, .val (.long ((((q1.toUInt64 >>> ((22 : Int32) &&& 0x3f).toInt64.toUInt64).toInt64) &&& (1023 : Int64)) - ((((q1.toUInt64 >>> ((22 : Int32) &&& 0x3f).toInt64.toUInt64).toInt64) &&& (1023 : Int64)) / (1000 : Int64)) * (1000 : Int64))), .second] [(.long (((own_high q1) <<< ((own_mag q1) &&& 0x3f).toInt64) ||| (((q1.toUInt64 >>> ((26 : Int32) &&& 0x3f).toInt64.toUInt64).toInt64) &&& (((1 : Int64) <<< ((own_mag q1) &&& 0x3f).toInt64) - (1 : Int64)))))])) rfl (hb hby d6_60)) ?_
    show OwnR _ _ _ _ _ _ _ (T4.setTop (mkF m 63 #[.val (.long q1), .second, .val (.int (own_mag q1)), .val (.long (((q1.toUInt64 >>> ((26 : Int32) &&& 0x3f).toInt64.toUInt64).toInt64) &&& (((1 : Int64) <<< ((own_mag q1) &&& 0x3f).toInt64) - (1 : Int64)))), .second, .val (.long (((own_high q1) <<< ((own_mag q1) &&& 0x3f).toInt64) ||| (((q1.toUInt64 >>> ((26 : Int32) &&& 0x3f).toInt64.toUInt64).toInt64) &&& (((1 : Int64) <<< ((own_mag q1) &&& 0x3f).toInt64) - (1 : Int64))))), .second, .val (.long ((((q1.toUInt64 >>> ((22 : Int32) &&& 0x3f).toInt64.toUInt64).toInt64) &&& (1023 : Int64)) - ((((q1.toUInt64 >>> ((22 : Int32) &&& 0x3f).toInt64.toUInt64).toInt64) &&& (1023 : Int64)) / (1000 : Int64)) * (1000 : Int64))), .second] [(.long (1000 : Int64)), (.long (((own_high q1) <<< ((own_mag q1) &&& 0x3f).toInt64) ||| (((q1.toUInt64 >>> ((26 : Int32) &&& 0x3f).toInt64.toUInt64).toInt64) &&& (((1 : Int64) <<< ((own_mag q1) &&& 0x3f).toInt64) - (1 : Int64)))))]))
    refine OwnR.of (fun _ hr => XS.lmul X4.here hx rfl (hb hby d6_63) rfl hr) ?_
    show OwnR _ _ _ _ _ _ _ (T4.setTop (mkF m 64 #[.val (.long q1), .second, .val (.int (own_mag q1)), .val (.long (((q1.toUInt64 >>> ((26 : Int32) &&& 0x3f).toInt64.toUInt64).toInt64) &&& (((1 : Int64) <<< ((own_mag q1) &&& 0x3f).toInt64) - (1 : Int64)))), .second, .val (.long (((own_high q1) <<< ((own_mag q1) &&& 0x3f).toInt64) ||| (((q1.toUInt64 >>> ((26 : Int32) &&& 0x3f).toInt64.toUInt64).toInt64) &&& (((1 : Int64) <<< ((own_mag q1) &&& 0x3f).toInt64) - (1 : Int64))))), .second, .val (.long ((((q1.toUInt64 >>> ((22 : Int32) &&& 0x3f).toInt64.toUInt64).toInt64) &&& (1023 : Int64)) - ((((q1.toUInt64 >>> ((22 : Int32) &&& 0x3f).toInt64.toUInt64).toInt64) &&& (1023 : Int64)) / (1000 : Int64)) * (1000 : Int64))), .second] [(.long ((((own_high q1) <<< ((own_mag q1) &&& 0x3f).toInt64) ||| (((q1.toUInt64 >>> ((26 : Int32) &&& 0x3f).toInt64.toUInt64).toInt64) &&& (((1 : Int64) <<< ((own_mag q1) &&& 0x3f).toInt64) - (1 : Int64)))) * (1000 : Int64)))]))
    refine OwnR.of (fun _ hr => XS.lload X4.here hx rfl (hb hby d6_64) rfl hr) ?_
    show OwnR _ _ _ _ _ _ _ (T4.setTop (mkF m 66 #[.val (.long q1), .second, .val (.int (own_mag q1)), .val (.long (((q1.toUInt64 >>> ((26 : Int32) &&& 0x3f).toInt64.toUInt64).toInt64) &&& (((1 : Int64) <<< ((own_mag q1) &&& 0x3f).toInt64) - (1 : Int64)))), .second, .val (.long (((own_high q1) <<< ((own_mag q1) &&& 0x3f).toInt64) ||| (((q1.toUInt64 >>> ((26 : Int32) &&& 0x3f).toInt64.toUInt64).toInt64) &&& (((1 : Int64) <<< ((own_mag q1) &&& 0x3f).toInt64) - (1 : Int64))))), .second, .val (.long ((((q1.toUInt64 >>> ((22 : Int32) &&& 0x3f).toInt64.toUInt64).toInt64) &&& (1023 : Int64)) - ((((q1.toUInt64 >>> ((22 : Int32) &&& 0x3f).toInt64.toUInt64).toInt64) &&& (1023 : Int64)) / (1000 : Int64)) * (1000 : Int64))), .second] [(.long ((((q1.toUInt64 >>> ((22 : Int32) &&& 0x3f).toInt64.toUInt64).toInt64) &&& (1023 : Int64)) - ((((q1.toUInt64 >>> ((22 : Int32) &&& 0x3f).toInt64.toUInt64).toInt64) &&& (1023 : Int64)) / (1000 : Int64)) * (1000 : Int64))), (.long ((((own_high q1) <<< ((own_mag q1) &&& 0x3f).toInt64) ||| (((q1.toUInt64 >>> ((26 : Int32) &&& 0x3f).toInt64.toUInt64).toInt64) &&& (((1 : Int64) <<< ((own_mag q1) &&& 0x3f).toInt64) - (1 : Int64)))) * (1000 : Int64)))]))
    refine OwnR.of (fun _ hr => XS.ladd X4.here hx rfl (hb hby d6_66) rfl hr) ?_
    show OwnR _ _ _ _ _ _ _ (T4.setTop (mkF m 67 #[.val (.long q1), .second, .val (.int (own_mag q1)), .val (.long (((q1.toUInt64 >>> ((26 : Int32) &&& 0x3f).toInt64.toUInt64).toInt64) &&& (((1 : Int64) <<< ((own_mag q1) &&& 0x3f).toInt64) - (1 : Int64)))), .second, .val (.long (((own_high q1) <<< ((own_mag q1) &&& 0x3f).toInt64) ||| (((q1.toUInt64 >>> ((26 : Int32) &&& 0x3f).toInt64.toUInt64).toInt64) &&& (((1 : Int64) <<< ((own_mag q1) &&& 0x3f).toInt64) - (1 : Int64))))), .second, .val (.long ((((q1.toUInt64 >>> ((22 : Int32) &&& 0x3f).toInt64.toUInt64).toInt64) &&& (1023 : Int64)) - ((((q1.toUInt64 >>> ((22 : Int32) &&& 0x3f).toInt64.toUInt64).toInt64) &&& (1023 : Int64)) / (1000 : Int64)) * (1000 : Int64))), .second] [(.long (((((own_high q1) <<< ((own_mag q1) &&& 0x3f).toInt64) ||| (((q1.toUInt64 >>> ((26 : Int32) &&& 0x3f).toInt64.toUInt64).toInt64) &&& (((1 : Int64) <<< ((own_mag q1) &&& 0x3f).toInt64) - (1 : Int64)))) * (1000 : Int64)) + ((((q1.toUInt64 >>> ((22 : Int32) &&& 0x3f).toInt64.toUInt64).toInt64) &&& (1023 : Int64)) - ((((q1.toUInt64 >>> ((22 : Int32) &&& 0x3f).toInt64.toUInt64).toInt64) &&& (1023 : Int64)) / (1000 : Int64)) * (1000 : Int64))))]))
    refine own_leafJ X4 hx hlk Bd.returns (hb hby d6_67) (by decide) (by decide) ?_
    show QNanos Z q1 h0 n0 _ T4.heap _
    rw [show T4.heap = h0 from e4]
    refine ⟨?_, N4, rfl⟩
    show (some (.long (((((own_high q1) <<< ((own_mag q1) &&& 0x3f).toInt64) ||| (((q1.toUInt64 >>> ((26 : Int32) &&& 0x3f).toInt64.toUInt64).toInt64) &&& (((1 : Int64) <<< ((own_mag q1) &&& 0x3f).toInt64) - (1 : Int64)))) * (1000 : Int64)) + ((((q1.toUInt64 >>> ((22 : Int32) &&& 0x3f).toInt64.toUInt64).toInt64) &&& (1023 : Int64)) - ((((q1.toUInt64 >>> ((22 : Int32) &&& 0x3f).toInt64.toUInt64).toInt64) &&& (1023 : Int64)) / (1000 : Int64)) * (1000 : Int64)))) : Option Value) = some (.long (own_nanos q1))
    simp only [own_nanos, own_micros, own_rest, if_neg hc9_2]
theorem pn_java_lang_Integer : plainName "java/lang/Integer" = true := by first | (simp [plainName, overriddenIn]; done) | decide +kernel
theorem ef_rmNl (m : MethodId) (x0 : Int32) : entryFrame m #[(.int x0)] 2 = mkF m 0 #[.val (.int x0), .unset] [] := by first | (simp [entryFrame, mkF, argsToLocals, Value.category]; done) | rfl
theorem d11_0 : decode jdk_33_method_47_code 0 = .ok (.iload_n 0, 1) := by decide +kernel
theorem d11_1 : decode jdk_33_method_47_code 1 = .ok (.ifCond .gt 14, 3) := by decide +kernel
theorem d11_15 : decode jdk_33_method_47_code 15 = .ok (.bipush 31, 2) := by decide +kernel
theorem d11_17 : decode jdk_33_method_47_code 17 = .ok (.istore_n 1, 1) := by decide +kernel
theorem d11_18 : decode jdk_33_method_47_code 18 = .ok (.iload_n 0, 1) := by decide +kernel
theorem d11_19 : decode jdk_33_method_47_code 19 = .ok (.ldc_w 264, 3) := by decide +kernel
theorem d11_22 : decode jdk_33_method_47_code 22 = .ok (.if_icmp .lt 11, 3) := by decide +kernel
theorem d11_25 : decode jdk_33_method_47_code 25 = .ok (.iinc 1 (-16), 3) := by decide +kernel
theorem d11_28 : decode jdk_33_method_47_code 28 = .ok (.iload_n 0, 1) := by decide +kernel
theorem d11_29 : decode jdk_33_method_47_code 29 = .ok (.bipush 16, 2) := by decide +kernel
theorem d11_31 : decode jdk_33_method_47_code 31 = .ok (.iushr, 1) := by decide +kernel
theorem d11_32 : decode jdk_33_method_47_code 32 = .ok (.istore_n 0, 1) := by decide +kernel
theorem d11_33 : decode jdk_33_method_47_code 33 = .ok (.iload_n 0, 1) := by decide +kernel
theorem d11_34 : decode jdk_33_method_47_code 34 = .ok (.sipush 256, 3) := by decide +kernel
theorem d11_37 : decode jdk_33_method_47_code 37 = .ok (.if_icmp .lt 11, 3) := by decide +kernel
theorem d11_40 : decode jdk_33_method_47_code 40 = .ok (.iinc 1 (-8), 3) := by decide +kernel
theorem d11_43 : decode jdk_33_method_47_code 43 = .ok (.iload_n 0, 1) := by decide +kernel
theorem d11_44 : decode jdk_33_method_47_code 44 = .ok (.bipush 8, 2) := by decide +kernel
theorem d11_46 : decode jdk_33_method_47_code 46 = .ok (.iushr, 1) := by decide +kernel
theorem d11_47 : decode jdk_33_method_47_code 47 = .ok (.istore_n 0, 1) := by decide +kernel
theorem d11_48 : decode jdk_33_method_47_code 48 = .ok (.iload_n 0, 1) := by decide +kernel
theorem d11_49 : decode jdk_33_method_47_code 49 = .ok (.bipush 16, 2) := by decide +kernel
theorem d11_51 : decode jdk_33_method_47_code 51 = .ok (.if_icmp .lt 10, 3) := by decide +kernel
theorem d11_54 : decode jdk_33_method_47_code 54 = .ok (.iinc 1 (-4), 3) := by decide +kernel
theorem d11_57 : decode jdk_33_method_47_code 57 = .ok (.iload_n 0, 1) := by decide +kernel
theorem d11_58 : decode jdk_33_method_47_code 58 = .ok (.iconst 4, 1) := by decide +kernel
theorem d11_59 : decode jdk_33_method_47_code 59 = .ok (.iushr, 1) := by decide +kernel
theorem d11_60 : decode jdk_33_method_47_code 60 = .ok (.istore_n 0, 1) := by decide +kernel
theorem d11_61 : decode jdk_33_method_47_code 61 = .ok (.iload_n 0, 1) := by decide +kernel
theorem d11_62 : decode jdk_33_method_47_code 62 = .ok (.iconst 4, 1) := by decide +kernel
theorem d11_63 : decode jdk_33_method_47_code 63 = .ok (.if_icmp .lt 10, 3) := by decide +kernel
theorem d11_66 : decode jdk_33_method_47_code 66 = .ok (.iinc 1 (-2), 3) := by decide +kernel
theorem d11_69 : decode jdk_33_method_47_code 69 = .ok (.iload_n 0, 1) := by decide +kernel
theorem d11_70 : decode jdk_33_method_47_code 70 = .ok (.iconst 2, 1) := by decide +kernel
theorem d11_71 : decode jdk_33_method_47_code 71 = .ok (.iushr, 1) := by decide +kernel
theorem d11_72 : decode jdk_33_method_47_code 72 = .ok (.istore_n 0, 1) := by decide +kernel
theorem d11_73 : decode jdk_33_method_47_code 73 = .ok (.iload_n 1, 1) := by decide +kernel
theorem d11_74 : decode jdk_33_method_47_code 74 = .ok (.iload_n 0, 1) := by decide +kernel
theorem d11_75 : decode jdk_33_method_47_code 75 = .ok (.iconst 1, 1) := by decide +kernel
theorem d11_76 : decode jdk_33_method_47_code 76 = .ok (.iushr, 1) := by decide +kernel
theorem d11_77 : decode jdk_33_method_47_code 77 = .ok (.isub, 1) := by decide +kernel
theorem d11_78 : decode jdk_33_method_47_code 78 = .ok (.ireturn, 1) := by decide +kernel
theorem d11_4 : decode jdk_33_method_47_code 4 = .ok (.iload_n 0, 1) := by decide +kernel
theorem d11_5 : decode jdk_33_method_47_code 5 = .ok (.ifCond .ne 8, 3) := by decide +kernel
theorem d11_8 : decode jdk_33_method_47_code 8 = .ok (.bipush 32, 2) := by decide +kernel
theorem d11_10 : decode jdk_33_method_47_code 10 = .ok (.goto 4, 3) := by decide +kernel
theorem d11_14 : decode jdk_33_method_47_code 14 = .ok (.ireturn, 1) := by decide +kernel
theorem d11_13 : decode jdk_33_method_47_code 13 = .ok (.iconst 0, 1) := by decide +kernel
def QNl (Z : State) (p1 : Int32) (h0 : Heap) (n0 : Nat) (v : Option Value) (h : Heap) (L : List Loc) : Prop := v = some (.int (own_nl p1)) ∧ Fr n0 L ∧ h = h0
set_option maxRecDepth 65536 in
set_option maxHeartbeats 40000000 in
theorem rmNl (l : Launch) (Z : State) (a0 : Array Value) (hw : ∀ d ∈ tables_1, d.before a0 Z = true) (ws : List Jvm.Cond) (p1 : Int32) (h0 : Heap) (n0 : Nat) (Z0 : n0 ≤ h0.size) :
    MetFree l (⟨"java/lang/Integer", "numberOfLeadingZeros", "(I)I"⟩ : MethodName) (head1 (Jvm.Cond.code (⟨"java/lang/Integer", "numberOfLeadingZeros", "(I)I"⟩ : MethodName) jdk_33_method_47_code 2 (some .int) :: ws) ({ frames := 0, cells := 0, slots := 0, locals := 0 } : Room)) (fun a U => a = #[(.int p1)] ∧ Z.Warmed39 U.vm ∧ U.heap = h0) (fun _ _ _ _ _ => True) (fun _ U o U' => ∃ v L, o = .returned v ∧ QNl Z p1 h0 n0 v U'.heap L ∧ FrameEnd U o U' L ({ frames := 0, cells := 0, slots := 0, locals := 0 } : Room).cells ({ frames := 0, cells := 0, slots := 0, locals := 0 } : Room).slots) := by
  refine MetFree.of_bodySF (plainFor_of_name pn_java_lang_Integer) hisR ?_
  intro p e s m args below meth c s₁ Bd hml0 hP hK
  obtain ⟨rfl, hZ, hh⟩ := hP
  have hx := Bd.exec
  have hby := Bd.bytes
  have hlk := BodyLoose.notSynchronized Bd
  have hml : c.maxLocals = 2 := hml0
  have hown : s.vm.findClass "java/lang/Integer" = some m.cls := findClass_of_methodNamed Bd.named
  have hnm := (name_of_methodNamed Bd.named Bd.method).1
  have X0 : Stand p l e ({ frames := 0, cells := 0, slots := 0, locals := 0 } : Room) s m #[(.int p1)] below meth c s₁ [] 0 0 := Stand.of_body Bd
  have e0 : s₁.heap = h0 := by rw [← hh, Bd.state]; rfl
  have N0 := Fr.nil n0
  refine OwnR.of (s := s) (Q := QNl Z p1 h0 n0) (fun t k => castTop (ef_rmNl m p1) k) ?_
  show OwnR _ _ _ _ _ _ _ (s₁.setTop (mkF m 0 #[.val (.int p1), .unset] []))
  refine OwnR.of (fun _ hr => XS.iloadN X0.here hx rfl (hb hby d11_0) rfl hr) ?_
  show OwnR _ _ _ _ _ _ _ (s₁.setTop (mkF m 1 #[.val (.int p1), .unset] [(.int p1)]))
  by_cases hc1_2 : (0 : Int32) < p1
  · skip
    refine OwnR.of (fun _ hr => XS.ifYes X0.here hx rfl (pc0 := 1) (pc' := 15) rfl (hb hby d11_1) rfl ((if0 _ _).trans (tlt hc1_2).2.2.1) (by decide) (by decide) hr) ?_
    show OwnR _ _ _ _ _ _ _ (s₁.setTop (mkF m 15 #[.val (.int p1), .unset] []))
    refine OwnR.of (fun _ hr => XS.bipush X0.here hx rfl (hb hby d11_15) hr) ?_
    show OwnR _ _ _ _ _ _ _ (s₁.setTop (mkF m 17 #[.val (.int p1), .unset] [(.int (31 : Int32))]))
    refine OwnR.of (fun _ hr => XS.istoreN X0.here hx rfl (hb hby d11_17) rfl (l' := #[.val (.int p1), .val (.int (31 : Int32))]) rfl hr) ?_
    show OwnR _ _ _ _ _ _ _ (s₁.setTop (mkF m 18 #[.val (.int p1), .val (.int (31 : Int32))] []))
    refine OwnR.of (fun _ hr => XS.iloadN X0.here hx rfl (hb hby d11_18) rfl hr) ?_
    show OwnR _ _ _ _ _ _ _ (s₁.setTop (mkF m 19 #[.val (.int p1), .val (.int (31 : Int32))] [(.int p1)]))
    refine OwnR.of (X0.ldcwInt hx hown (mvT hZ (hw _ (List.mem_of_getElem? (i := 55) rfl))) (g := (mkF m 19 #[.val (.int p1), .val (.int (31 : Int32))] [(.int p1)])) rfl (hb hby d11_19)) ?_
    show OwnR _ _ _ _ _ _ _ (s₁.setTop (mkF m 22 #[.val (.int p1), .val (.int (31 : Int32))] [(.int (65536 : Int32)), (.int p1)]))
    obtain ⟨v3, hv3⟩ : ∃ z : Int32, z = (if p1 < (65536 : Int32) then p1 else ((p1.toUInt32 >>> ((16 : Int32) &&& 31).toUInt32).toInt32)) := ⟨_, rfl⟩
    obtain ⟨v4, hv4⟩ : ∃ z : Int32, z = (if p1 < (65536 : Int32) then (31 : Int32) else (15 : Int32)) := ⟨_, rfl⟩
    suffices J33_5 : OwnR p e below s (QNl Z p1 h0 n0) ({ frames := 0, cells := 0, slots := 0, locals := 0 } : Room).cells ({ frames := 0, cells := 0, slots := 0, locals := 0 } : Room).slots (s₁.setTop (mkF m 33 #[.val (.int v3), .val (.int v4)] [])) by
      by_cases hc22_6 : p1 < (65536 : Int32)
      · skip
        refine OwnR.of (fun _ hr => XS.icmpYes X0.here hx rfl (pc0 := 22) (pc' := 33) rfl (hb hby d11_22) rfl (tlt hc22_6).1 (by decide) (by decide) hr) ?_
        show OwnR _ _ _ _ _ _ _ (s₁.setTop (mkF m 33 #[.val (.int p1), .val (.int (31 : Int32))] []))
        simp only [if_pos hc22_6] at hv3
        simp only [if_pos hc22_6] at hv4
        subst hv3
        subst hv4
        exact J33_5
      · skip
        refine OwnR.of (fun _ hr => XS.icmpNo X0.here hx rfl (hb hby d11_22) rfl (flt hc22_6).1 hr) ?_
        show OwnR _ _ _ _ _ _ _ (s₁.setTop (mkF m 25 #[.val (.int p1), .val (.int (31 : Int32))] []))
        refine OwnR.of (fun _ hr => XS.iinc X0.here hx rfl (hb hby d11_25) rfl (l' := #[.val (.int p1), .val (.int ((31 : Int32) + (-16 : Int32)))]) rfl hr) ?_
        show OwnR _ _ _ _ _ _ _ (s₁.setTop (mkF m 28 #[.val (.int p1), .val (.int ((31 : Int32) + (-16 : Int32)))] []))
        rw [(by decide : ((31 : Int32) + (-16 : Int32)) = (15 : Int32))]
        show OwnR _ _ _ _ _ _ _ (s₁.setTop (mkF m 28 #[.val (.int p1), .val (.int (15 : Int32))] []))
        refine OwnR.of (fun _ hr => XS.iloadN X0.here hx rfl (hb hby d11_28) rfl hr) ?_
        show OwnR _ _ _ _ _ _ _ (s₁.setTop (mkF m 29 #[.val (.int p1), .val (.int (15 : Int32))] [(.int p1)]))
        refine OwnR.of (fun _ hr => XS.bipush X0.here hx rfl (hb hby d11_29) hr) ?_
        show OwnR _ _ _ _ _ _ _ (s₁.setTop (mkF m 31 #[.val (.int p1), .val (.int (15 : Int32))] [(.int (16 : Int32)), (.int p1)]))
        refine OwnR.of (fun _ hr => XS.iushr X0.here hx rfl (hb hby d11_31) rfl hr) ?_
        show OwnR _ _ _ _ _ _ _ (s₁.setTop (mkF m 32 #[.val (.int p1), .val (.int (15 : Int32))] [(.int ((p1.toUInt32 >>> ((16 : Int32) &&& 31).toUInt32).toInt32))]))
        refine OwnR.of (fun _ hr => XS.istoreN X0.here hx rfl (hb hby d11_32) rfl (l' := #[.val (.int ((p1.toUInt32 >>> ((16 : Int32) &&& 31).toUInt32).toInt32)), .val (.int (15 : Int32))]) rfl hr) ?_
        show OwnR _ _ _ _ _ _ _ (s₁.setTop (mkF m 33 #[.val (.int ((p1.toUInt32 >>> ((16 : Int32) &&& 31).toUInt32).toInt32)), .val (.int (15 : Int32))] []))
        simp only [if_neg hc22_6] at hv3
        simp only [if_neg hc22_6] at hv4
        subst hv3
        subst hv4
        exact J33_5
    refine OwnR.of (fun _ hr => XS.iloadN X0.here hx rfl (hb hby d11_33) rfl hr) ?_
    show OwnR _ _ _ _ _ _ _ (s₁.setTop (mkF m 34 #[.val (.int v3), .val (.int v4)] [(.int v3)]))
    refine OwnR.of (fun _ hr => XS.sipush X0.here hx rfl (hb hby d11_34) hr) ?_
    show OwnR _ _ _ _ _ _ _ (s₁.setTop (mkF m 37 #[.val (.int v3), .val (.int v4)] [(.int (256 : Int32)), (.int v3)]))
    obtain ⟨v7, hv7⟩ : ∃ z : Int32, z = (if v3 < (256 : Int32) then v3 else ((v3.toUInt32 >>> ((8 : Int32) &&& 31).toUInt32).toInt32)) := ⟨_, rfl⟩
    obtain ⟨v8, hv8⟩ : ∃ z : Int32, z = (if v3 < (256 : Int32) then v4 else (v4 + (-8 : Int32))) := ⟨_, rfl⟩
    suffices J48_9 : OwnR p e below s (QNl Z p1 h0 n0) ({ frames := 0, cells := 0, slots := 0, locals := 0 } : Room).cells ({ frames := 0, cells := 0, slots := 0, locals := 0 } : Room).slots (s₁.setTop (mkF m 48 #[.val (.int v7), .val (.int v8)] [])) by
      by_cases hc37_10 : v3 < (256 : Int32)
      · skip
        refine OwnR.of (fun _ hr => XS.icmpYes X0.here hx rfl (pc0 := 37) (pc' := 48) rfl (hb hby d11_37) rfl (tlt hc37_10).1 (by decide) (by decide) hr) ?_
        show OwnR _ _ _ _ _ _ _ (s₁.setTop (mkF m 48 #[.val (.int v3), .val (.int v4)] []))
        simp only [if_pos hc37_10] at hv7
        simp only [if_pos hc37_10] at hv8
        subst hv7
        subst hv8
        exact J48_9
      · skip
        refine OwnR.of (fun _ hr => XS.icmpNo X0.here hx rfl (hb hby d11_37) rfl (flt hc37_10).1 hr) ?_
        show OwnR _ _ _ _ _ _ _ (s₁.setTop (mkF m 40 #[.val (.int v3), .val (.int v4)] []))
        refine OwnR.of (fun _ hr => XS.iinc X0.here hx rfl (hb hby d11_40) rfl (l' := #[.val (.int v3), .val (.int (v4 + (-8 : Int32)))]) rfl hr) ?_
        show OwnR _ _ _ _ _ _ _ (s₁.setTop (mkF m 43 #[.val (.int v3), .val (.int (v4 + (-8 : Int32)))] []))
        refine OwnR.of (fun _ hr => XS.iloadN X0.here hx rfl (hb hby d11_43) rfl hr) ?_
        show OwnR _ _ _ _ _ _ _ (s₁.setTop (mkF m 44 #[.val (.int v3), .val (.int (v4 + (-8 : Int32)))] [(.int v3)]))
        refine OwnR.of (fun _ hr => XS.bipush X0.here hx rfl (hb hby d11_44) hr) ?_
        show OwnR _ _ _ _ _ _ _ (s₁.setTop (mkF m 46 #[.val (.int v3), .val (.int (v4 + (-8 : Int32)))] [(.int (8 : Int32)), (.int v3)]))
        refine OwnR.of (fun _ hr => XS.iushr X0.here hx rfl (hb hby d11_46) rfl hr) ?_
        show OwnR _ _ _ _ _ _ _ (s₁.setTop (mkF m 47 #[.val (.int v3), .val (.int (v4 + (-8 : Int32)))] [(.int ((v3.toUInt32 >>> ((8 : Int32) &&& 31).toUInt32).toInt32))]))
        refine OwnR.of (fun _ hr => XS.istoreN X0.here hx rfl (hb hby d11_47) rfl (l' := #[.val (.int ((v3.toUInt32 >>> ((8 : Int32) &&& 31).toUInt32).toInt32)), .val (.int (v4 + (-8 : Int32)))]) rfl hr) ?_
        show OwnR _ _ _ _ _ _ _ (s₁.setTop (mkF m 48 #[.val (.int ((v3.toUInt32 >>> ((8 : Int32) &&& 31).toUInt32).toInt32)), .val (.int (v4 + (-8 : Int32)))] []))
        simp only [if_neg hc37_10] at hv7
        simp only [if_neg hc37_10] at hv8
        subst hv7
        subst hv8
        exact J48_9
    refine OwnR.of (fun _ hr => XS.iloadN X0.here hx rfl (hb hby d11_48) rfl hr) ?_
    show OwnR _ _ _ _ _ _ _ (s₁.setTop (mkF m 49 #[.val (.int v7), .val (.int v8)] [(.int v7)]))
    refine OwnR.of (fun _ hr => XS.bipush X0.here hx rfl (hb hby d11_49) hr) ?_
    show OwnR _ _ _ _ _ _ _ (s₁.setTop (mkF m 51 #[.val (.int v7), .val (.int v8)] [(.int (16 : Int32)), (.int v7)]))
    obtain ⟨v11, hv11⟩ : ∃ z : Int32, z = (if v7 < (16 : Int32) then v7 else ((v7.toUInt32 >>> ((4 : Int32) &&& 31).toUInt32).toInt32)) := ⟨_, rfl⟩
    obtain ⟨v12, hv12⟩ : ∃ z : Int32, z = (if v7 < (16 : Int32) then v8 else (v8 + (-4 : Int32))) := ⟨_, rfl⟩
    suffices J61_13 : OwnR p e below s (QNl Z p1 h0 n0) ({ frames := 0, cells := 0, slots := 0, locals := 0 } : Room).cells ({ frames := 0, cells := 0, slots := 0, locals := 0 } : Room).slots (s₁.setTop (mkF m 61 #[.val (.int v11), .val (.int v12)] [])) by
      by_cases hc51_14 : v7 < (16 : Int32)
      · skip
        refine OwnR.of (fun _ hr => XS.icmpYes X0.here hx rfl (pc0 := 51) (pc' := 61) rfl (hb hby d11_51) rfl (tlt hc51_14).1 (by decide) (by decide) hr) ?_
        show OwnR _ _ _ _ _ _ _ (s₁.setTop (mkF m 61 #[.val (.int v7), .val (.int v8)] []))
        simp only [if_pos hc51_14] at hv11
        simp only [if_pos hc51_14] at hv12
        subst hv11
        subst hv12
        exact J61_13
      · skip
        refine OwnR.of (fun _ hr => XS.icmpNo X0.here hx rfl (hb hby d11_51) rfl (flt hc51_14).1 hr) ?_
        show OwnR _ _ _ _ _ _ _ (s₁.setTop (mkF m 54 #[.val (.int v7), .val (.int v8)] []))
        refine OwnR.of (fun _ hr => XS.iinc X0.here hx rfl (hb hby d11_54) rfl (l' := #[.val (.int v7), .val (.int (v8 + (-4 : Int32)))]) rfl hr) ?_
        show OwnR _ _ _ _ _ _ _ (s₁.setTop (mkF m 57 #[.val (.int v7), .val (.int (v8 + (-4 : Int32)))] []))
        refine OwnR.of (fun _ hr => XS.iloadN X0.here hx rfl (hb hby d11_57) rfl hr) ?_
        show OwnR _ _ _ _ _ _ _ (s₁.setTop (mkF m 58 #[.val (.int v7), .val (.int (v8 + (-4 : Int32)))] [(.int v7)]))
        refine OwnR.of (fun _ hr => XS.iconst X0.here hx rfl (hb hby d11_58) hr) ?_
        show OwnR _ _ _ _ _ _ _ (s₁.setTop (mkF m 59 #[.val (.int v7), .val (.int (v8 + (-4 : Int32)))] [(.int (4 : Int32)), (.int v7)]))
        refine OwnR.of (fun _ hr => XS.iushr X0.here hx rfl (hb hby d11_59) rfl hr) ?_
        show OwnR _ _ _ _ _ _ _ (s₁.setTop (mkF m 60 #[.val (.int v7), .val (.int (v8 + (-4 : Int32)))] [(.int ((v7.toUInt32 >>> ((4 : Int32) &&& 31).toUInt32).toInt32))]))
        refine OwnR.of (fun _ hr => XS.istoreN X0.here hx rfl (hb hby d11_60) rfl (l' := #[.val (.int ((v7.toUInt32 >>> ((4 : Int32) &&& 31).toUInt32).toInt32)), .val (.int (v8 + (-4 : Int32)))]) rfl hr) ?_
        show OwnR _ _ _ _ _ _ _ (s₁.setTop (mkF m 61 #[.val (.int ((v7.toUInt32 >>> ((4 : Int32) &&& 31).toUInt32).toInt32)), .val (.int (v8 + (-4 : Int32)))] []))
        simp only [if_neg hc51_14] at hv11
        simp only [if_neg hc51_14] at hv12
        subst hv11
        subst hv12
        exact J61_13
    refine OwnR.of (fun _ hr => XS.iloadN X0.here hx rfl (hb hby d11_61) rfl hr) ?_
    show OwnR _ _ _ _ _ _ _ (s₁.setTop (mkF m 62 #[.val (.int v11), .val (.int v12)] [(.int v11)]))
    refine OwnR.of (fun _ hr => XS.iconst X0.here hx rfl (hb hby d11_62) hr) ?_
    show OwnR _ _ _ _ _ _ _ (s₁.setTop (mkF m 63 #[.val (.int v11), .val (.int v12)] [(.int (4 : Int32)), (.int v11)]))
    obtain ⟨v15, hv15⟩ : ∃ z : Int32, z = (if v11 < (4 : Int32) then v11 else ((v11.toUInt32 >>> ((2 : Int32) &&& 31).toUInt32).toInt32)) := ⟨_, rfl⟩
    obtain ⟨v16, hv16⟩ : ∃ z : Int32, z = (if v11 < (4 : Int32) then v12 else (v12 + (-2 : Int32))) := ⟨_, rfl⟩
    suffices J73_17 : OwnR p e below s (QNl Z p1 h0 n0) ({ frames := 0, cells := 0, slots := 0, locals := 0 } : Room).cells ({ frames := 0, cells := 0, slots := 0, locals := 0 } : Room).slots (s₁.setTop (mkF m 73 #[.val (.int v15), .val (.int v16)] [])) by
      by_cases hc63_18 : v11 < (4 : Int32)
      · skip
        refine OwnR.of (fun _ hr => XS.icmpYes X0.here hx rfl (pc0 := 63) (pc' := 73) rfl (hb hby d11_63) rfl (tlt hc63_18).1 (by decide) (by decide) hr) ?_
        show OwnR _ _ _ _ _ _ _ (s₁.setTop (mkF m 73 #[.val (.int v11), .val (.int v12)] []))
        simp only [if_pos hc63_18] at hv15
        simp only [if_pos hc63_18] at hv16
        subst hv15
        subst hv16
        exact J73_17
      · skip
        refine OwnR.of (fun _ hr => XS.icmpNo X0.here hx rfl (hb hby d11_63) rfl (flt hc63_18).1 hr) ?_
        show OwnR _ _ _ _ _ _ _ (s₁.setTop (mkF m 66 #[.val (.int v11), .val (.int v12)] []))
        refine OwnR.of (fun _ hr => XS.iinc X0.here hx rfl (hb hby d11_66) rfl (l' := #[.val (.int v11), .val (.int (v12 + (-2 : Int32)))]) rfl hr) ?_
        show OwnR _ _ _ _ _ _ _ (s₁.setTop (mkF m 69 #[.val (.int v11), .val (.int (v12 + (-2 : Int32)))] []))
        refine OwnR.of (fun _ hr => XS.iloadN X0.here hx rfl (hb hby d11_69) rfl hr) ?_
        show OwnR _ _ _ _ _ _ _ (s₁.setTop (mkF m 70 #[.val (.int v11), .val (.int (v12 + (-2 : Int32)))] [(.int v11)]))
        refine OwnR.of (fun _ hr => XS.iconst X0.here hx rfl (hb hby d11_70) hr) ?_
        show OwnR _ _ _ _ _ _ _ (s₁.setTop (mkF m 71 #[.val (.int v11), .val (.int (v12 + (-2 : Int32)))] [(.int (2 : Int32)), (.int v11)]))
        refine OwnR.of (fun _ hr => XS.iushr X0.here hx rfl (hb hby d11_71) rfl hr) ?_
        show OwnR _ _ _ _ _ _ _ (s₁.setTop (mkF m 72 #[.val (.int v11), .val (.int (v12 + (-2 : Int32)))] [(.int ((v11.toUInt32 >>> ((2 : Int32) &&& 31).toUInt32).toInt32))]))
        refine OwnR.of (fun _ hr => XS.istoreN X0.here hx rfl (hb hby d11_72) rfl (l' := #[.val (.int ((v11.toUInt32 >>> ((2 : Int32) &&& 31).toUInt32).toInt32)), .val (.int (v12 + (-2 : Int32)))]) rfl hr) ?_
        show OwnR _ _ _ _ _ _ _ (s₁.setTop (mkF m 73 #[.val (.int ((v11.toUInt32 >>> ((2 : Int32) &&& 31).toUInt32).toInt32)), .val (.int (v12 + (-2 : Int32)))] []))
        simp only [if_neg hc63_18] at hv15
        simp only [if_neg hc63_18] at hv16
        subst hv15
        subst hv16
        exact J73_17
    refine OwnR.of (fun _ hr => XS.iloadN X0.here hx rfl (hb hby d11_73) rfl hr) ?_
    show OwnR _ _ _ _ _ _ _ (s₁.setTop (mkF m 74 #[.val (.int v15), .val (.int v16)] [(.int v16)]))
    refine OwnR.of (fun _ hr => XS.iloadN X0.here hx rfl (hb hby d11_74) rfl hr) ?_
    show OwnR _ _ _ _ _ _ _ (s₁.setTop (mkF m 75 #[.val (.int v15), .val (.int v16)] [(.int v15), (.int v16)]))
    refine OwnR.of (fun _ hr => XS.iconst X0.here hx rfl (hb hby d11_75) hr) ?_
    show OwnR _ _ _ _ _ _ _ (s₁.setTop (mkF m 76 #[.val (.int v15), .val (.int v16)] [(.int (1 : Int32)), (.int v15), (.int v16)]))
    refine OwnR.of (fun _ hr => XS.iushr X0.here hx rfl (hb hby d11_76) rfl hr) ?_
    show OwnR _ _ _ _ _ _ _ (s₁.setTop (mkF m 77 #[.val (.int v15), .val (.int v16)] [(.int ((v15.toUInt32 >>> ((1 : Int32) &&& 31).toUInt32).toInt32)), (.int v16)]))
    refine OwnR.of (fun _ hr => XS.isub X0.here hx rfl (hb hby d11_77) rfl hr) ?_
    show OwnR _ _ _ _ _ _ _ (s₁.setTop (mkF m 78 #[.val (.int v15), .val (.int v16)] [(.int (v16 - ((v15.toUInt32 >>> ((1 : Int32) &&& 31).toUInt32).toInt32)))]))
    refine own_leafI X0 hx hlk Bd.returns (hb hby d11_78) (by decide) (by decide) ?_
    show QNl Z p1 h0 n0 _ s₁.heap _
    rw [show s₁.heap = h0 from e0]
    refine ⟨?_, N0, rfl⟩
    show (some (.int (v16 - ((v15.toUInt32 >>> ((1 : Int32) &&& 31).toUInt32).toInt32))) : Option Value) = some (.int (own_nl p1))
    rw [own_nl, if_pos hc1_2]
    subst_vars
    rfl
  · skip
    refine OwnR.of (fun _ hr => XS.ifNo X0.here hx rfl (hb hby d11_1) rfl ((if0 _ _).trans (flt hc1_2).2.2.1) hr) ?_
    show OwnR _ _ _ _ _ _ _ (s₁.setTop (mkF m 4 #[.val (.int p1), .unset] []))
    refine OwnR.of (fun _ hr => XS.iloadN X0.here hx rfl (hb hby d11_4) rfl hr) ?_
    show OwnR _ _ _ _ _ _ _ (s₁.setTop (mkF m 5 #[.val (.int p1), .unset] [(.int p1)]))
    by_cases hc5_19 : p1 = (0 : Int32)
    · skip
      refine OwnR.of (fun _ hr => XS.ifNo X0.here hx rfl (hb hby d11_5) rfl ((if0 _ _).trans (teq hc5_19).2) hr) ?_
      show OwnR _ _ _ _ _ _ _ (s₁.setTop (mkF m 8 #[.val (.int p1), .unset] []))
      refine OwnR.of (fun _ hr => XS.bipush X0.here hx rfl (hb hby d11_8) hr) ?_
      show OwnR _ _ _ _ _ _ _ (s₁.setTop (mkF m 10 #[.val (.int p1), .unset] [(.int (32 : Int32))]))
      refine OwnR.of (fun _ hr => XS.goto X0.here hx rfl (pc0 := 10) (pc' := 14) rfl (hb hby d11_10) (by decide) (by decide) hr) ?_
      show OwnR _ _ _ _ _ _ _ (s₁.setTop (mkF m 14 #[.val (.int p1), .unset] [(.int (32 : Int32))]))
      refine own_leafI X0 hx hlk Bd.returns (hb hby d11_14) (by decide) (by decide) ?_
      show QNl Z p1 h0 n0 _ s₁.heap _
      rw [show s₁.heap = h0 from e0]
      refine ⟨?_, N0, rfl⟩
      show (some (.int (32 : Int32)) : Option Value) = some (.int (own_nl p1))
      simp only [own_nl, if_neg hc1_2, if_pos hc5_19]
    · skip
      refine OwnR.of (fun _ hr => XS.ifYes X0.here hx rfl (pc0 := 5) (pc' := 13) rfl (hb hby d11_5) rfl ((if0 _ _).trans (feq hc5_19).2) (by decide) (by decide) hr) ?_
      show OwnR _ _ _ _ _ _ _ (s₁.setTop (mkF m 13 #[.val (.int p1), .unset] []))
      refine OwnR.of (fun _ hr => XS.iconst X0.here hx rfl (hb hby d11_13) hr) ?_
      show OwnR _ _ _ _ _ _ _ (s₁.setTop (mkF m 14 #[.val (.int p1), .unset] [(.int (0 : Int32))]))
      refine own_leafI X0 hx hlk Bd.returns (hb hby d11_14) (by decide) (by decide) ?_
      show QNl Z p1 h0 n0 _ s₁.heap _
      rw [show s₁.heap = h0 from e0]
      refine ⟨?_, N0, rfl⟩
      show (some (.int (0 : Int32)) : Option Value) = some (.int (own_nl p1))
      simp only [own_nl, if_neg hc1_2, if_neg hc5_19]
theorem pn_java_lang_Long : plainName "java/lang/Long" = true := by first | (simp [plainName, overriddenIn]; done) | decide +kernel
theorem ef_rmNlL (m : MethodId) (x0 : Int64) : entryFrame m #[(.long x0)] 3 = mkF m 0 #[.val (.long x0), .second, .unset] [] := by first | (simp [entryFrame, mkF, argsToLocals, Value.category]; done) | rfl
theorem d10_0 : decode jdk_35_method_48_code 0 = .ok (.lload_n 0, 1) := by decide +kernel
theorem d10_1 : decode jdk_35_method_48_code 1 = .ok (.bipush 32, 2) := by decide +kernel
theorem d10_3 : decode jdk_35_method_48_code 3 = .ok (.lushr, 1) := by decide +kernel
theorem d10_4 : decode jdk_35_method_48_code 4 = .ok (.l2i, 1) := by decide +kernel
theorem d10_5 : decode jdk_35_method_48_code 5 = .ok (.istore_n 2, 1) := by decide +kernel
theorem d10_6 : decode jdk_35_method_48_code 6 = .ok (.iload_n 2, 1) := by decide +kernel
theorem d10_7 : decode jdk_35_method_48_code 7 = .ok (.ifCond .ne 14, 3) := by decide +kernel
theorem d10_10 : decode jdk_35_method_48_code 10 = .ok (.bipush 32, 2) := by decide +kernel
theorem d10_12 : decode jdk_35_method_48_code 12 = .ok (.lload_n 0, 1) := by decide +kernel
theorem d10_13 : decode jdk_35_method_48_code 13 = .ok (.l2i, 1) := by decide +kernel
theorem d10_14 : decode jdk_35_method_48_code 14 = .ok (.invokestatic 308, 3) := by decide +kernel
theorem pd__I_I : parseMethodDescriptor "(I)I" = some ⟨[.int], some .int⟩ := by decide +kernel
theorem d10_17 : decode jdk_35_method_48_code 17 = .ok (.iadd, 1) := by decide +kernel
theorem d10_18 : decode jdk_35_method_48_code 18 = .ok (.goto 7, 3) := by decide +kernel
theorem d10_25 : decode jdk_35_method_48_code 25 = .ok (.ireturn, 1) := by decide +kernel
theorem d10_21 : decode jdk_35_method_48_code 21 = .ok (.iload_n 2, 1) := by decide +kernel
theorem d10_22 : decode jdk_35_method_48_code 22 = .ok (.invokestatic 308, 3) := by decide +kernel
def QNlL (Z : State) (q1 : Int64) (h0 : Heap) (n0 : Nat) (v : Option Value) (h : Heap) (L : List Loc) : Prop := v = some (.int (own_nlL q1)) ∧ Fr n0 L ∧ h = h0
set_option maxRecDepth 65536 in
set_option maxHeartbeats 40000000 in
theorem rmNlL (l : Launch) (Z : State) (a0 : Array Value) (hw : ∀ d ∈ tables_1, d.before a0 Z = true) (ws : List Jvm.Cond) (q1 : Int64) (h0 : Heap) (n0 : Nat) (Z0 : n0 ≤ h0.size) :
    MetFree l (⟨"java/lang/Long", "numberOfLeadingZeros", "(J)I"⟩ : MethodName) (head1 (Jvm.Cond.code (⟨"java/lang/Long", "numberOfLeadingZeros", "(J)I"⟩ : MethodName) jdk_35_method_48_code 3 (some .int) :: ws) ({ frames := 1, cells := 0, slots := 0, locals := 16 } : Room)) (fun a U => a = #[(.long q1)] ∧ Z.Warmed39 U.vm ∧ U.heap = h0) (fun _ _ _ _ _ => True) (fun _ U o U' => ∃ v L, o = .returned v ∧ QNlL Z q1 h0 n0 v U'.heap L ∧ FrameEnd U o U' L ({ frames := 1, cells := 0, slots := 0, locals := 16 } : Room).cells ({ frames := 1, cells := 0, slots := 0, locals := 16 } : Room).slots) := by
  refine MetFree.of_bodySF (plainFor_of_name pn_java_lang_Long) hisR ?_
  intro p e s m args below meth c s₁ Bd hml0 hP hK
  obtain ⟨rfl, hZ, hh⟩ := hP
  have hx := Bd.exec
  have hby := Bd.bytes
  have hlk := BodyLoose.notSynchronized Bd
  have hml : c.maxLocals = 3 := hml0
  have hown : s.vm.findClass "java/lang/Long" = some m.cls := findClass_of_methodNamed Bd.named
  have hnm := (name_of_methodNamed Bd.named Bd.method).1
  have X0 : Stand p l e ({ frames := 1, cells := 0, slots := 0, locals := 16 } : Room) s m #[(.long q1)] below meth c s₁ [] 0 0 := Stand.of_body Bd
  have e0 : s₁.heap = h0 := by rw [← hh, Bd.state]; rfl
  have N0 := Fr.nil n0
  refine OwnR.of (s := s) (Q := QNlL Z q1 h0 n0) (fun t k => castTop (ef_rmNlL m q1) k) ?_
  show OwnR _ _ _ _ _ _ _ (s₁.setTop (mkF m 0 #[.val (.long q1), .second, .unset] []))
  refine OwnR.of (fun _ hr => XS.lloadN X0.here hx rfl (hb hby d10_0) rfl hr) ?_
  show OwnR _ _ _ _ _ _ _ (s₁.setTop (mkF m 1 #[.val (.long q1), .second, .unset] [(.long q1)]))
  refine OwnR.of (fun _ hr => XS.bipush X0.here hx rfl (hb hby d10_1) hr) ?_
  show OwnR _ _ _ _ _ _ _ (s₁.setTop (mkF m 3 #[.val (.long q1), .second, .unset] [(.int (32 : Int32)), (.long q1)]))
  refine OwnR.of (fun _ hr => XS.lushr X0.here hx rfl (hb hby d10_3) rfl hr) ?_
  show OwnR _ _ _ _ _ _ _ (s₁.setTop (mkF m 4 #[.val (.long q1), .second, .unset] [(.long ((q1.toUInt64 >>> ((32 : Int32) &&& 0x3f).toInt64.toUInt64).toInt64))]))
  refine OwnR.of (fun _ hr => XS.l2i X0.here hx rfl (hb hby d10_4) rfl hr) ?_
  show OwnR _ _ _ _ _ _ _ (s₁.setTop (mkF m 5 #[.val (.long q1), .second, .unset] [(.int (((q1.toUInt64 >>> ((32 : Int32) &&& 0x3f).toInt64.toUInt64).toInt64).toInt32))]))
  refine OwnR.of (fun _ hr => XS.istoreN X0.here hx rfl (hb hby d10_5) rfl (l' := #[.val (.long q1), .second, .val (.int (((q1.toUInt64 >>> ((32 : Int32) &&& 0x3f).toInt64.toUInt64).toInt64).toInt32))]) rfl hr) ?_
  show OwnR _ _ _ _ _ _ _ (s₁.setTop (mkF m 6 #[.val (.long q1), .second, .val (.int (((q1.toUInt64 >>> ((32 : Int32) &&& 0x3f).toInt64.toUInt64).toInt64).toInt32))] []))
  refine OwnR.of (fun _ hr => XS.iloadN X0.here hx rfl (hb hby d10_6) rfl hr) ?_
  show OwnR _ _ _ _ _ _ _ (s₁.setTop (mkF m 7 #[.val (.long q1), .second, .val (.int (((q1.toUInt64 >>> ((32 : Int32) &&& 0x3f).toInt64.toUInt64).toInt64).toInt32))] [(.int (((q1.toUInt64 >>> ((32 : Int32) &&& 0x3f).toInt64.toUInt64).toInt64).toInt32))]))
  by_cases hc7_2 : (((q1.toUInt64 >>> ((32 : Int32) &&& 0x3f).toInt64.toUInt64).toInt64).toInt32) = (0 : Int32)
  · skip
    refine OwnR.of (fun _ hr => XS.ifNo X0.here hx rfl (hb hby d10_7) rfl ((if0 _ _).trans (teq hc7_2).2) hr) ?_
    show OwnR _ _ _ _ _ _ _ (s₁.setTop (mkF m 10 #[.val (.long q1), .second, .val (.int (((q1.toUInt64 >>> ((32 : Int32) &&& 0x3f).toInt64.toUInt64).toInt64).toInt32))] []))
    refine OwnR.of (fun _ hr => XS.bipush X0.here hx rfl (hb hby d10_10) hr) ?_
    show OwnR _ _ _ _ _ _ _ (s₁.setTop (mkF m 12 #[.val (.long q1), .second, .val (.int (((q1.toUInt64 >>> ((32 : Int32) &&& 0x3f).toInt64.toUInt64).toInt64).toInt32))] [(.int (32 : Int32))]))
    refine OwnR.of (fun _ hr => XS.lloadN X0.here hx rfl (hb hby d10_12) rfl hr) ?_
    show OwnR _ _ _ _ _ _ _ (s₁.setTop (mkF m 13 #[.val (.long q1), .second, .val (.int (((q1.toUInt64 >>> ((32 : Int32) &&& 0x3f).toInt64.toUInt64).toInt64).toInt32))] [(.long q1), (.int (32 : Int32))]))
    refine OwnR.of (fun _ hr => XS.l2i X0.here hx rfl (hb hby d10_13) rfl hr) ?_
    show OwnR _ _ _ _ _ _ _ (s₁.setTop (mkF m 14 #[.val (.long q1), .second, .val (.int (((q1.toUInt64 >>> ((32 : Int32) &&& 0x3f).toInt64.toUInt64).toInt64).toInt32))] [(.int (q1.toInt32)), (.int (32 : Int32))]))
    obtain ⟨_, _, ⟨T3, L3, kc3, ns3⟩, -, X3, ⟨Lc3, hQ3, l3, y3, z3⟩, st3⟩ := Jvm.LawKit.callS X0 hx (y := (⟨"java/lang/Integer", "numberOfLeadingZeros", "(I)I"⟩ : MethodName)) hown (mvT hZ (hw _ (List.mem_of_getElem? (i := 51) rfl))) (mvT hZ (hw _ (List.mem_of_getElem? (i := 52) rfl))) (mvT hZ (hw _ (List.mem_of_getElem? (i := 53) rfl))) (mvT hZ (hw _ (List.mem_of_getElem? (i := 54) rfl))) (by decide) (backOf (W := 1) (rmNl l Z a0 hw [] (q1.toInt32) h0 n0 (Nat.le_trans Z0 (Keep.refl h0 []).1) ) hZ (hw _ (List.mem_of_getElem? (i := 54) rfl)) (hw _ (List.mem_of_getElem? (i := 53) rfl)) (by decide) (by decide)) (g := (mkF m 14 #[.val (.long q1), .second, .val (.int (((q1.toUInt64 >>> ((32 : Int32) &&& 0x3f).toInt64.toUInt64).toInt64).toInt32))] [(.int (q1.toInt32)), (.int (32 : Int32))])) rfl (by rw [hml]; rfl) (argsL := [(.int (q1.toInt32))]) (rest := [(.int (32 : Int32))]) (lenOf pd__I_I rfl) rfl (by show 2 * 0 + _ ≤ _; exact Nat.le_of_eq rfl) (hb hby d10_14) (fun _ _ => ⟨rfl, e0, (by decide : 0 + 0 ≤ _), (by decide : 0 + 0 ≤ _)⟩)
    dsimp only [Pt.U, Pt.locs, Pt.cells, Pt.slots] at X3 l3 y3 z3 st3 hQ3
    rw [l3, y3, z3] at X3
    obtain ⟨rfl, N3q, e3⟩ := hQ3
    have N3 := Fr.app N0 N3q
    refine OwnR.of (st3) ?_
    show OwnR _ _ _ _ _ _ _ (T3.setTop (mkF m 17 #[.val (.long q1), .second, .val (.int (((q1.toUInt64 >>> ((32 : Int32) &&& 0x3f).toInt64.toUInt64).toInt64).toInt32))] [(.int (own_nl (q1.toInt32))), (.int (32 : Int32))]))
    refine OwnR.of (fun _ hr => XS.iadd X3.here hx rfl (hb hby d10_17) rfl hr) ?_
    show OwnR _ _ _ _ _ _ _ (T3.setTop (mkF m 18 #[.val (.long q1), .second, .val (.int (((q1.toUInt64 >>> ((32 : Int32) &&& 0x3f).toInt64.toUInt64).toInt64).toInt32))] [(.int ((32 : Int32) + (own_nl (q1.toInt32))))]))
    refine OwnR.of (fun _ hr => XS.goto X3.here hx rfl (pc0 := 18) (pc' := 25) rfl (hb hby d10_18) (by decide) (by decide) hr) ?_
    show OwnR _ _ _ _ _ _ _ (T3.setTop (mkF m 25 #[.val (.long q1), .second, .val (.int (((q1.toUInt64 >>> ((32 : Int32) &&& 0x3f).toInt64.toUInt64).toInt64).toInt32))] [(.int ((32 : Int32) + (own_nl (q1.toInt32))))]))
    refine own_leafI X3 hx hlk Bd.returns (hb hby d10_25) (by decide) (by decide) ?_
    show QNlL Z q1 h0 n0 _ T3.heap _
    rw [show T3.heap = h0 from e3]
    refine ⟨?_, N3, rfl⟩
    show (some (.int ((32 : Int32) + (own_nl (q1.toInt32)))) : Option Value) = some (.int (own_nlL q1))
    simp only [own_nlL, if_pos hc7_2]
  · skip
    refine OwnR.of (fun _ hr => XS.ifYes X0.here hx rfl (pc0 := 7) (pc' := 21) rfl (hb hby d10_7) rfl ((if0 _ _).trans (feq hc7_2).2) (by decide) (by decide) hr) ?_
    show OwnR _ _ _ _ _ _ _ (s₁.setTop (mkF m 21 #[.val (.long q1), .second, .val (.int (((q1.toUInt64 >>> ((32 : Int32) &&& 0x3f).toInt64.toUInt64).toInt64).toInt32))] []))
    refine OwnR.of (fun _ hr => XS.iloadN X0.here hx rfl (hb hby d10_21) rfl hr) ?_
    show OwnR _ _ _ _ _ _ _ (s₁.setTop (mkF m 22 #[.val (.long q1), .second, .val (.int (((q1.toUInt64 >>> ((32 : Int32) &&& 0x3f).toInt64.toUInt64).toInt64).toInt32))] [(.int (((q1.toUInt64 >>> ((32 : Int32) &&& 0x3f).toInt64.toUInt64).toInt64).toInt32))]))
    obtain ⟨_, _, ⟨T4, L4, kc4, ns4⟩, -, X4, ⟨Lc4, hQ4, l4, y4, z4⟩, st4⟩ := Jvm.LawKit.callS X0 hx (y := (⟨"java/lang/Integer", "numberOfLeadingZeros", "(I)I"⟩ : MethodName)) hown (mvT hZ (hw _ (List.mem_of_getElem? (i := 51) rfl))) (mvT hZ (hw _ (List.mem_of_getElem? (i := 52) rfl))) (mvT hZ (hw _ (List.mem_of_getElem? (i := 53) rfl))) (mvT hZ (hw _ (List.mem_of_getElem? (i := 54) rfl))) (by decide) (backOf (W := 0) (rmNl l Z a0 hw [] (((q1.toUInt64 >>> ((32 : Int32) &&& 0x3f).toInt64.toUInt64).toInt64).toInt32) h0 n0 (Nat.le_trans Z0 (Keep.refl h0 []).1) ) hZ (hw _ (List.mem_of_getElem? (i := 54) rfl)) (hw _ (List.mem_of_getElem? (i := 53) rfl)) (by decide) (by decide)) (g := (mkF m 22 #[.val (.long q1), .second, .val (.int (((q1.toUInt64 >>> ((32 : Int32) &&& 0x3f).toInt64.toUInt64).toInt64).toInt32))] [(.int (((q1.toUInt64 >>> ((32 : Int32) &&& 0x3f).toInt64.toUInt64).toInt64).toInt32))])) rfl (by rw [hml]; rfl) (argsL := [(.int (((q1.toUInt64 >>> ((32 : Int32) &&& 0x3f).toInt64.toUInt64).toInt64).toInt32))]) (rest := []) (lenOf pd__I_I rfl) rfl (by show 2 * 0 + _ ≤ _; exact Nat.le_of_eq rfl) (hb hby d10_22) (fun _ _ => ⟨rfl, e0, (by decide : 0 + 0 ≤ _), (by decide : 0 + 0 ≤ _)⟩)
    dsimp only [Pt.U, Pt.locs, Pt.cells, Pt.slots] at X4 l4 y4 z4 st4 hQ4
    rw [l4, y4, z4] at X4
    obtain ⟨rfl, N4q, e4⟩ := hQ4
    have N4 := Fr.app N0 N4q
    refine OwnR.of (st4) ?_
    show OwnR _ _ _ _ _ _ _ (T4.setTop (mkF m 25 #[.val (.long q1), .second, .val (.int (((q1.toUInt64 >>> ((32 : Int32) &&& 0x3f).toInt64.toUInt64).toInt64).toInt32))] [(.int (own_nl (((q1.toUInt64 >>> ((32 : Int32) &&& 0x3f).toInt64.toUInt64).toInt64).toInt32)))]))
    refine own_leafI X4 hx hlk Bd.returns (hb hby d10_25) (by decide) (by decide) ?_
    show QNlL Z q1 h0 n0 _ T4.heap _
    rw [show T4.heap = h0 from e4]
    refine ⟨?_, N4, rfl⟩
    show (some (.int (own_nl (((q1.toUInt64 >>> ((32 : Int32) &&& 0x3f).toInt64.toUInt64).toInt64).toInt32))) : Option Value) = some (.int (own_nlL q1))
    simp only [own_nlL, if_neg hc7_2]
theorem pn_com_example_kurir_kurir_bench_Latencies : plainName "com/example/kurir/kurir/bench/Latencies" = true := by first | (simp [plainName, overriddenIn]; done) | decide +kernel
theorem ef_rmMagn (m : MethodId) (x0 : Int64) : entryFrame m #[(.long x0)] 2 = mkF m 0 #[.val (.long x0), .second] [] := by first | (simp [entryFrame, mkF, argsToLocals, Value.category]; done) | rfl
theorem d9_0 : decode prog_12_method_6_code 0 = .ok (.iconst 0, 1) := by decide +kernel
theorem d9_1 : decode prog_12_method_6_code 1 = .ok (.bipush 64, 2) := by decide +kernel
theorem d9_3 : decode prog_12_method_6_code 3 = .ok (.lload_n 0, 1) := by decide +kernel
theorem d9_4 : decode prog_12_method_6_code 4 = .ok (.invokestatic 51, 3) := by decide +kernel
theorem d9_7 : decode prog_12_method_6_code 7 = .ok (.isub, 1) := by decide +kernel
theorem d9_8 : decode prog_12_method_6_code 8 = .ok (.getstatic 9, 3) := by decide +kernel
theorem d9_11 : decode prog_12_method_6_code 11 = .ok (.isub, 1) := by decide +kernel
theorem d9_12 : decode prog_12_method_6_code 12 = .ok (.invokestatic 54, 3) := by decide +kernel
theorem pd__II_I : parseMethodDescriptor "(II)I" = some ⟨[.int, .int], some .int⟩ := by decide +kernel
theorem d9_15 : decode prog_12_method_6_code 15 = .ok (.ireturn, 1) := by decide +kernel
def QMagn (Z : State) (q1 : Int64) (h0 : Heap) (n0 : Nat) (v : Option Value) (h : Heap) (L : List Loc) : Prop := v = some (.int (own_magn q1)) ∧ Fr n0 L ∧ h = h0
set_option maxRecDepth 65536 in
set_option maxHeartbeats 40000000 in
theorem rmMagn (l : Launch) (Z : State) (a0 : Array Value) (hw : ∀ d ∈ tables_1, d.before a0 Z = true) (ws : List Jvm.Cond) (q1 : Int64) (h0 : Heap) (n0 : Nat) (Z0 : n0 ≤ h0.size) (S_EB : Sta Z h0 "com/example/kurir/kurir/bench/Latencies" "EXACT_BITS" "I" (.int (16 : Int32))) (S_HALF : Sta Z h0 "com/example/kurir/kurir/bench/Latencies" "HALF" "I" (.int (32768 : Int32))) :
    MetFree l (⟨"com/example/kurir/kurir/bench/Latencies", "magnitude", "(J)I"⟩ : MethodName) (head1 (Jvm.Cond.code (⟨"com/example/kurir/kurir/bench/Latencies", "magnitude", "(J)I"⟩ : MethodName) prog_12_method_6_code 2 (some .int) :: ws) ({ frames := 2, cells := 0, slots := 0, locals := 40 } : Room)) (fun a U => a = #[(.long q1)] ∧ Z.Warmed39 U.vm ∧ U.heap = h0) (fun _ _ _ _ _ => True) (fun _ U o U' => ∃ v L, o = .returned v ∧ QMagn Z q1 h0 n0 v U'.heap L ∧ FrameEnd U o U' L ({ frames := 2, cells := 0, slots := 0, locals := 40 } : Room).cells ({ frames := 2, cells := 0, slots := 0, locals := 40 } : Room).slots) := by
  refine MetFree.of_bodySF (plainFor_of_name pn_com_example_kurir_kurir_bench_Latencies) hisR ?_
  intro p e s m args below meth c s₁ Bd hml0 hP hK
  obtain ⟨rfl, hZ, hh⟩ := hP
  have hx := Bd.exec
  have hby := Bd.bytes
  have hlk := BodyLoose.notSynchronized Bd
  have hml : c.maxLocals = 2 := hml0
  have hown : s.vm.findClass "com/example/kurir/kurir/bench/Latencies" = some m.cls := findClass_of_methodNamed Bd.named
  have hnm := (name_of_methodNamed Bd.named Bd.method).1
  have X0 : Stand p l e ({ frames := 2, cells := 0, slots := 0, locals := 40 } : Room) s m #[(.long q1)] below meth c s₁ [] 0 0 := Stand.of_body Bd
  have e0 : s₁.heap = h0 := by rw [← hh, Bd.state]; rfl
  have N0 := Fr.nil n0
  refine OwnR.of (s := s) (Q := QMagn Z q1 h0 n0) (fun t k => castTop (ef_rmMagn m q1) k) ?_
  show OwnR _ _ _ _ _ _ _ (s₁.setTop (mkF m 0 #[.val (.long q1), .second] []))
  refine OwnR.of (fun _ hr => XS.iconst X0.here hx rfl (hb hby d9_0) hr) ?_
  show OwnR _ _ _ _ _ _ _ (s₁.setTop (mkF m 1 #[.val (.long q1), .second] [(.int (0 : Int32))]))
  refine OwnR.of (fun _ hr => XS.bipush X0.here hx rfl (hb hby d9_1) hr) ?_
  show OwnR _ _ _ _ _ _ _ (s₁.setTop (mkF m 3 #[.val (.long q1), .second] [(.int (64 : Int32)), (.int (0 : Int32))]))
  refine OwnR.of (fun _ hr => XS.lloadN X0.here hx rfl (hb hby d9_3) rfl hr) ?_
  show OwnR _ _ _ _ _ _ _ (s₁.setTop (mkF m 4 #[.val (.long q1), .second] [(.long q1), (.int (64 : Int32)), (.int (0 : Int32))]))
  obtain ⟨_, _, ⟨T2, L2, kc2, ns2⟩, -, X2, ⟨Lc2, hQ2, l2, y2, z2⟩, st2⟩ := Jvm.LawKit.callS X0 hx (y := (⟨"java/lang/Long", "numberOfLeadingZeros", "(J)I"⟩ : MethodName)) hown (mvT hZ (hw _ (List.mem_of_getElem? (i := 47) rfl))) (mvT hZ (hw _ (List.mem_of_getElem? (i := 48) rfl))) (mvT hZ (hw _ (List.mem_of_getElem? (i := 49) rfl))) (mvT hZ (hw _ (List.mem_of_getElem? (i := 50) rfl))) (by decide) (backOf (W := 2) (rmNlL l Z a0 hw [] q1 h0 n0 (Nat.le_trans Z0 (Keep.refl h0 []).1) ) hZ (hw _ (List.mem_of_getElem? (i := 50) rfl)) (hw _ (List.mem_of_getElem? (i := 49) rfl)) (by decide) (by decide)) (g := (mkF m 4 #[.val (.long q1), .second] [(.long q1), (.int (64 : Int32)), (.int (0 : Int32))])) rfl (by rw [hml]; rfl) (argsL := [(.long q1)]) (rest := [(.int (64 : Int32)), (.int (0 : Int32))]) (lenOf pd__J_I rfl) rfl (by show 2 * 0 + _ ≤ _; exact Nat.le_of_eq rfl) (hb hby d9_4) (fun _ _ => ⟨rfl, e0, (by decide : 0 + 0 ≤ _), (by decide : 0 + 0 ≤ _)⟩)
  dsimp only [Pt.U, Pt.locs, Pt.cells, Pt.slots] at X2 l2 y2 z2 st2 hQ2
  rw [l2, y2, z2] at X2
  obtain ⟨rfl, N2q, e2⟩ := hQ2
  have N2 := Fr.app N0 N2q
  refine OwnR.of (st2) ?_
  show OwnR _ _ _ _ _ _ _ (T2.setTop (mkF m 7 #[.val (.long q1), .second] [(.int (own_nlL q1)), (.int (64 : Int32)), (.int (0 : Int32))]))
  refine OwnR.of (fun _ hr => XS.isub X2.here hx rfl (hb hby d9_7) rfl hr) ?_
  show OwnR _ _ _ _ _ _ _ (T2.setTop (mkF m 8 #[.val (.long q1), .second] [(.int ((64 : Int32) - (own_nlL q1))), (.int (0 : Int32))]))
  obtain ⟨T3, X3, e3, st3⟩ := getS2 X2 hx hZ hown (host := "") (Or.inl (hw _ (List.mem_of_getElem? (i := 23) rfl))) Via.refl e2 S_EB (g := (mkF m 8 #[.val (.long q1), .second] [(.int ((64 : Int32) - (own_nlL q1))), (.int (0 : Int32))])) rfl (hb hby d9_8)
  refine OwnR.of (st3) ?_
  show OwnR _ _ _ _ _ _ _ (T3.setTop (mkF m 11 #[.val (.long q1), .second] [(.int (16 : Int32)), (.int ((64 : Int32) - (own_nlL q1))), (.int (0 : Int32))]))
  refine OwnR.of (fun _ hr => XS.isub X3.here hx rfl (hb hby d9_11) rfl hr) ?_
  show OwnR _ _ _ _ _ _ _ (T3.setTop (mkF m 12 #[.val (.long q1), .second] [(.int (((64 : Int32) - (own_nlL q1)) - (16 : Int32))), (.int (0 : Int32))]))
  obtain ⟨_, _, ⟨T4, L4, kc4, ns4⟩, -, X4, ⟨Lc4, hQ4, l4, y4, z4⟩, st4⟩ := Jvm.LawKit.callS X3 hx (y := (⟨"java/lang/Math", "max", "(II)I"⟩ : MethodName)) hown (mvT hZ (hw _ (List.mem_of_getElem? (i := 56) rfl))) (mvT hZ (hw _ (List.mem_of_getElem? (i := 57) rfl))) (mvT hZ (hw _ (List.mem_of_getElem? (i := 41) rfl))) (mvT hZ (hw _ (List.mem_of_getElem? (i := 58) rfl))) (by decide) (backOf (W := 0) (rmMaxI l Z a0 hw [] (0 : Int32) (((64 : Int32) - (own_nlL q1)) - (16 : Int32)) h0 n0 (Nat.le_trans Z0 (Keep.refl h0 []).1) ) hZ (hw _ (List.mem_of_getElem? (i := 58) rfl)) (hw _ (List.mem_of_getElem? (i := 41) rfl)) (by decide) (by decide)) (g := (mkF m 12 #[.val (.long q1), .second] [(.int (((64 : Int32) - (own_nlL q1)) - (16 : Int32))), (.int (0 : Int32))])) rfl (by rw [hml]; rfl) (argsL := [(.int (0 : Int32)), (.int (((64 : Int32) - (own_nlL q1)) - (16 : Int32)))]) (rest := []) (lenOf pd__II_I rfl) rfl (by show 2 * 0 + _ ≤ _; exact Nat.le_of_eq rfl) (hb hby d9_12) (fun _ _ => ⟨rfl, e3, (by decide : 0 + 0 ≤ _), (by decide : 0 + 0 ≤ _)⟩)
  dsimp only [Pt.U, Pt.locs, Pt.cells, Pt.slots] at X4 l4 y4 z4 st4 hQ4
  rw [l4, y4, z4] at X4
  obtain ⟨rfl, N4q, e4⟩ := hQ4
  have N4 := Fr.app N2 N4q
  refine OwnR.of (st4) ?_
  show OwnR _ _ _ _ _ _ _ (T4.setTop (mkF m 15 #[.val (.long q1), .second] [(.int (own_imax (0 : Int32) (((64 : Int32) - (own_nlL q1)) - (16 : Int32))))]))
  refine own_leafI X4 hx hlk Bd.returns (hb hby d9_15) (by decide) (by decide) ?_
  show QMagn Z q1 h0 n0 _ T4.heap _
  rw [show T4.heap = h0 from e4]
  refine ⟨?_, N4, rfl⟩
  show (some (.int (own_imax (0 : Int32) (((64 : Int32) - (own_nlL q1)) - (16 : Int32)))) : Option Value) = some (.int (own_magn q1))
  rfl
theorem ef_rmIdx (m : MethodId) (x0 : Int64) (x1 : Int32) : entryFrame m #[(.long x0), (.int x1)] 3 = mkF m 0 #[.val (.long x0), .second, .val (.int x1)] [] := by first | (simp [entryFrame, mkF, argsToLocals, Value.category]; done) | rfl
theorem d13_0 : decode prog_12_method_7_code 0 = .ok (.iload_n 2, 1) := by decide +kernel
theorem d13_1 : decode prog_12_method_7_code 1 = .ok (.ifCond .ne 8, 3) := by decide +kernel
theorem d13_4 : decode prog_12_method_7_code 4 = .ok (.lload_n 0, 1) := by decide +kernel
theorem d13_5 : decode prog_12_method_7_code 5 = .ok (.l2i, 1) := by decide +kernel
theorem d13_6 : decode prog_12_method_7_code 6 = .ok (.goto 11, 3) := by decide +kernel
theorem d13_17 : decode prog_12_method_7_code 17 = .ok (.ireturn, 1) := by decide +kernel
theorem d13_9 : decode prog_12_method_7_code 9 = .ok (.lload_n 0, 1) := by decide +kernel
theorem d13_10 : decode prog_12_method_7_code 10 = .ok (.iload_n 2, 1) := by decide +kernel
theorem d13_11 : decode prog_12_method_7_code 11 = .ok (.lshr, 1) := by decide +kernel
theorem d13_12 : decode prog_12_method_7_code 12 = .ok (.l2i, 1) := by decide +kernel
theorem d13_13 : decode prog_12_method_7_code 13 = .ok (.getstatic 33, 3) := by decide +kernel
theorem d13_16 : decode prog_12_method_7_code 16 = .ok (.isub, 1) := by decide +kernel
def QIdx (Z : State) (q1 : Int64) (p2 : Int32) (h0 : Heap) (n0 : Nat) (v : Option Value) (h : Heap) (L : List Loc) : Prop := v = some (.int (own_idx q1 p2)) ∧ Fr n0 L ∧ h = h0
set_option maxRecDepth 65536 in
set_option maxHeartbeats 40000000 in
theorem rmIdx (l : Launch) (Z : State) (a0 : Array Value) (hw : ∀ d ∈ tables_1, d.before a0 Z = true) (ws : List Jvm.Cond) (q1 : Int64) (p2 : Int32) (h0 : Heap) (n0 : Nat) (Z0 : n0 ≤ h0.size) (S_EB : Sta Z h0 "com/example/kurir/kurir/bench/Latencies" "EXACT_BITS" "I" (.int (16 : Int32))) (S_HALF : Sta Z h0 "com/example/kurir/kurir/bench/Latencies" "HALF" "I" (.int (32768 : Int32))) :
    MetFree l (⟨"com/example/kurir/kurir/bench/Latencies", "index", "(JI)I"⟩ : MethodName) (head1 (Jvm.Cond.code (⟨"com/example/kurir/kurir/bench/Latencies", "index", "(JI)I"⟩ : MethodName) prog_12_method_7_code 3 (some .int) :: ws) ({ frames := 0, cells := 0, slots := 0, locals := 0 } : Room)) (fun a U => a = #[(.long q1), (.int p2)] ∧ Z.Warmed39 U.vm ∧ U.heap = h0) (fun _ _ _ _ _ => True) (fun _ U o U' => ∃ v L, o = .returned v ∧ QIdx Z q1 p2 h0 n0 v U'.heap L ∧ FrameEnd U o U' L ({ frames := 0, cells := 0, slots := 0, locals := 0 } : Room).cells ({ frames := 0, cells := 0, slots := 0, locals := 0 } : Room).slots) := by
  refine MetFree.of_bodySF (plainFor_of_name pn_com_example_kurir_kurir_bench_Latencies) hisR ?_
  intro p e s m args below meth c s₁ Bd hml0 hP hK
  obtain ⟨rfl, hZ, hh⟩ := hP
  have hx := Bd.exec
  have hby := Bd.bytes
  have hlk := BodyLoose.notSynchronized Bd
  have hml : c.maxLocals = 3 := hml0
  have hown : s.vm.findClass "com/example/kurir/kurir/bench/Latencies" = some m.cls := findClass_of_methodNamed Bd.named
  have hnm := (name_of_methodNamed Bd.named Bd.method).1
  have X0 : Stand p l e ({ frames := 0, cells := 0, slots := 0, locals := 0 } : Room) s m #[(.long q1), (.int p2)] below meth c s₁ [] 0 0 := Stand.of_body Bd
  have e0 : s₁.heap = h0 := by rw [← hh, Bd.state]; rfl
  have N0 := Fr.nil n0
  refine OwnR.of (s := s) (Q := QIdx Z q1 p2 h0 n0) (fun t k => castTop (ef_rmIdx m q1 p2) k) ?_
  show OwnR _ _ _ _ _ _ _ (s₁.setTop (mkF m 0 #[.val (.long q1), .second, .val (.int p2)] []))
  refine OwnR.of (fun _ hr => XS.iloadN X0.here hx rfl (hb hby d13_0) rfl hr) ?_
  show OwnR _ _ _ _ _ _ _ (s₁.setTop (mkF m 1 #[.val (.long q1), .second, .val (.int p2)] [(.int p2)]))
  by_cases hc1_3 : p2 = (0 : Int32)
  · skip
    refine OwnR.of (fun _ hr => XS.ifNo X0.here hx rfl (hb hby d13_1) rfl ((if0 _ _).trans (teq hc1_3).2) hr) ?_
    show OwnR _ _ _ _ _ _ _ (s₁.setTop (mkF m 4 #[.val (.long q1), .second, .val (.int p2)] []))
    refine OwnR.of (fun _ hr => XS.lloadN X0.here hx rfl (hb hby d13_4) rfl hr) ?_
    show OwnR _ _ _ _ _ _ _ (s₁.setTop (mkF m 5 #[.val (.long q1), .second, .val (.int p2)] [(.long q1)]))
    refine OwnR.of (fun _ hr => XS.l2i X0.here hx rfl (hb hby d13_5) rfl hr) ?_
    show OwnR _ _ _ _ _ _ _ (s₁.setTop (mkF m 6 #[.val (.long q1), .second, .val (.int p2)] [(.int (q1.toInt32))]))
    refine OwnR.of (fun _ hr => XS.goto X0.here hx rfl (pc0 := 6) (pc' := 17) rfl (hb hby d13_6) (by decide) (by decide) hr) ?_
    show OwnR _ _ _ _ _ _ _ (s₁.setTop (mkF m 17 #[.val (.long q1), .second, .val (.int p2)] [(.int (q1.toInt32))]))
    refine own_leafI X0 hx hlk Bd.returns (hb hby d13_17) (by decide) (by decide) ?_
    show QIdx Z q1 p2 h0 n0 _ s₁.heap _
    rw [show s₁.heap = h0 from e0]
    refine ⟨?_, N0, rfl⟩
    show (some (.int (q1.toInt32)) : Option Value) = some (.int (own_idx q1 p2))
    simp only [own_idx, if_pos hc1_3]
  · skip
    refine OwnR.of (fun _ hr => XS.ifYes X0.here hx rfl (pc0 := 1) (pc' := 9) rfl (hb hby d13_1) rfl ((if0 _ _).trans (feq hc1_3).2) (by decide) (by decide) hr) ?_
    show OwnR _ _ _ _ _ _ _ (s₁.setTop (mkF m 9 #[.val (.long q1), .second, .val (.int p2)] []))
    refine OwnR.of (fun _ hr => XS.lloadN X0.here hx rfl (hb hby d13_9) rfl hr) ?_
    show OwnR _ _ _ _ _ _ _ (s₁.setTop (mkF m 10 #[.val (.long q1), .second, .val (.int p2)] [(.long q1)]))
    refine OwnR.of (fun _ hr => XS.iloadN X0.here hx rfl (hb hby d13_10) rfl hr) ?_
    show OwnR _ _ _ _ _ _ _ (s₁.setTop (mkF m 11 #[.val (.long q1), .second, .val (.int p2)] [(.int p2), (.long q1)]))
    refine OwnR.of (fun _ hr => XS.lshr X0.here hx rfl (hb hby d13_11) rfl hr) ?_
    show OwnR _ _ _ _ _ _ _ (s₁.setTop (mkF m 12 #[.val (.long q1), .second, .val (.int p2)] [(.long (q1 >>> (p2 &&& 0x3f).toInt64))]))
    refine OwnR.of (fun _ hr => XS.l2i X0.here hx rfl (hb hby d13_12) rfl hr) ?_
    show OwnR _ _ _ _ _ _ _ (s₁.setTop (mkF m 13 #[.val (.long q1), .second, .val (.int p2)] [(.int ((q1 >>> (p2 &&& 0x3f).toInt64).toInt32))]))
    obtain ⟨T4, X4, e4, st4⟩ := getS2 X0 hx hZ hown (host := "") (Or.inl (hw _ (List.mem_of_getElem? (i := 59) rfl))) Via.refl e0 S_HALF (g := (mkF m 13 #[.val (.long q1), .second, .val (.int p2)] [(.int ((q1 >>> (p2 &&& 0x3f).toInt64).toInt32))])) rfl (hb hby d13_13)
    refine OwnR.of (st4) ?_
    show OwnR _ _ _ _ _ _ _ (T4.setTop (mkF m 16 #[.val (.long q1), .second, .val (.int p2)] [(.int (32768 : Int32)), (.int ((q1 >>> (p2 &&& 0x3f).toInt64).toInt32))]))
    refine OwnR.of (fun _ hr => XS.isub X4.here hx rfl (hb hby d13_16) rfl hr) ?_
    show OwnR _ _ _ _ _ _ _ (T4.setTop (mkF m 17 #[.val (.long q1), .second, .val (.int p2)] [(.int (((q1 >>> (p2 &&& 0x3f).toInt64).toInt32) - (32768 : Int32)))]))
    refine own_leafI X4 hx hlk Bd.returns (hb hby d13_17) (by decide) (by decide) ?_
    show QIdx Z q1 p2 h0 n0 _ T4.heap _
    rw [show T4.heap = h0 from e4]
    refine ⟨?_, N0, rfl⟩
    show (some (.int (((q1 >>> (p2 &&& 0x3f).toInt64).toInt32) - (32768 : Int32))) : Option Value) = some (.int (own_idx q1 p2))
    simp only [own_idx, if_neg hc1_3]
theorem ef_rmCount (m : MethodId) (x0 : Addr) : entryFrame m #[(.ref x0)] 1 = mkF m 0 #[.val (.ref x0)] [] := by first | (simp [entryFrame, mkF, argsToLocals, Value.category]; done) | rfl
theorem d16_0 : decode prog_12_method_3_code 0 = .ok (.aload_n 0, 1) := by decide +kernel
theorem d16_1 : decode prog_12_method_3_code 1 = .ok (.getfield 40, 3) := by decide +kernel
theorem d16_4 : decode prog_12_method_3_code 4 = .ok (.lreturn, 1) := by decide +kernel
def QCount (Z : State) (x1 : Int64) (h0 : Heap) (n0 : Nat) (v : Option Value) (h : Heap) (L : List Loc) : Prop := v = some (.long x1) ∧ Fr n0 L ∧ h = h0
set_option maxRecDepth 65536 in
set_option maxHeartbeats 40000000 in
theorem rmCount (l : Launch) (Z : State) (a0 : Array Value) (hw : ∀ d ∈ tables_1, d.before a0 Z = true) (ws : List Jvm.Cond) (a1 : Addr) (x1 : Int64) (h0 : Heap) (n0 : Nat) (Z0 : n0 ≤ h0.size) (E_a1 : Exa Z h0 a1 "com/example/kurir/kurir/bench/Latencies") (F_count_a1 : Fld Z h0 a1 "com/example/kurir/kurir/bench/Latencies" "count" "J" (.long x1)) :
    MetFree l (⟨"com/example/kurir/kurir/bench/Latencies", "count", "()J"⟩ : MethodName) (head1 (Jvm.Cond.code (⟨"com/example/kurir/kurir/bench/Latencies", "count", "()J"⟩ : MethodName) prog_12_method_3_code 1 (some .long) :: ws) ({ frames := 0, cells := 0, slots := 0, locals := 0 } : Room)) (fun a U => a = #[(.ref a1)] ∧ Z.Warmed39 U.vm ∧ U.heap = h0) (fun _ _ _ _ _ => True) (fun _ U o U' => ∃ v L, o = .returned v ∧ QCount Z x1 h0 n0 v U'.heap L ∧ FrameEnd U o U' L ({ frames := 0, cells := 0, slots := 0, locals := 0 } : Room).cells ({ frames := 0, cells := 0, slots := 0, locals := 0 } : Room).slots) := by
  refine MetFree.of_bodySF (plainFor_of_name pn_com_example_kurir_kurir_bench_Latencies) hisR ?_
  intro p e s m args below meth c s₁ Bd hml0 hP hK
  obtain ⟨rfl, hZ, hh⟩ := hP
  have hx := Bd.exec
  have hby := Bd.bytes
  have hlk := BodyLoose.notSynchronized Bd
  have hml : c.maxLocals = 1 := hml0
  have hown : s.vm.findClass "com/example/kurir/kurir/bench/Latencies" = some m.cls := findClass_of_methodNamed Bd.named
  have hnm := (name_of_methodNamed Bd.named Bd.method).1
  have X0 : Stand p l e ({ frames := 0, cells := 0, slots := 0, locals := 0 } : Room) s m #[(.ref a1)] below meth c s₁ [] 0 0 := Stand.of_body Bd
  have e0 : s₁.heap = h0 := by rw [← hh, Bd.state]; rfl
  have N0 := Fr.nil n0
  refine OwnR.of (s := s) (Q := QCount Z x1 h0 n0) (fun t k => castTop (ef_rmCount m a1) k) ?_
  show OwnR _ _ _ _ _ _ _ (s₁.setTop (mkF m 0 #[.val (.ref a1)] []))
  refine OwnR.of (fun _ hr => XS.aloadN X0.here hx rfl (hb hby d16_0) rfl rfl hr) ?_
  show OwnR _ _ _ _ _ _ _ (s₁.setTop (mkF m 1 #[.val (.ref a1)] [(.ref a1)]))
  obtain ⟨T1, X1, e1, st1⟩ := getF X0 hx hZ hown (host := "") (Or.inl (hw _ (List.mem_of_getElem? (i := 66) rfl))) Via.refl e0 F_count_a1 (g := (mkF m 1 #[.val (.ref a1)] [(.ref a1)])) rfl rfl (hb hby d16_1)
  refine OwnR.of (st1) ?_
  show OwnR _ _ _ _ _ _ _ (T1.setTop (mkF m 4 #[.val (.ref a1)] [(.long x1)]))
  refine own_leafJ X1 hx hlk Bd.returns (hb hby d16_4) (by decide) (by decide) ?_
  show QCount Z x1 h0 n0 _ T1.heap _
  rw [show T1.heap = h0 from e1]
  refine ⟨?_, N0, rfl⟩
  show (some (.long x1) : Option Value) = some (.long x1)
  rfl
/-- an array by a function of its places -/
def OwnF (Z : State) (h : Heap) (a : Addr) (k : ClassId) (ty : FieldType) (n : Nat) (f : Nat → Value) : Prop := ∃ c : Cell, Arr Z h a c ty ∧ c.cls = k ∧ c.slots.size = n ∧ ∀ i, i < n → c.slots[i]? = some (f i)
section OwnArrays
variable {Z : State} {h h' : Heap} {a b : Addr} {k : ClassId} {ty : FieldType} {n : Nat} {f : Nat → Value}
theorem OwnF.lt (F : OwnF Z h a k ty n f) : a < h.size := by obtain ⟨c, A, -⟩ := F; exact A.lt
theorem OwnF.ext (F : OwnF Z h a k ty n f) (E : Ext h h') : OwnF Z h' a k ty n f := by obtain ⟨c, A, r⟩ := F; exact ⟨c, A.ext E, r⟩
theorem OwnF.other {sl : Nat} {v : Value} (F : OwnF Z h a k ty n f) (W : Wr h h' b sl v) (q : a ≠ b) : OwnF Z h' a k ty n f := by obtain ⟨c, A, r⟩ := F; exact ⟨c, A.other W q, r⟩
theorem OwnF.set {j : Nat} {v : Value} (F : OwnF Z h a k ty n f) (W : Wr h h' a j v) : OwnF Z h' a k ty n (fun i => if i = j then v else f i) := by
  obtain ⟨c, A, q1, q2, q3⟩ := F
  refine ⟨c.setSlot j v, A.same W, q1, by rw [sz_set]; exact q2, fun i hi => ?_⟩
  have e : (c.setSlot j v).slots = c.slots.setIfInBounds j v := rfl
  by_cases e1 : i = j
  · subst e1
    simp only [e, if_true]
    rw [Array.getElem?_setIfInBounds_self_of_lt (by omega)]
  · simp only [e, e1, if_false]
    rw [Array.getElem?_setIfInBounds_ne (Ne.symm e1)]
    exact q3 i hi
theorem OwnF.new {z : Int32} (A : Arr Z h a (newA k ty z) ty) (hz : z.toNatClampNeg = n) : OwnF Z h a k ty n (fun _ => defaultValue ty) :=
  ⟨_, A, rfl, by rw [sz_new, hz], fun i hi => by simp [newA, hz, hi]⟩
theorem OwnF.congr {f' : Nat → Value} (F : OwnF Z h a k ty n f) (q : ∀ i, i < n → f i = f' i) : OwnF Z h a k ty n f' := by
  obtain ⟨c, A, q1, q2, q3⟩ := F
  exact ⟨c, A, q1, q2, fun i hi => by rw [q3 i hi, q i hi]⟩
end OwnArrays
section OwnArraySteps
variable {p : Program} {l : Launch} {e : Env} {R : Room} {s : State} {m : MethodId} {args : Array Value} {below : List Frame} {meth : Method} {c : Code} {T : State} {locs : List Loc} {cells slots : Nat} {Z : State} {h : Heap} {a : Addr} {k : ClassId} {n : Nat} {f : Nat → Value}
theorem own_in {cl : Cell} {j : Int32} {jn : Nat} (hs : cl.slots.size = n) (hj : j.toNatClampNeg = jn) (h0 : ¬ j < 0) (hn : jn < n) : ¬ (j < 0 ∨ cl.slots.size ≤ j.toNatClampNeg) := by
  intro q; rcases q with q | q
  · exact h0 q
  · omega
theorem own_laload (X : Stand p l e R s m args below meth c T locs cells slots) (hx : p.tables.exec = Jvm.exec) (hZ : Z.Warmed39 s.vm) (eT : T.heap = h) (F : OwnF Z h a k .long n f) {j : Int32} {jn : Nat} (hj : j.toNatClampNeg = jn) (h0 : ¬ j < 0) (hn : jn < n) {v : Value} (hv : f jn = v)
    {g : JFrame} (hg : g.method = m) {rest : List Value} (hs : g.stack = .int j :: .ref a :: rest) (hd : decode c.code g.pc = .ok (.laload, 1)) (target : State)
    (hr : Steps p.tables e below (T.setTop { g with pc := g.pc + 1, stack := v :: rest }) target) : Steps p.tables e below (T.setTop g) target := by
  obtain ⟨cl, A, q1, q2, q3⟩ := F
  exact X.laload hx (by rw [eT]; exact A.1) (State.isArrayOf_alike hZ.alike A.2.1) A.2.2 (own_in q2 hj h0 hn) (by rw [hj, q3 jn hn, hv]) hg hs hd target hr
theorem own_aaload {ty : FieldType} (hty : ty.isReference = true) (X : Stand p l e R s m args below meth c T locs cells slots) (hx : p.tables.exec = Jvm.exec) (hZ : Z.Warmed39 s.vm) (eT : T.heap = h) (F : OwnF Z h a k ty n f) {j : Int32} {jn : Nat} (hj : j.toNatClampNeg = jn) (h0 : ¬ j < 0) (hn : jn < n) {v : Value} (hv : f jn = v)
    {g : JFrame} (hg : g.method = m) {rest : List Value} (hs : g.stack = .int j :: .ref a :: rest) (hd : decode c.code g.pc = .ok (.aaload, 1)) (target : State)
    (hr : Steps p.tables e below (T.setTop { g with pc := g.pc + 1, stack := v :: rest }) target) : Steps p.tables e below (T.setTop g) target := by
  obtain ⟨cl, A, q1, q2, q3⟩ := F
  exact X.aaload hx (by rw [eT]; exact A.1) (State.isArrayOf_alike hZ.alike A.2.1) hty A.2.2 (own_in q2 hj h0 hn) (by rw [hj, q3 jn hn, hv]) hg hs hd target hr
theorem own_alen {ty : FieldType} (X : Stand p l e R s m args below meth c T locs cells slots) (hx : p.tables.exec = Jvm.exec) (hZ : Z.Warmed39 s.vm) (eT : T.heap = h) (F : OwnF Z h a k ty n f) {z : Int32} (hz : z.toNatClampNeg = n) (h0 : ¬ z < 0)
    {g : JFrame} (hg : g.method = m) {rest : List Value} (hs : g.stack = .ref a :: rest) (hd : decode c.code g.pc = .ok (.arraylength, 1)) (target : State)
    (hr : Steps p.tables e below (T.setTop { g with pc := g.pc + 1, stack := .int z :: rest }) target) : Steps p.tables e below (T.setTop g) target := by
  obtain ⟨cl, A, q1, q2, q3⟩ := F
  exact X.arraylength hx (by rw [eT]; exact A.1) (State.isArrayOf_alike hZ.alike A.2.1) hg hs hd target (by rw [len_of (q2.trans hz.symm) h0]; exact hr)
theorem own_lastore (X : Stand p l e R s m args below meth c T locs cells slots) (hx : p.tables.exec = Jvm.exec) (hZ : Z.Warmed39 s.vm) (eT : T.heap = h) (F : OwnF Z h a k .long n f) {j : Int32} {x : Int64} {jn : Nat} (hj : j.toNatClampNeg = jn) (h0 : ¬ j < 0) (hn : jn < n)
    {g : JFrame} (hg : g.method = m) {rest : List Value} (hs : g.stack = .long x :: .int j :: .ref a :: rest) (hd : decode c.code g.pc = .ok (.lastore, 1)) :
    ∃ T' h', Stand p l e R s m args below meth c T' (locs ++ [⟨a, jn⟩]) cells slots ∧ T'.heap = h' ∧ Wr h h' a jn (.long x) ∧ ∀ target, Steps p.tables e below (T'.setTop { g with pc := g.pc + 1, stack := rest }) target → Steps p.tables e below (T.setTop g) target := by
  obtain ⟨cl, A, q1, q2, q3⟩ := F
  subst hj
  exact stJ X hx hZ eT A (own_in q2 rfl h0 hn) hg hs hd
theorem own_aastore {ty : FieldType} (hty : ty.isReference = true) (X : Stand p l e R s m args below meth c T locs cells slots) (hx : p.tables.exec = Jvm.exec) (hZ : Z.Warmed39 s.vm) (eT : T.heap = h) (F : OwnF Z h a k ty n f) {j : Int32} {jn : Nat} (hj : j.toNatClampNeg = jn) (h0 : ¬ j < 0) (hn : jn < n) {y : Addr} {t0 : FieldType} {C : String} (O : OvrA Z k t0 C) (I : Ins Z h y C true)
    {g : JFrame} (hg : g.method = m) {rest : List Value} (hs : g.stack = .ref y :: .int j :: .ref a :: rest) (hd : decode c.code g.pc = .ok (.aastore, 1)) :
    ∃ T' h', Stand p l e R s m args below meth c T' (locs ++ [⟨a, jn⟩]) cells slots ∧ T'.heap = h' ∧ Wr h h' a jn (.ref y) ∧ ∀ target, Steps p.tables e below (T'.setTop { g with pc := g.pc + 1, stack := rest }) target → Steps p.tables e below (T.setTop g) target := by
  obtain ⟨cl, A, q1, q2, q3⟩ := F
  subst hj
  exact stR X hx hZ eT A (own_in q2 rfl h0 hn) hty (Sto.ofVA A q1 O I) hg hs hd
end OwnArraySteps
def own_len (m : Nat) : Nat := if m = 0 then 65536 else 32768
def own_g : List (Nat × Nat) → Nat → Nat → Int64
  | [], _, _ => 0
  | k :: ks, m, i => if k = (m, i) then own_g ks m i + 1 else own_g ks m i
def own_cost (v : Value) (m : Nat) : Nat := match v with
  | .null => own_len m
  | _ => 0
/-- the histogram: the outer array at A, the inner ones as B says, their counts those of ks -/
def OwnHi (Z : State) (h : Heap) (a1 A : Addr) (kA : ClassId) (N : Nat) (B : Nat → Value) (ks : List (Nat × Nat)) : Prop :=
  OwnF Z h A kA (.array .long) 49 B ∧ (∀ m, m < 49 → (B m = .null ∧ ∀ i, own_g ks m i = 0) ∨ ∃ b k, B m = .ref b ∧ OwnF Z h b k .long (own_len m) (fun i => .long (own_g ks m i)) ∧ N ≤ b ∧ b ≠ A ∧ b ≠ a1) ∧ ∀ m m' b, m < 49 → m' < 49 → B m = .ref b → B m' = .ref b → m = m'
section OwnHist
variable {Z : State} {h h' : Heap} {a1 A : Addr} {kA : ClassId} {N : Nat} {B : Nat → Value} {ks : List (Nat × Nat)}
theorem OwnHi.wr {sl : Nat} {v : Value} (H : OwnHi Z h a1 A kA N B ks) (W : Wr h h' a1 sl v) (hA : A ≠ a1) : OwnHi Z h' a1 A kA N B ks := by
  obtain ⟨h1, h2, h3⟩ := H
  refine ⟨h1.other W hA, fun m hm => ?_, h3⟩
  rcases h2 m hm with q | ⟨b, k, q1, q2, q3, q4, q5⟩
  · exact Or.inl q
  · exact Or.inr ⟨b, k, q1, q2.other W q5, q3, q4, q5⟩
theorem OwnHi.inc {m i : Nat} {b : Addr} (H : OwnHi Z h a1 A kA N B ks) (hm : m < 49) (hb : B m = .ref b) (hbA : b ≠ A) (W : Wr h h' b i (.long (own_g ks m i + 1))) : OwnHi Z h' a1 A kA N B ((m, i) :: ks) := by
  obtain ⟨h1, h2, h3⟩ := H
  refine ⟨h1.other W (Ne.symm hbA), fun m' hm' => ?_, h3⟩
  by_cases e : m' = m
  · subst e
    rcases h2 m' hm' with q | ⟨b', k, q1, q2, q3, q4, q5⟩
    · rw [hb] at q; cases q.1
    · rw [hb] at q1; cases q1
      refine Or.inr ⟨b, k, hb, (q2.set W).congr fun j hj => ?_, q3, q4, q5⟩
      by_cases ej : j = i
      · subst ej; simp [own_g]
      · have : ¬ ((m', i) = (m', j)) := fun q => ej (Prod.mk.inj q).2.symm
        simp [own_g, ej, this]
  · have ne : ∀ j, own_g ((m, i) :: ks) m' j = own_g ks m' j := fun j => by
      have : ¬ ((m, i) = (m', j)) := fun q => e (Prod.mk.inj q).1.symm
      simp [own_g, this]
    rcases h2 m' hm' with q | ⟨b', k, q1, q2, q3, q4, q5⟩
    · exact Or.inl ⟨q.1, fun j => by rw [ne]; exact q.2 j⟩
    · have hne : b' ≠ b := fun q => e (h3 m' m b hm' hm (q ▸ q1) hb)
      exact Or.inr ⟨b', k, q1, (q2.other W hne).congr fun j _ => by simp only [ne], q3, q4, q5⟩
theorem OwnHi.made {m : Nat} {b : Addr} {k : ClassId} {h1 : Heap} (H : OwnHi Z h a1 A kA N B ks) (hm : m < 49) (hz : ∀ i, own_g ks m i = 0) (E : Ext h h1) (F : OwnF Z h1 b k .long (own_len m) (fun _ => .long 0)) (hN : N ≤ b) (hA : b ≠ A) (ha : b ≠ a1) (hold : h.size ≤ b) (W : Wr h1 h' A m (.ref b)) : OwnHi Z h' a1 A kA N (fun i => if i = m then .ref b else B i) ks := by
  obtain ⟨g1, g2, g3⟩ := H
  refine ⟨(g1.ext E).set W, fun m' hm' => ?_, fun x y c hx hy e1 e2 => ?_⟩
  · by_cases e : m' = m
    · subst e
      refine Or.inr ⟨b, k, by simp, (F.other W hA).congr fun j _ => by rw [hz j], hN, hA, ha⟩
    · rcases g2 m' hm' with q | ⟨b', k', q1, q2, q3, q4, q5⟩
      · exact Or.inl ⟨by simp [e, q.1], q.2⟩
      · exact Or.inr ⟨b', k', by simp [e, q1], (q2.ext E).other W q4, q3, q4, q5⟩
  · have old : ∀ x, x < 49 → B x = .ref b → False := fun x hx q => by
      rcases g2 x hx with w | ⟨b', k', q1, q2, -⟩
      · rw [w.1] at q; cases q
      · rw [q1] at q; cases q
        exact absurd q2.lt (Nat.not_lt.mpr hold)
    by_cases ex : x = m <;> by_cases ey : y = m
    · rw [ex, ey]
    · simp only [ex, ey, if_true, if_false] at e1 e2
      cases e1; exact (old y hy e2).elim
    · simp only [ex, ey, if_true, if_false] at e1 e2
      cases e2; exact (old x hx e1).elim
    · simp only [ex, ey, if_false] at e1 e2
      exact g3 x y c hx hy e1 e2
theorem OwnHi.start (F : OwnF Z h A kA (.array .long) 49 (fun _ => .null)) : OwnHi Z h a1 A kA N (fun _ => .null) [] :=
  ⟨F, fun m _ => Or.inl ⟨rfl, fun _ => rfl⟩, fun _ _ _ _ _ q => nomatch q⟩
end OwnHist
section OwnHist2
variable {Z : State} {h h' : Heap} {a1 A : Addr} {kA : ClassId} {N : Nat} {B : Nat → Value} {ks : List (Nat × Nat)}
theorem OwnHi.at {m : Nat} {b : Addr} (H : OwnHi Z h a1 A kA N B ks) (hm : m < 49) (hb : B m = .ref b) : ∃ k, OwnF Z h b k .long (own_len m) (fun i => .long (own_g ks m i)) ∧ N ≤ b ∧ b ≠ A ∧ b ≠ a1 := by
  rcases H.2.1 m hm with q | ⟨b', k, q1, q2, q3, q4, q5⟩
  · rw [hb] at q; cases q.1
  · rw [hb] at q1; cases q1; exact ⟨k, q2, q3, q4, q5⟩
theorem own_mz {x : Int32} {n : Nat} (h : x.toNatClampNeg = n) (h0 : ¬ x < 0) (hx : ¬ x = 0) : ¬ n = 0 := fun q => hx (by
  have e := nat_of h0
  rw [h, q] at e
  exact Int32.toInt_inj.mp (e.trans (by decide)))
end OwnHist2

theorem ef_rmInit (m : MethodId) (x0 : Addr) : entryFrame m #[(.ref x0)] 1 = mkF m 0 #[.val (.ref x0)] [] := by first | (simp [entryFrame, mkF, argsToLocals, Value.category]; done) | rfl
theorem d4_0 : decode prog_12_method_1_code 0 = .ok (.aload_n 0, 1) := by decide +kernel
theorem d4_1 : decode prog_12_method_1_code 1 = .ok (.invokespecial 1, 3) := by decide +kernel
theorem d4_4 : decode prog_12_method_1_code 4 = .ok (.aload_n 0, 1) := by decide +kernel
theorem d4_5 : decode prog_12_method_1_code 5 = .ok (.bipush 64, 2) := by decide +kernel
theorem d4_7 : decode prog_12_method_1_code 7 = .ok (.getstatic 9, 3) := by decide +kernel
theorem d4_10 : decode prog_12_method_1_code 10 = .ok (.isub, 1) := by decide +kernel
theorem d4_11 : decode prog_12_method_1_code 11 = .ok (.iconst 1, 1) := by decide +kernel
theorem d4_12 : decode prog_12_method_1_code 12 = .ok (.iadd, 1) := by decide +kernel
theorem d4_13 : decode prog_12_method_1_code 13 = .ok (.anewarray 15, 3) := by decide +kernel
theorem d4_16 : decode prog_12_method_1_code 16 = .ok (.putfield 17, 3) := by decide +kernel
theorem d4_19 : decode prog_12_method_1_code 19 = .ok (.return_, 1) := by decide +kernel
def QInit (Z : State) (a1 : Addr) (h0 : Heap) (n0 : Nat) (v : Option Value) (h : Heap) (L : List Loc) : Prop := ∃ (A : Addr) (kA : ClassId), v = none ∧ Fr n0 L ∧ Keep h0 h [a1] ∧ Exa Z h a1 "com/example/kurir/kurir/bench/Latencies" ∧ Fld Z h a1 "com/example/kurir/kurir/bench/Latencies" "counts" "[[J" (.ref A) ∧ Fld Z h a1 "com/example/kurir/kurir/bench/Latencies" "count" "J" (.long (0 : Int64)) ∧ Fld Z h a1 "com/example/kurir/kurir/bench/Latencies" "maxMicros" "J" (.long (0 : Int64)) ∧ OwnF Z h A kA (.array .long) 49 (fun _ => .null) ∧ OvrA Z kA .long "[J" ∧ Sta Z h "com/example/kurir/kurir/bench/Latencies" "EXACT_BITS" "I" (.int (16 : Int32)) ∧ Sta Z h "com/example/kurir/kurir/bench/Latencies" "HALF" "I" (.int (32768 : Int32)) ∧ h0.size ≤ A ∧ n0 ≤ A
set_option maxRecDepth 65536 in
set_option maxHeartbeats 40000000 in
theorem rmInit (l : Launch) (Z : State) (a0 : Array Value) (hw : ∀ d ∈ tables_1, d.before a0 Z = true) (ws : List Jvm.Cond) (a1 : Addr) (h0 : Heap) (n0 : Nat) (Z0 : n0 ≤ h0.size) (E_a1 : Exa Z h0 a1 "com/example/kurir/kurir/bench/Latencies") (F_counts_a1 : Fld Z h0 a1 "com/example/kurir/kurir/bench/Latencies" "counts" "[[J" .null) (F_count_a1 : Fld Z h0 a1 "com/example/kurir/kurir/bench/Latencies" "count" "J" (.long (0 : Int64))) (F_maxMicros_a1 : Fld Z h0 a1 "com/example/kurir/kurir/bench/Latencies" "maxMicros" "J" (.long (0 : Int64))) (S_EB : Sta Z h0 "com/example/kurir/kurir/bench/Latencies" "EXACT_BITS" "I" (.int (16 : Int32))) (S_HALF : Sta Z h0 "com/example/kurir/kurir/bench/Latencies" "HALF" "I" (.int (32768 : Int32))) (g_a1 : n0 ≤ a1) :
    MetFree l (⟨"com/example/kurir/kurir/bench/Latencies", "<init>", "()V"⟩ : MethodName) (head1 (Jvm.Cond.code (⟨"com/example/kurir/kurir/bench/Latencies", "<init>", "()V"⟩ : MethodName) prog_12_method_1_code 1 none :: ws) ({ frames := 1, cells := 1, slots := 49, locals := 14 } : Room)) (fun a U => a = #[(.ref a1)] ∧ Z.Warmed39 U.vm ∧ U.heap = h0) (fun _ _ _ _ _ => True) (fun _ U o U' => ∃ v L, o = .returned v ∧ QInit Z a1 h0 n0 v U'.heap L ∧ FrameEnd U o U' L ({ frames := 1, cells := 1, slots := 49, locals := 14 } : Room).cells ({ frames := 1, cells := 1, slots := 49, locals := 14 } : Room).slots) := by
  refine MetFree.of_bodySF (plainFor_of_name pn_com_example_kurir_kurir_bench_Latencies) hisR ?_
  intro p e s m args below meth c s₁ Bd hml0 hP hK
  obtain ⟨rfl, hZ, hh⟩ := hP
  have hx := Bd.exec
  have hby := Bd.bytes
  have hlk := BodyLoose.notSynchronized Bd
  have hml : c.maxLocals = 1 := hml0
  have hown : s.vm.findClass "com/example/kurir/kurir/bench/Latencies" = some m.cls := findClass_of_methodNamed Bd.named
  have hnm := (name_of_methodNamed Bd.named Bd.method).1
  have X0 : Stand p l e ({ frames := 1, cells := 1, slots := 49, locals := 14 } : Room) s m #[(.ref a1)] below meth c s₁ [] 0 0 := Stand.of_body Bd
  have e0 : s₁.heap = h0 := by rw [← hh, Bd.state]; rfl
  have N0 := Fr.nil n0
  refine OwnR.of (s := s) (Q := QInit Z a1 h0 n0) (fun t k => castTop (ef_rmInit m a1) k) ?_
  show OwnR _ _ _ _ _ _ _ (s₁.setTop (mkF m 0 #[.val (.ref a1)] []))
  refine OwnR.of (fun _ hr => XS.aloadN X0.here hx rfl (hb hby d4_0) rfl rfl hr) ?_
  show OwnR _ _ _ _ _ _ _ (s₁.setTop (mkF m 1 #[.val (.ref a1)] [(.ref a1)]))
  obtain ⟨T1, X1, e1, st1⟩ := initO X0 hx hZ hown (hw _ (List.mem_of_getElem? (i := 20) rfl)) (hw _ (List.mem_of_getElem? (i := 21) rfl)) (hw _ (List.mem_of_getElem? (i := 22) rfl)) e0 (g := (mkF m 1 #[.val (.ref a1)] [(.ref a1)])) rfl (by rw [hml]; rfl) rfl (hb hby d4_1) (by decide) (W := 0) (by show 2 * 0 + _ ≤ _; exact Nat.le_of_eq rfl) (by decide)
  refine OwnR.of (st1) ?_
  show OwnR _ _ _ _ _ _ _ (T1.setTop (mkF m 4 #[.val (.ref a1)] []))
  refine OwnR.of (fun _ hr => XS.aloadN X1.here hx rfl (hb hby d4_4) rfl rfl hr) ?_
  show OwnR _ _ _ _ _ _ _ (T1.setTop (mkF m 5 #[.val (.ref a1)] [(.ref a1)]))
  refine OwnR.of (fun _ hr => XS.bipush X1.here hx rfl (hb hby d4_5) hr) ?_
  show OwnR _ _ _ _ _ _ _ (T1.setTop (mkF m 7 #[.val (.ref a1)] [(.int (64 : Int32)), (.ref a1)]))
  obtain ⟨T2, X2, e2, st2⟩ := getS2 X1 hx hZ hown (host := "") (Or.inl (hw _ (List.mem_of_getElem? (i := 23) rfl))) Via.refl e1 S_EB (g := (mkF m 7 #[.val (.ref a1)] [(.int (64 : Int32)), (.ref a1)])) rfl (hb hby d4_7)
  refine OwnR.of (st2) ?_
  show OwnR _ _ _ _ _ _ _ (T2.setTop (mkF m 10 #[.val (.ref a1)] [(.int (16 : Int32)), (.int (64 : Int32)), (.ref a1)]))
  refine OwnR.of (fun _ hr => XS.isub X2.here hx rfl (hb hby d4_10) rfl hr) ?_
  show OwnR _ _ _ _ _ _ _ (T2.setTop (mkF m 11 #[.val (.ref a1)] [(.int ((64 : Int32) - (16 : Int32))), (.ref a1)]))
  rw [(by decide : ((64 : Int32) - (16 : Int32)) = (48 : Int32))]
  show OwnR _ _ _ _ _ _ _ (T2.setTop (mkF m 11 #[.val (.ref a1)] [(.int (48 : Int32)), (.ref a1)]))
  refine OwnR.of (fun _ hr => XS.iconst X2.here hx rfl (hb hby d4_11) hr) ?_
  show OwnR _ _ _ _ _ _ _ (T2.setTop (mkF m 12 #[.val (.ref a1)] [(.int (1 : Int32)), (.int (48 : Int32)), (.ref a1)]))
  refine OwnR.of (fun _ hr => XS.iadd X2.here hx rfl (hb hby d4_12) rfl hr) ?_
  show OwnR _ _ _ _ _ _ _ (T2.setTop (mkF m 13 #[.val (.ref a1)] [(.int ((48 : Int32) + (1 : Int32))), (.ref a1)]))
  rw [(by decide : ((48 : Int32) + (1 : Int32)) = (49 : Int32))]
  show OwnR _ _ _ _ _ _ _ (T2.setTop (mkF m 13 #[.val (.ref a1)] [(.int (49 : Int32)), (.ref a1)]))
  obtain ⟨T3, h3, k3, X3, e3, E3, A3, AE3, O3, st3⟩ := newRA X2 hx hZ hown (C := "[J") (ty := .long) rfl (hw _ (List.mem_of_getElem? (i := 25) rfl)) (hw _ (List.mem_of_getElem? (i := 26) rfl)) e2 (g := (mkF m 13 #[.val (.ref a1)] [(.int (49 : Int32)), (.ref a1)])) rfl (hb hby d4_13) rfl (by decide) (cap := 49) (by decide) (by decide) (by decide) (by decide) (ad := "[[J") rfl
  obtain ⟨b3, g3⟩ : ∃ z, z = h0.size := ⟨_, rfl⟩
  rw [← g3] at A3 AE3 st3
  refine OwnR.of (st3) ?_
  have gn_b3 : n0 ≤ b3 := Nat.le_trans (Nat.le_trans Z0 (Keep.refl h0 [a1]).1) (Nat.le_of_eq g3.symm)
  have sz_b3 : h0.size ≤ b3 := Nat.le_trans (Keep.refl h0 [a1]).1 (Nat.le_of_eq g3.symm)
  have K3 : Keep h0 h3 [a1] := Keep.ext (Keep.refl h0 [a1]) E3
  have FA : OwnF Z h3 b3 k3 (.array .long) 49 (fun _ => .null) := OwnF.new A3 rfl
  show OwnR _ _ _ _ _ _ _ (T3.setTop (mkF m 16 #[.val (.ref a1)] [(.ref b3), (.ref a1)]))
  obtain ⟨T4, h4, X4, e4, W4, st4⟩ := putF X3 hx hZ hown (host := "") (Or.inl (hw _ (List.mem_of_getElem? (i := 27) rfl))) Via.refl e3 (Fld.ext E3 F_counts_a1) (Exa.keep E_a1 K3) (Or.inr ⟨(hw _ (List.mem_of_getElem? (i := 28) rfl)), rfl, hnm⟩) (hw _ (List.mem_of_getElem? (i := 15) rfl)) (ty := (.array (.array .long))) (by decide) rfl rfl (g := (mkF m 16 #[.val (.ref a1)] [(.ref b3), (.ref a1)])) rfl rfl (hb hby d4_16)
  refine OwnR.of (st4) ?_
  have F4 := Fld.same W4 (Fld.ext E3 F_counts_a1)
  have K4 : Keep h0 h4 [a1] := Keep.wr K3 W4 (Or.inl (List.mem_of_getElem? (i := 0) rfl))
  have N4 := Fr.snoc X4 N0 g_a1
  show OwnR _ _ _ _ _ _ _ (T4.setTop (mkF m 19 #[.val (.ref a1)] []))
  have FA2 := FA.other W4 (Ne.symm (Nat.ne_of_lt (Nat.lt_of_lt_of_le E_a1.lt (Nat.le_of_eq g3.symm))))
  refine own_leafV X4 hx hlk Bd.returns (hb hby d4_19) (by decide) (by decide) ?_
  show QInit Z a1 h0 n0 _ T4.heap _
  rw [show T4.heap = h4 from e4]
  refine ⟨b3, k3, rfl, N4, ⟨K4, (Exa.keep E_a1 K4), F4, (Fld.other W4 (Fld.ext E3 F_count_a1) (Or.inr (slot_ne (Or.inl (hw _ (List.mem_of_getElem? (i := 67) rfl))) (Or.inr (hw _ (List.mem_of_getElem? (i := 28) rfl))) (by decide) (t := .long) (t' := (.array (.array .long))) (by decide) (by decide)))), (Fld.other W4 (Fld.ext E3 F_maxMicros_a1) (Or.inr (slot_ne (Or.inl (hw _ (List.mem_of_getElem? (i := 69) rfl))) (Or.inr (hw _ (List.mem_of_getElem? (i := 28) rfl))) (by decide) (t := .long) (t' := (.array (.array .long))) (by decide) (by decide)))), FA2, O3, ((S_EB.ext E3).wr W4), ((S_HALF.ext E3).wr W4), sz_b3, gn_b3⟩⟩
theorem ef_rmAdd (m : MethodId) (x0 : Addr) (x1 : Int64) : entryFrame m #[(.ref x0), (.long x1)] 6 = mkF m 0 #[.val (.ref x0), .val (.long x1), .second, .unset, .unset, .unset] [] := by first | (simp [entryFrame, mkF, argsToLocals, Value.category]; done) | rfl
theorem d7_0 : decode prog_12_method_2_code 0 = .ok (.lconst 0, 1) := by decide +kernel
theorem d7_1 : decode prog_12_method_2_code 1 = .ok (.lload_n 1, 1) := by decide +kernel
theorem d7_2 : decode prog_12_method_2_code 2 = .ok (.invokestatic 21, 3) := by decide +kernel
theorem pd__JJ_J : parseMethodDescriptor "(JJ)J" = some ⟨[.long, .long], some .long⟩ := by decide +kernel
theorem d7_5 : decode prog_12_method_2_code 5 = .ok (.ldc2_w 27, 3) := by decide +kernel
theorem d7_8 : decode prog_12_method_2_code 8 = .ok (.ldiv, 1) := by decide +kernel
theorem d7_9 : decode prog_12_method_2_code 9 = .ok (.lstore_n 3, 1) := by decide +kernel
theorem d7_10 : decode prog_12_method_2_code 10 = .ok (.lload_n 3, 1) := by decide +kernel
theorem d7_11 : decode prog_12_method_2_code 11 = .ok (.invokestatic 29, 3) := by decide +kernel
theorem d7_14 : decode prog_12_method_2_code 14 = .ok (.istore 5, 2) := by decide +kernel
theorem d7_16 : decode prog_12_method_2_code 16 = .ok (.aload_n 0, 1) := by decide +kernel
theorem d7_17 : decode prog_12_method_2_code 17 = .ok (.getfield 17, 3) := by decide +kernel
theorem d7_20 : decode prog_12_method_2_code 20 = .ok (.iload 5, 2) := by decide +kernel
theorem d7_22 : decode prog_12_method_2_code 22 = .ok (.aaload, 1) := by decide +kernel
theorem d7_23 : decode prog_12_method_2_code 23 = .ok (.ifnonnull 28, 3) := by decide +kernel
theorem d7_26 : decode prog_12_method_2_code 26 = .ok (.aload_n 0, 1) := by decide +kernel
theorem d7_27 : decode prog_12_method_2_code 27 = .ok (.getfield 17, 3) := by decide +kernel
theorem d7_30 : decode prog_12_method_2_code 30 = .ok (.iload 5, 2) := by decide +kernel
theorem d7_32 : decode prog_12_method_2_code 32 = .ok (.iload 5, 2) := by decide +kernel
theorem d7_34 : decode prog_12_method_2_code 34 = .ok (.ifCond .ne 11, 3) := by decide +kernel
theorem d7_37 : decode prog_12_method_2_code 37 = .ok (.iconst 2, 1) := by decide +kernel
theorem d7_38 : decode prog_12_method_2_code 38 = .ok (.getstatic 33, 3) := by decide +kernel
theorem d7_41 : decode prog_12_method_2_code 41 = .ok (.imul, 1) := by decide +kernel
theorem d7_42 : decode prog_12_method_2_code 42 = .ok (.goto 6, 3) := by decide +kernel
theorem d7_48 : decode prog_12_method_2_code 48 = .ok (.newarray .long, 2) := by decide +kernel
theorem d7_50 : decode prog_12_method_2_code 50 = .ok (.aastore, 1) := by decide +kernel
theorem d7_51 : decode prog_12_method_2_code 51 = .ok (.aload_n 0, 1) := by decide +kernel
theorem d7_52 : decode prog_12_method_2_code 52 = .ok (.getfield 17, 3) := by decide +kernel
theorem d7_55 : decode prog_12_method_2_code 55 = .ok (.iload 5, 2) := by decide +kernel
theorem d7_57 : decode prog_12_method_2_code 57 = .ok (.aaload, 1) := by decide +kernel
theorem d7_58 : decode prog_12_method_2_code 58 = .ok (.lload_n 3, 1) := by decide +kernel
theorem d7_59 : decode prog_12_method_2_code 59 = .ok (.iload 5, 2) := by decide +kernel
theorem d7_61 : decode prog_12_method_2_code 61 = .ok (.invokestatic 36, 3) := by decide +kernel
theorem pd__JI_I : parseMethodDescriptor "(JI)I" = some ⟨[.long, .int], some .int⟩ := by decide +kernel
theorem d7_64 : decode prog_12_method_2_code 64 = .ok (.dup2, 1) := by decide +kernel
theorem d7_65 : decode prog_12_method_2_code 65 = .ok (.laload, 1) := by decide +kernel
theorem d7_66 : decode prog_12_method_2_code 66 = .ok (.lconst 1, 1) := by decide +kernel
theorem d7_67 : decode prog_12_method_2_code 67 = .ok (.ladd, 1) := by decide +kernel
theorem d7_68 : decode prog_12_method_2_code 68 = .ok (.lastore, 1) := by decide +kernel
theorem d7_69 : decode prog_12_method_2_code 69 = .ok (.aload_n 0, 1) := by decide +kernel
theorem d7_70 : decode prog_12_method_2_code 70 = .ok (.dup, 1) := by decide +kernel
theorem d7_71 : decode prog_12_method_2_code 71 = .ok (.getfield 40, 3) := by decide +kernel
theorem d7_74 : decode prog_12_method_2_code 74 = .ok (.lconst 1, 1) := by decide +kernel
theorem d7_75 : decode prog_12_method_2_code 75 = .ok (.ladd, 1) := by decide +kernel
theorem d7_76 : decode prog_12_method_2_code 76 = .ok (.putfield 40, 3) := by decide +kernel
theorem d7_79 : decode prog_12_method_2_code 79 = .ok (.aload_n 0, 1) := by decide +kernel
theorem d7_80 : decode prog_12_method_2_code 80 = .ok (.aload_n 0, 1) := by decide +kernel
theorem d7_81 : decode prog_12_method_2_code 81 = .ok (.getfield 44, 3) := by decide +kernel
theorem d7_84 : decode prog_12_method_2_code 84 = .ok (.lload_n 3, 1) := by decide +kernel
theorem d7_85 : decode prog_12_method_2_code 85 = .ok (.invokestatic 21, 3) := by decide +kernel
theorem d7_88 : decode prog_12_method_2_code 88 = .ok (.putfield 44, 3) := by decide +kernel
theorem d7_91 : decode prog_12_method_2_code 91 = .ok (.return_, 1) := by decide +kernel
theorem d7_45 : decode prog_12_method_2_code 45 = .ok (.getstatic 33, 3) := by decide +kernel
def QAdd (Z : State) (a1 : Addr) (A : Addr) (kA : ClassId) (N : Nat) (B : Nat → Value) (ks : List (Nat × Nat)) (cnt : Int64) (mx : Int64) (mc : Int64) (mn : Nat) (jn : Nat) (h0 : Heap) (n0 : Nat) (v : Option Value) (h : Heap) (L : List Loc) : Prop := ∃ (B2 : Nat → Value), v = none ∧ Fr n0 L ∧ Exa Z h a1 "com/example/kurir/kurir/bench/Latencies" ∧ Fld Z h a1 "com/example/kurir/kurir/bench/Latencies" "counts" "[[J" (.ref A) ∧ Fld Z h a1 "com/example/kurir/kurir/bench/Latencies" "count" "J" (.long (cnt + (1 : Int64))) ∧ Fld Z h a1 "com/example/kurir/kurir/bench/Latencies" "maxMicros" "J" (.long (own_max mx mc)) ∧ OwnHi Z h a1 A kA N B2 ((mn, jn) :: ks) ∧ (own_cost (B2 mn) mn = 0 ∧ ∀ x, x ≠ mn → B2 x = B x) ∧ Sta Z h "com/example/kurir/kurir/bench/Latencies" "EXACT_BITS" "I" (.int (16 : Int32)) ∧ Sta Z h "com/example/kurir/kurir/bench/Latencies" "HALF" "I" (.int (32768 : Int32)) ∧ h0.size ≤ h.size
set_option maxRecDepth 65536 in
set_option maxHeartbeats 40000000 in
theorem rmAdd (l : Launch) (Z : State) (a0 : Array Value) (hw : ∀ d ∈ tables_1, d.before a0 Z = true) (ws : List Jvm.Cond) (a1 : Addr) (q2 : Int64) (A : Addr) (kA : ClassId) (N : Nat) (B : Nat → Value) (ks : List (Nat × Nat)) (cnt mx mc : Int64) (mI iI : Int32) (mn jn sl : Nat) (h0 : Heap) (n0 : Nat) (Z0 : n0 ≤ h0.size) (E_a1 : Exa Z h0 a1 "com/example/kurir/kurir/bench/Latencies") (F_counts_a1 : Fld Z h0 a1 "com/example/kurir/kurir/bench/Latencies" "counts" "[[J" (.ref A)) (F_count_a1 : Fld Z h0 a1 "com/example/kurir/kurir/bench/Latencies" "count" "J" (.long cnt)) (F_maxMicros_a1 : Fld Z h0 a1 "com/example/kurir/kurir/bench/Latencies" "maxMicros" "J" (.long mx)) (S_EB : Sta Z h0 "com/example/kurir/kurir/bench/Latencies" "EXACT_BITS" "I" (.int (16 : Int32))) (S_HALF : Sta Z h0 "com/example/kurir/kurir/bench/Latencies" "HALF" "I" (.int (32768 : Int32))) (Hi : OwnHi Z h0 a1 A kA N B ks) (Ov : OvrA Z kA .long "[J") (hN : n0 ≤ N) (hNs : N ≤ h0.size) (g_a1 : n0 ≤ a1) (g_A : n0 ≤ A) (ne_1A : a1 ≠ A) (hmc : (own_max (0 : Int64) q2) / (1000 : Int64) = mc) (hm : own_magn mc = mI) (hmn : mI.toNatClampNeg = mn) (hm0 : ¬ mI < 0) (hm49 : mn < 49) (hi : own_idx mc mI = iI) (hjn : iI.toNatClampNeg = jn) (hi0 : ¬ iI < 0) (hil : jn < own_len mn) (hsl : sl = own_cost (B mn) mn) :
    MetFree l (⟨"com/example/kurir/kurir/bench/Latencies", "add", "(J)V"⟩ : MethodName) (head1 (Jvm.Cond.code (⟨"com/example/kurir/kurir/bench/Latencies", "add", "(J)V"⟩ : MethodName) prog_12_method_2_code 6 none :: ws) ({ frames := 3, cells := 1, slots := sl, locals := 64 } : Room)) (fun a U => a = #[(.ref a1), (.long q2)] ∧ Z.Warmed39 U.vm ∧ U.heap = h0) (fun _ _ _ _ _ => True) (fun _ U o U' => ∃ v L, o = .returned v ∧ QAdd Z a1 A kA N B ks cnt mx mc mn jn h0 n0 v U'.heap L ∧ FrameEnd U o U' L ({ frames := 3, cells := 1, slots := sl, locals := 64 } : Room).cells ({ frames := 3, cells := 1, slots := sl, locals := 64 } : Room).slots) := by
  refine MetFree.of_bodySF (plainFor_of_name pn_com_example_kurir_kurir_bench_Latencies) hisR ?_
  intro p e s m args below meth c s₁ Bd hml0 hP hK
  obtain ⟨rfl, hZ, hh⟩ := hP
  have hx := Bd.exec
  have hby := Bd.bytes
  have hlk := BodyLoose.notSynchronized Bd
  have hml : c.maxLocals = 6 := hml0
  have hown : s.vm.findClass "com/example/kurir/kurir/bench/Latencies" = some m.cls := findClass_of_methodNamed Bd.named
  have hnm := (name_of_methodNamed Bd.named Bd.method).1
  have X0 : Stand p l e ({ frames := 3, cells := 1, slots := sl, locals := 64 } : Room) s m #[(.ref a1), (.long q2)] below meth c s₁ [] 0 0 := Stand.of_body Bd
  have e0 : s₁.heap = h0 := by rw [← hh, Bd.state]; rfl
  have N0 := Fr.nil n0
  refine OwnR.of (s := s) (Q := QAdd Z a1 A kA N B ks cnt mx mc mn jn h0 n0) (fun t k => castTop (ef_rmAdd m a1 q2) k) ?_
  show OwnR _ _ _ _ _ _ _ (s₁.setTop (mkF m 0 #[.val (.ref a1), .val (.long q2), .second, .unset, .unset, .unset] []))
  have Hi0 := Hi
  rcases Hi.2.1 mn hm49 with ⟨hBn, hz⟩ | ⟨b, kb, hBr, hF, hNb, hbA, hba⟩
  · by_cases hmz : mI = (0 : Int32)
    · skip
      have hmn0 : mn = 0 := by rw [← hmn, hmz]; rfl
      have hlen : own_len mn = 65536 := by simp [own_len, hmn0]
      obtain rfl : sl = 65536 := by rw [hsl, hBn]; exact hlen
      refine OwnR.of (fun _ hr => XS.lconst X0.here hx rfl (hb hby d7_0) hr) ?_
      show OwnR _ _ _ _ _ _ _ (s₁.setTop (mkF m 1 #[.val (.ref a1), .val (.long q2), .second, .unset, .unset, .unset] [(.long (0 : Int64))]))
      refine OwnR.of (fun _ hr => XS.lloadN X0.here hx rfl (hb hby d7_1) rfl hr) ?_
      show OwnR _ _ _ _ _ _ _ (s₁.setTop (mkF m 2 #[.val (.ref a1), .val (.long q2), .second, .unset, .unset, .unset] [(.long q2), (.long (0 : Int64))]))
      obtain ⟨_, _, ⟨T1, L1, kc1, ns1⟩, -, X1, ⟨Lc1, hQ1, l1, y1, z1⟩, st1⟩ := Jvm.LawKit.callS X0 hx (y := (⟨"java/lang/Math", "max", "(JJ)J"⟩ : MethodName)) hown (mvT hZ (hw _ (List.mem_of_getElem? (i := 39) rfl))) (mvT hZ (hw _ (List.mem_of_getElem? (i := 40) rfl))) (mvT hZ (hw _ (List.mem_of_getElem? (i := 41) rfl))) (mvT hZ (hw _ (List.mem_of_getElem? (i := 42) rfl))) (by decide) (backOf (W := 0) (rmMaxJ l Z a0 hw [] (0 : Int64) q2 h0 n0 (Nat.le_trans Z0 (Keep.refl h0 []).1) ) hZ (hw _ (List.mem_of_getElem? (i := 42) rfl)) (hw _ (List.mem_of_getElem? (i := 41) rfl)) (by decide) (by decide)) (g := (mkF m 2 #[.val (.ref a1), .val (.long q2), .second, .unset, .unset, .unset] [(.long q2), (.long (0 : Int64))])) rfl (by rw [hml]; rfl) (argsL := [(.long (0 : Int64)), (.long q2)]) (rest := []) (lenOf pd__JJ_J rfl) rfl (by show 2 * 0 + _ ≤ _; exact Nat.le_of_eq rfl) (hb hby d7_2) (fun _ _ => ⟨rfl, e0, (by decide : 0 + 0 ≤ _), (by decide : 0 + 0 ≤ _)⟩)
      dsimp only [Pt.U, Pt.locs, Pt.cells, Pt.slots] at X1 l1 y1 z1 st1 hQ1
      rw [l1, y1, z1] at X1
      obtain ⟨rfl, N1q, e1⟩ := hQ1
      have N1 := Fr.app N0 N1q
      refine OwnR.of (st1) ?_
      show OwnR _ _ _ _ _ _ _ (T1.setTop (mkF m 5 #[.val (.ref a1), .val (.long q2), .second, .unset, .unset, .unset] [(.long (own_max (0 : Int64) q2))]))
      refine OwnR.of (X1.ldc2Long hx hown (mvT hZ (hw _ (List.mem_of_getElem? (i := 43) rfl))) (g := (mkF m 5 #[.val (.ref a1), .val (.long q2), .second, .unset, .unset, .unset] [(.long (own_max (0 : Int64) q2))])) rfl (hb hby d7_5)) ?_
      show OwnR _ _ _ _ _ _ _ (T1.setTop (mkF m 8 #[.val (.ref a1), .val (.long q2), .second, .unset, .unset, .unset] [(.long (1000 : Int64)), (.long (own_max (0 : Int64) q2))]))
      refine OwnR.of (fun _ hr => XS.ldiv X1.here hx rfl (hb hby d7_8) rfl (by decide) hr) ?_
      show OwnR _ _ _ _ _ _ _ (T1.setTop (mkF m 9 #[.val (.ref a1), .val (.long q2), .second, .unset, .unset, .unset] [(.long ((own_max (0 : Int64) q2) / (1000 : Int64)))]))
      rw [hmc]
      show OwnR _ _ _ _ _ _ _ (T1.setTop (mkF m 9 #[.val (.ref a1), .val (.long q2), .second, .unset, .unset, .unset] [(.long mc)]))
      refine OwnR.of (fun _ hr => XS.lstoreN X1.here hx rfl (hb hby d7_9) rfl (l' := #[.val (.ref a1), .val (.long q2), .second, .val (.long mc), .second, .unset]) rfl hr) ?_
      show OwnR _ _ _ _ _ _ _ (T1.setTop (mkF m 10 #[.val (.ref a1), .val (.long q2), .second, .val (.long mc), .second, .unset] []))
      refine OwnR.of (fun _ hr => XS.lloadN X1.here hx rfl (hb hby d7_10) rfl hr) ?_
      show OwnR _ _ _ _ _ _ _ (T1.setTop (mkF m 11 #[.val (.ref a1), .val (.long q2), .second, .val (.long mc), .second, .unset] [(.long mc)]))
      obtain ⟨_, _, ⟨T2, L2, kc2, ns2⟩, -, X2, ⟨Lc2, hQ2, l2, y2, z2⟩, st2⟩ := Jvm.LawKit.callS X1 hx (y := (⟨"com/example/kurir/kurir/bench/Latencies", "magnitude", "(J)I"⟩ : MethodName)) hown (mvT hZ (hw _ (List.mem_of_getElem? (i := 44) rfl))) (mvT hZ (hw _ (List.mem_of_getElem? (i := 45) rfl))) (mvT hZ (hw _ (List.mem_of_getElem? (i := 16) rfl))) (mvT hZ (hw _ (List.mem_of_getElem? (i := 46) rfl))) (by decide) (backOf (W := 0) (rmMagn l Z a0 hw [] mc h0 n0 (Nat.le_trans Z0 (Keep.refl h0 []).1) S_EB S_HALF) hZ (hw _ (List.mem_of_getElem? (i := 46) rfl)) (hw _ (List.mem_of_getElem? (i := 16) rfl)) (by decide) (by decide)) (g := (mkF m 11 #[.val (.ref a1), .val (.long q2), .second, .val (.long mc), .second, .unset] [(.long mc)])) rfl (by rw [hml]; rfl) (argsL := [(.long mc)]) (rest := []) (lenOf pd__J_I rfl) rfl (by show 2 * 0 + _ ≤ _; exact Nat.le_of_eq rfl) (hb hby d7_11) (fun _ _ => ⟨rfl, e1, (by decide : 0 + 0 ≤ _), (by decide : 0 + 0 ≤ _)⟩)
      dsimp only [Pt.U, Pt.locs, Pt.cells, Pt.slots] at X2 l2 y2 z2 st2 hQ2
      rw [l2, y2, z2] at X2
      obtain ⟨rfl, N2q, e2⟩ := hQ2
      have N2 := Fr.app N1 N2q
      refine OwnR.of (st2) ?_
      show OwnR _ _ _ _ _ _ _ (T2.setTop (mkF m 14 #[.val (.ref a1), .val (.long q2), .second, .val (.long mc), .second, .unset] [(.int (own_magn mc))]))
      rw [hm]
      show OwnR _ _ _ _ _ _ _ (T2.setTop (mkF m 14 #[.val (.ref a1), .val (.long q2), .second, .val (.long mc), .second, .unset] [(.int mI)]))
      refine OwnR.of (fun _ hr => XS.istore X2.here hx rfl (hb hby d7_14) rfl (l' := #[.val (.ref a1), .val (.long q2), .second, .val (.long mc), .second, .val (.int mI)]) rfl hr) ?_
      show OwnR _ _ _ _ _ _ _ (T2.setTop (mkF m 16 #[.val (.ref a1), .val (.long q2), .second, .val (.long mc), .second, .val (.int mI)] []))
      refine OwnR.of (fun _ hr => XS.aloadN X2.here hx rfl (hb hby d7_16) rfl rfl hr) ?_
      show OwnR _ _ _ _ _ _ _ (T2.setTop (mkF m 17 #[.val (.ref a1), .val (.long q2), .second, .val (.long mc), .second, .val (.int mI)] [(.ref a1)]))
      obtain ⟨T3, X3, e3, st3⟩ := getF X2 hx hZ hown (host := "") (Or.inl (hw _ (List.mem_of_getElem? (i := 27) rfl))) Via.refl e2 F_counts_a1 (g := (mkF m 17 #[.val (.ref a1), .val (.long q2), .second, .val (.long mc), .second, .val (.int mI)] [(.ref a1)])) rfl rfl (hb hby d7_17)
      refine OwnR.of (st3) ?_
      show OwnR _ _ _ _ _ _ _ (T3.setTop (mkF m 20 #[.val (.ref a1), .val (.long q2), .second, .val (.long mc), .second, .val (.int mI)] [(.ref A)]))
      refine OwnR.of (fun _ hr => XS.iload X3.here hx rfl (hb hby d7_20) rfl hr) ?_
      show OwnR _ _ _ _ _ _ _ (T3.setTop (mkF m 22 #[.val (.ref a1), .val (.long q2), .second, .val (.long mc), .second, .val (.int mI)] [(.int mI), (.ref A)]))
      refine OwnR.of (own_aaload rfl X3 hx hZ e3 Hi.1 hmn hm0 hm49 (v := .null) hBn (g := (mkF m 22 #[.val (.ref a1), .val (.long q2), .second, .val (.long mc), .second, .val (.int mI)] [(.int mI), (.ref A)])) rfl rfl (hb hby d7_22)) ?_
      show OwnR _ _ _ _ _ _ _ (T3.setTop (mkF m 23 #[.val (.ref a1), .val (.long q2), .second, .val (.long mc), .second, .val (.int mI)] [.null]))
      refine OwnR.of (fun _ hr => XS.ifnonnullNo X3.here hx rfl (hb hby d7_23) rfl hr) ?_
      show OwnR _ _ _ _ _ _ _ (T3.setTop (mkF m 26 #[.val (.ref a1), .val (.long q2), .second, .val (.long mc), .second, .val (.int mI)] []))
      refine OwnR.of (fun _ hr => XS.aloadN X3.here hx rfl (hb hby d7_26) rfl rfl hr) ?_
      show OwnR _ _ _ _ _ _ _ (T3.setTop (mkF m 27 #[.val (.ref a1), .val (.long q2), .second, .val (.long mc), .second, .val (.int mI)] [(.ref a1)]))
      obtain ⟨T4, X4, e4, st4⟩ := getF X3 hx hZ hown (host := "") (Or.inl (hw _ (List.mem_of_getElem? (i := 27) rfl))) Via.refl e3 F_counts_a1 (g := (mkF m 27 #[.val (.ref a1), .val (.long q2), .second, .val (.long mc), .second, .val (.int mI)] [(.ref a1)])) rfl rfl (hb hby d7_27)
      refine OwnR.of (st4) ?_
      show OwnR _ _ _ _ _ _ _ (T4.setTop (mkF m 30 #[.val (.ref a1), .val (.long q2), .second, .val (.long mc), .second, .val (.int mI)] [(.ref A)]))
      refine OwnR.of (fun _ hr => XS.iload X4.here hx rfl (hb hby d7_30) rfl hr) ?_
      show OwnR _ _ _ _ _ _ _ (T4.setTop (mkF m 32 #[.val (.ref a1), .val (.long q2), .second, .val (.long mc), .second, .val (.int mI)] [(.int mI), (.ref A)]))
      refine OwnR.of (fun _ hr => XS.iload X4.here hx rfl (hb hby d7_32) rfl hr) ?_
      show OwnR _ _ _ _ _ _ _ (T4.setTop (mkF m 34 #[.val (.ref a1), .val (.long q2), .second, .val (.long mc), .second, .val (.int mI)] [(.int mI), (.int mI), (.ref A)]))
      refine OwnR.of (fun _ hr => XS.ifNo X4.here hx rfl (hb hby d7_34) rfl ((if0 _ _).trans (teq hmz).2) hr) ?_
      show OwnR _ _ _ _ _ _ _ (T4.setTop (mkF m 37 #[.val (.ref a1), .val (.long q2), .second, .val (.long mc), .second, .val (.int mI)] [(.int mI), (.ref A)]))
      refine OwnR.of (fun _ hr => XS.iconst X4.here hx rfl (hb hby d7_37) hr) ?_
      show OwnR _ _ _ _ _ _ _ (T4.setTop (mkF m 38 #[.val (.ref a1), .val (.long q2), .second, .val (.long mc), .second, .val (.int mI)] [(.int (2 : Int32)), (.int mI), (.ref A)]))
      obtain ⟨T5, X5, e5, st5⟩ := getS2 X4 hx hZ hown (host := "") (Or.inl (hw _ (List.mem_of_getElem? (i := 59) rfl))) Via.refl e4 S_HALF (g := (mkF m 38 #[.val (.ref a1), .val (.long q2), .second, .val (.long mc), .second, .val (.int mI)] [(.int (2 : Int32)), (.int mI), (.ref A)])) rfl (hb hby d7_38)
      refine OwnR.of (st5) ?_
      show OwnR _ _ _ _ _ _ _ (T5.setTop (mkF m 41 #[.val (.ref a1), .val (.long q2), .second, .val (.long mc), .second, .val (.int mI)] [(.int (32768 : Int32)), (.int (2 : Int32)), (.int mI), (.ref A)]))
      refine OwnR.of (fun _ hr => XS.imul X5.here hx rfl (hb hby d7_41) rfl hr) ?_
      show OwnR _ _ _ _ _ _ _ (T5.setTop (mkF m 42 #[.val (.ref a1), .val (.long q2), .second, .val (.long mc), .second, .val (.int mI)] [(.int ((2 : Int32) * (32768 : Int32))), (.int mI), (.ref A)]))
      rw [(by decide : ((2 : Int32) * (32768 : Int32)) = (65536 : Int32))]
      show OwnR _ _ _ _ _ _ _ (T5.setTop (mkF m 42 #[.val (.ref a1), .val (.long q2), .second, .val (.long mc), .second, .val (.int mI)] [(.int (65536 : Int32)), (.int mI), (.ref A)]))
      refine OwnR.of (fun _ hr => XS.goto X5.here hx rfl (pc0 := 42) (pc' := 48) rfl (hb hby d7_42) (by decide) (by decide) hr) ?_
      show OwnR _ _ _ _ _ _ _ (T5.setTop (mkF m 48 #[.val (.ref a1), .val (.long q2), .second, .val (.long mc), .second, .val (.int mI)] [(.int (65536 : Int32)), (.int mI), (.ref A)]))
      obtain ⟨T6, h6, k6, X6, e6, E6, A6, AE6, st6⟩ := newPE X5 hx hZ (hw _ (List.mem_of_getElem? (i := 61) rfl)) e5 (g := (mkF m 48 #[.val (.ref a1), .val (.long q2), .second, .val (.long mc), .second, .val (.int mI)] [(.int (65536 : Int32)), (.int mI), (.ref A)])) rfl (hb hby d7_48) rfl (by decide) (cap := 65536) (by decide) (by decide) (by decide) (by decide) (ad := "[J") rfl
      obtain ⟨b6, g6⟩ : ∃ z, z = h0.size := ⟨_, rfl⟩
      rw [← g6] at A6 AE6 st6
      refine OwnR.of (st6) ?_
      have gn_b6 : n0 ≤ b6 := Nat.le_trans (Nat.le_trans Z0 (Keep.refl h0 []).1) (Nat.le_of_eq g6.symm)
      have sz_b6 : h0.size ≤ b6 := Nat.le_trans (Keep.refl h0 []).1 (Nat.le_of_eq g6.symm)
      have K6 : h0.size ≤ h6.size ∧ True := ⟨Nat.le_trans (Keep.refl h0 []).1 E6.1, trivial⟩
      have V6 : Arv Z h6 b6 k6 .long (65536 : Int32) [] (.long (0 : Int64)) := Arv.new A6 (by decide)
      show OwnR _ _ _ _ _ _ _ (T6.setTop (mkF m 50 #[.val (.ref a1), .val (.long q2), .second, .val (.long mc), .second, .val (.int mI)] [(.ref b6), (.int mI), (.ref A)]))
      have FB : OwnF Z h6 b6 k6 .long (own_len mn) (fun _ => .long 0) := OwnF.new A6 (by rw [hlen]; rfl)
      obtain ⟨T7, h7, X7, e7, W7, st7⟩ := own_aastore rfl X6 hx hZ e6 (Hi.1.ext E6) hmn hm0 hm49 Ov (Ins.self AE6) (g := (mkF m 50 #[.val (.ref a1), .val (.long q2), .second, .val (.long mc), .second, .val (.int mI)] [(.ref b6), (.int mI), (.ref A)])) rfl rfl (hb hby d7_50)
      refine OwnR.of (st7) ?_
      have hbA : b6 ≠ A := Ne.symm (Nat.ne_of_lt (Nat.lt_of_lt_of_le Hi.1.lt sz_b6))
      have hba : b6 ≠ a1 := (Ne.symm (Nat.ne_of_lt (Nat.lt_of_lt_of_le E_a1.lt (Nat.le_of_eq g6.symm))))
      have hNb : N ≤ b6 := Nat.le_trans hNs sz_b6
      have Hi2 := OwnHi.made Hi hm49 hz E6 FB hNb hbA hba sz_b6 W7
      have hB2 : (fun i => if i = mn then Value.ref b6 else B i) mn = .ref b6 := if_pos rfl
      have K7 : h0.size ≤ h7.size ∧ True := ⟨Nat.le_trans K6.1 (Nat.le_of_eq (Wr.size W7).symm), trivial⟩
      have N7 := Fr.snoc X7 N2 g_A
      show OwnR _ _ _ _ _ _ _ (T7.setTop (mkF m 51 #[.val (.ref a1), .val (.long q2), .second, .val (.long mc), .second, .val (.int mI)] []))
      refine OwnR.of (fun _ hr => XS.aloadN X7.here hx rfl (hb hby d7_51) rfl rfl hr) ?_
      show OwnR _ _ _ _ _ _ _ (T7.setTop (mkF m 52 #[.val (.ref a1), .val (.long q2), .second, .val (.long mc), .second, .val (.int mI)] [(.ref a1)]))
      obtain ⟨T8, X8, e8, st8⟩ := getF X7 hx hZ hown (host := "") (Or.inl (hw _ (List.mem_of_getElem? (i := 27) rfl))) Via.refl e7 (Fld.other W7 (Fld.ext E6 F_counts_a1) (Or.inl ne_1A)) (g := (mkF m 52 #[.val (.ref a1), .val (.long q2), .second, .val (.long mc), .second, .val (.int mI)] [(.ref a1)])) rfl rfl (hb hby d7_52)
      refine OwnR.of (st8) ?_
      show OwnR _ _ _ _ _ _ _ (T8.setTop (mkF m 55 #[.val (.ref a1), .val (.long q2), .second, .val (.long mc), .second, .val (.int mI)] [(.ref A)]))
      refine OwnR.of (fun _ hr => XS.iload X8.here hx rfl (hb hby d7_55) rfl hr) ?_
      show OwnR _ _ _ _ _ _ _ (T8.setTop (mkF m 57 #[.val (.ref a1), .val (.long q2), .second, .val (.long mc), .second, .val (.int mI)] [(.int mI), (.ref A)]))
      refine OwnR.of (own_aaload rfl X8 hx hZ e8 Hi2.1 hmn hm0 hm49 (v := .ref b6) hB2 (g := (mkF m 57 #[.val (.ref a1), .val (.long q2), .second, .val (.long mc), .second, .val (.int mI)] [(.int mI), (.ref A)])) rfl rfl (hb hby d7_57)) ?_
      show OwnR _ _ _ _ _ _ _ (T8.setTop (mkF m 58 #[.val (.ref a1), .val (.long q2), .second, .val (.long mc), .second, .val (.int mI)] [(.ref b6)]))
      refine OwnR.of (fun _ hr => XS.lloadN X8.here hx rfl (hb hby d7_58) rfl hr) ?_
      show OwnR _ _ _ _ _ _ _ (T8.setTop (mkF m 59 #[.val (.ref a1), .val (.long q2), .second, .val (.long mc), .second, .val (.int mI)] [(.long mc), (.ref b6)]))
      refine OwnR.of (fun _ hr => XS.iload X8.here hx rfl (hb hby d7_59) rfl hr) ?_
      show OwnR _ _ _ _ _ _ _ (T8.setTop (mkF m 61 #[.val (.ref a1), .val (.long q2), .second, .val (.long mc), .second, .val (.int mI)] [(.int mI), (.long mc), (.ref b6)]))
      obtain ⟨_, _, ⟨T9, L9, kc9, ns9⟩, -, X9, ⟨Lc9, hQ9, l9, y9, z9⟩, st9⟩ := Jvm.LawKit.callS X8 hx (y := (⟨"com/example/kurir/kurir/bench/Latencies", "index", "(JI)I"⟩ : MethodName)) hown (mvT hZ (hw _ (List.mem_of_getElem? (i := 63) rfl))) (mvT hZ (hw _ (List.mem_of_getElem? (i := 64) rfl))) (mvT hZ (hw _ (List.mem_of_getElem? (i := 16) rfl))) (mvT hZ (hw _ (List.mem_of_getElem? (i := 65) rfl))) (by decide) (backOf (W := 1) (rmIdx l Z a0 hw [] mc mI h7 n0 (Nat.le_trans Z0 K7.1) ((S_EB.ext E6).wr W7) ((S_HALF.ext E6).wr W7)) hZ (hw _ (List.mem_of_getElem? (i := 65) rfl)) (hw _ (List.mem_of_getElem? (i := 16) rfl)) (by decide) (by decide)) (g := (mkF m 61 #[.val (.ref a1), .val (.long q2), .second, .val (.long mc), .second, .val (.int mI)] [(.int mI), (.long mc), (.ref b6)])) rfl (by rw [hml]; rfl) (argsL := [(.long mc), (.int mI)]) (rest := [(.ref b6)]) (lenOf pd__JI_I rfl) rfl (by show 2 * 0 + _ ≤ _; exact Nat.le_of_eq rfl) (hb hby d7_61) (fun _ _ => ⟨rfl, e8, (by decide : 1 + 0 ≤ _), (by decide : 65536 + 0 ≤ _)⟩)
      dsimp only [Pt.U, Pt.locs, Pt.cells, Pt.slots] at X9 l9 y9 z9 st9 hQ9
      rw [l9, y9, z9] at X9
      obtain ⟨rfl, N9q, e9⟩ := hQ9
      have N9 := Fr.app N7 N9q
      refine OwnR.of (st9) ?_
      show OwnR _ _ _ _ _ _ _ (T9.setTop (mkF m 64 #[.val (.ref a1), .val (.long q2), .second, .val (.long mc), .second, .val (.int mI)] [(.int (own_idx mc mI)), (.ref b6)]))
      rw [hi]
      show OwnR _ _ _ _ _ _ _ (T9.setTop (mkF m 64 #[.val (.ref a1), .val (.long q2), .second, .val (.long mc), .second, .val (.int mI)] [(.int iI), (.ref b6)]))
      refine OwnR.of (fun _ hr => XT.dup2 X9.here hx rfl (hb hby d7_64) rfl rfl rfl hr) ?_
      show OwnR _ _ _ _ _ _ _ (T9.setTop (mkF m 65 #[.val (.ref a1), .val (.long q2), .second, .val (.long mc), .second, .val (.int mI)] [(.int iI), (.ref b6), (.int iI), (.ref b6)]))
      obtain ⟨kc, FC, hNb2, -, -⟩ := OwnHi.at Hi2 hm49 hB2
      refine OwnR.of (own_laload X9 hx hZ e9 FC hjn hi0 hil (v := .long (own_g ks mn jn)) rfl (g := (mkF m 65 #[.val (.ref a1), .val (.long q2), .second, .val (.long mc), .second, .val (.int mI)] [(.int iI), (.ref b6), (.int iI), (.ref b6)])) rfl rfl (hb hby d7_65)) ?_
      show OwnR _ _ _ _ _ _ _ (T9.setTop (mkF m 66 #[.val (.ref a1), .val (.long q2), .second, .val (.long mc), .second, .val (.int mI)] [(.long (own_g ks mn jn)), (.int iI), (.ref b6)]))
      refine OwnR.of (fun _ hr => XS.lconst X9.here hx rfl (hb hby d7_66) hr) ?_
      show OwnR _ _ _ _ _ _ _ (T9.setTop (mkF m 67 #[.val (.ref a1), .val (.long q2), .second, .val (.long mc), .second, .val (.int mI)] [(.long (1 : Int64)), (.long (own_g ks mn jn)), (.int iI), (.ref b6)]))
      refine OwnR.of (fun _ hr => XS.ladd X9.here hx rfl (hb hby d7_67) rfl hr) ?_
      show OwnR _ _ _ _ _ _ _ (T9.setTop (mkF m 68 #[.val (.ref a1), .val (.long q2), .second, .val (.long mc), .second, .val (.int mI)] [(.long ((own_g ks mn jn) + (1 : Int64))), (.int iI), (.ref b6)]))
      obtain ⟨T10, h10, X10, e10, W10, st10⟩ := own_lastore X9 hx hZ e9 FC hjn hi0 hil (g := (mkF m 68 #[.val (.ref a1), .val (.long q2), .second, .val (.long mc), .second, .val (.int mI)] [(.long ((own_g ks mn jn) + (1 : Int64))), (.int iI), (.ref b6)])) rfl rfl (hb hby d7_68)
      refine OwnR.of (st10) ?_
      have Hi3 := OwnHi.inc Hi2 hm49 hB2 hbA W10
      have K10 : h0.size ≤ h10.size ∧ True := ⟨Nat.le_trans K7.1 (Nat.le_of_eq (Wr.size W10).symm), trivial⟩
      have N10 := Fr.snoc X10 N9 (Nat.le_trans hN hNb2)
      show OwnR _ _ _ _ _ _ _ (T10.setTop (mkF m 69 #[.val (.ref a1), .val (.long q2), .second, .val (.long mc), .second, .val (.int mI)] []))
      refine OwnR.of (fun _ hr => XS.aloadN X10.here hx rfl (hb hby d7_69) rfl rfl hr) ?_
      show OwnR _ _ _ _ _ _ _ (T10.setTop (mkF m 70 #[.val (.ref a1), .val (.long q2), .second, .val (.long mc), .second, .val (.int mI)] [(.ref a1)]))
      refine OwnR.of (fun _ hr => XS.dup X10.here hx rfl (hb hby d7_70) rfl rfl hr) ?_
      show OwnR _ _ _ _ _ _ _ (T10.setTop (mkF m 71 #[.val (.ref a1), .val (.long q2), .second, .val (.long mc), .second, .val (.int mI)] [(.ref a1), (.ref a1)]))
      obtain ⟨T11, X11, e11, st11⟩ := getF X10 hx hZ hown (host := "") (Or.inl (hw _ (List.mem_of_getElem? (i := 66) rfl))) Via.refl e10 (Fld.other W10 (Fld.other W7 (Fld.ext E6 F_count_a1) (Or.inl ne_1A)) (Or.inl (Nat.ne_of_lt (Nat.lt_of_lt_of_le E_a1.lt (Nat.le_of_eq g6.symm))))) (g := (mkF m 71 #[.val (.ref a1), .val (.long q2), .second, .val (.long mc), .second, .val (.int mI)] [(.ref a1), (.ref a1)])) rfl rfl (hb hby d7_71)
      refine OwnR.of (st11) ?_
      show OwnR _ _ _ _ _ _ _ (T11.setTop (mkF m 74 #[.val (.ref a1), .val (.long q2), .second, .val (.long mc), .second, .val (.int mI)] [(.long cnt), (.ref a1)]))
      refine OwnR.of (fun _ hr => XS.lconst X11.here hx rfl (hb hby d7_74) hr) ?_
      show OwnR _ _ _ _ _ _ _ (T11.setTop (mkF m 75 #[.val (.ref a1), .val (.long q2), .second, .val (.long mc), .second, .val (.int mI)] [(.long (1 : Int64)), (.long cnt), (.ref a1)]))
      refine OwnR.of (fun _ hr => XS.ladd X11.here hx rfl (hb hby d7_75) rfl hr) ?_
      show OwnR _ _ _ _ _ _ _ (T11.setTop (mkF m 76 #[.val (.ref a1), .val (.long q2), .second, .val (.long mc), .second, .val (.int mI)] [(.long (cnt + (1 : Int64))), (.ref a1)]))
      obtain ⟨T12, h12, X12, e12, W12, st12⟩ := putF X11 hx hZ hown (host := "") (Or.inl (hw _ (List.mem_of_getElem? (i := 66) rfl))) Via.refl e11 (Fld.other W10 (Fld.other W7 (Fld.ext E6 F_count_a1) (Or.inl ne_1A)) (Or.inl (Nat.ne_of_lt (Nat.lt_of_lt_of_le E_a1.lt (Nat.le_of_eq g6.symm))))) (Exa.wr W10 (Exa.wr W7 (Exa.ext E6 E_a1))) (Or.inl (hw _ (List.mem_of_getElem? (i := 67) rfl))) (hw _ (List.mem_of_getElem? (i := 15) rfl)) (ty := .long) (by decide) rfl rfl (g := (mkF m 76 #[.val (.ref a1), .val (.long q2), .second, .val (.long mc), .second, .val (.int mI)] [(.long (cnt + (1 : Int64))), (.ref a1)])) rfl rfl (hb hby d7_76)
      refine OwnR.of (st12) ?_
      have F12 := Fld.same W12 (Fld.other W10 (Fld.other W7 (Fld.ext E6 F_count_a1) (Or.inl ne_1A)) (Or.inl (Nat.ne_of_lt (Nat.lt_of_lt_of_le E_a1.lt (Nat.le_of_eq g6.symm)))))
      have K12 : h0.size ≤ h12.size ∧ True := ⟨Nat.le_trans K10.1 (Nat.le_of_eq (Wr.size W12).symm), trivial⟩
      have N12 := Fr.snoc X12 N10 g_a1
      show OwnR _ _ _ _ _ _ _ (T12.setTop (mkF m 79 #[.val (.ref a1), .val (.long q2), .second, .val (.long mc), .second, .val (.int mI)] []))
      have Hi4 := OwnHi.wr Hi3 W12 (Ne.symm ne_1A)
      refine OwnR.of (fun _ hr => XS.aloadN X12.here hx rfl (hb hby d7_79) rfl rfl hr) ?_
      show OwnR _ _ _ _ _ _ _ (T12.setTop (mkF m 80 #[.val (.ref a1), .val (.long q2), .second, .val (.long mc), .second, .val (.int mI)] [(.ref a1)]))
      refine OwnR.of (fun _ hr => XS.aloadN X12.here hx rfl (hb hby d7_80) rfl rfl hr) ?_
      show OwnR _ _ _ _ _ _ _ (T12.setTop (mkF m 81 #[.val (.ref a1), .val (.long q2), .second, .val (.long mc), .second, .val (.int mI)] [(.ref a1), (.ref a1)]))
      obtain ⟨T13, X13, e13, st13⟩ := getF X12 hx hZ hown (host := "") (Or.inl (hw _ (List.mem_of_getElem? (i := 68) rfl))) Via.refl e12 (Fld.other W12 (Fld.other W10 (Fld.other W7 (Fld.ext E6 F_maxMicros_a1) (Or.inl ne_1A)) (Or.inl (Nat.ne_of_lt (Nat.lt_of_lt_of_le E_a1.lt (Nat.le_of_eq g6.symm))))) (Or.inr (slot_ne (Or.inl (hw _ (List.mem_of_getElem? (i := 69) rfl))) (Or.inl (hw _ (List.mem_of_getElem? (i := 67) rfl))) (by decide) (t := .long) (t' := .long) (by decide) (by decide)))) (g := (mkF m 81 #[.val (.ref a1), .val (.long q2), .second, .val (.long mc), .second, .val (.int mI)] [(.ref a1), (.ref a1)])) rfl rfl (hb hby d7_81)
      refine OwnR.of (st13) ?_
      show OwnR _ _ _ _ _ _ _ (T13.setTop (mkF m 84 #[.val (.ref a1), .val (.long q2), .second, .val (.long mc), .second, .val (.int mI)] [(.long mx), (.ref a1)]))
      refine OwnR.of (fun _ hr => XS.lloadN X13.here hx rfl (hb hby d7_84) rfl hr) ?_
      show OwnR _ _ _ _ _ _ _ (T13.setTop (mkF m 85 #[.val (.ref a1), .val (.long q2), .second, .val (.long mc), .second, .val (.int mI)] [(.long mc), (.long mx), (.ref a1)]))
      obtain ⟨_, _, ⟨T14, L14, kc14, ns14⟩, -, X14, ⟨Lc14, hQ14, l14, y14, z14⟩, st14⟩ := Jvm.LawKit.callS X13 hx (y := (⟨"java/lang/Math", "max", "(JJ)J"⟩ : MethodName)) hown (mvT hZ (hw _ (List.mem_of_getElem? (i := 39) rfl))) (mvT hZ (hw _ (List.mem_of_getElem? (i := 40) rfl))) (mvT hZ (hw _ (List.mem_of_getElem? (i := 41) rfl))) (mvT hZ (hw _ (List.mem_of_getElem? (i := 42) rfl))) (by decide) (backOf (W := 1) (rmMaxJ l Z a0 hw [] mx mc h12 n0 (Nat.le_trans Z0 K12.1) ) hZ (hw _ (List.mem_of_getElem? (i := 42) rfl)) (hw _ (List.mem_of_getElem? (i := 41) rfl)) (by decide) (by decide)) (g := (mkF m 85 #[.val (.ref a1), .val (.long q2), .second, .val (.long mc), .second, .val (.int mI)] [(.long mc), (.long mx), (.ref a1)])) rfl (by rw [hml]; rfl) (argsL := [(.long mx), (.long mc)]) (rest := [(.ref a1)]) (lenOf pd__JJ_J rfl) rfl (by show 2 * 0 + _ ≤ _; exact Nat.le_of_eq rfl) (hb hby d7_85) (fun _ _ => ⟨rfl, e13, (by decide : 1 + 0 ≤ _), (by decide : 65536 + 0 ≤ _)⟩)
      dsimp only [Pt.U, Pt.locs, Pt.cells, Pt.slots] at X14 l14 y14 z14 st14 hQ14
      rw [l14, y14, z14] at X14
      obtain ⟨rfl, N14q, e14⟩ := hQ14
      have N14 := Fr.app N12 N14q
      refine OwnR.of (st14) ?_
      show OwnR _ _ _ _ _ _ _ (T14.setTop (mkF m 88 #[.val (.ref a1), .val (.long q2), .second, .val (.long mc), .second, .val (.int mI)] [(.long (own_max mx mc)), (.ref a1)]))
      obtain ⟨T15, h15, X15, e15, W15, st15⟩ := putF X14 hx hZ hown (host := "") (Or.inl (hw _ (List.mem_of_getElem? (i := 68) rfl))) Via.refl e14 (Fld.other W12 (Fld.other W10 (Fld.other W7 (Fld.ext E6 F_maxMicros_a1) (Or.inl ne_1A)) (Or.inl (Nat.ne_of_lt (Nat.lt_of_lt_of_le E_a1.lt (Nat.le_of_eq g6.symm))))) (Or.inr (slot_ne (Or.inl (hw _ (List.mem_of_getElem? (i := 69) rfl))) (Or.inl (hw _ (List.mem_of_getElem? (i := 67) rfl))) (by decide) (t := .long) (t' := .long) (by decide) (by decide)))) (Exa.wr W12 (Exa.wr W10 (Exa.wr W7 (Exa.ext E6 E_a1)))) (Or.inl (hw _ (List.mem_of_getElem? (i := 69) rfl))) (hw _ (List.mem_of_getElem? (i := 15) rfl)) (ty := .long) (by decide) rfl rfl (g := (mkF m 88 #[.val (.ref a1), .val (.long q2), .second, .val (.long mc), .second, .val (.int mI)] [(.long (own_max mx mc)), (.ref a1)])) rfl rfl (hb hby d7_88)
      refine OwnR.of (st15) ?_
      have F15 := Fld.same W15 (Fld.other W12 (Fld.other W10 (Fld.other W7 (Fld.ext E6 F_maxMicros_a1) (Or.inl ne_1A)) (Or.inl (Nat.ne_of_lt (Nat.lt_of_lt_of_le E_a1.lt (Nat.le_of_eq g6.symm))))) (Or.inr (slot_ne (Or.inl (hw _ (List.mem_of_getElem? (i := 69) rfl))) (Or.inl (hw _ (List.mem_of_getElem? (i := 67) rfl))) (by decide) (t := .long) (t' := .long) (by decide) (by decide))))
      have K15 : h0.size ≤ h15.size ∧ True := ⟨Nat.le_trans K12.1 (Nat.le_of_eq (Wr.size W15).symm), trivial⟩
      have N15 := Fr.snoc X15 N14 g_a1
      show OwnR _ _ _ _ _ _ _ (T15.setTop (mkF m 91 #[.val (.ref a1), .val (.long q2), .second, .val (.long mc), .second, .val (.int mI)] []))
      have Hi5 := OwnHi.wr Hi4 W15 (Ne.symm ne_1A)
      refine own_leafV X15 hx hlk Bd.returns (hb hby d7_91) (by decide) (by decide) ?_
      show QAdd Z a1 A kA N B ks cnt mx mc mn jn h0 n0 _ T15.heap _
      rw [show T15.heap = h15 from e15]
      refine ⟨(fun i => if i = mn then Value.ref b6 else B i), rfl, N15, ⟨(Exa.wr W15 (Exa.wr W12 (Exa.wr W10 (Exa.wr W7 (Exa.ext E6 E_a1))))), (Fld.other W15 (Fld.other W12 (Fld.other W10 (Fld.other W7 (Fld.ext E6 F_counts_a1) (Or.inl ne_1A)) (Or.inl (Nat.ne_of_lt (Nat.lt_of_lt_of_le E_a1.lt (Nat.le_of_eq g6.symm))))) (Or.inr (slot_ne (Or.inr (hw _ (List.mem_of_getElem? (i := 28) rfl))) (Or.inl (hw _ (List.mem_of_getElem? (i := 67) rfl))) (by decide) (t := (.array (.array .long))) (t' := .long) (by decide) (by decide)))) (Or.inr (slot_ne (Or.inr (hw _ (List.mem_of_getElem? (i := 28) rfl))) (Or.inl (hw _ (List.mem_of_getElem? (i := 69) rfl))) (by decide) (t := (.array (.array .long))) (t' := .long) (by decide) (by decide)))), (Fld.other W15 F12 (Or.inr (slot_ne (Or.inl (hw _ (List.mem_of_getElem? (i := 67) rfl))) (Or.inl (hw _ (List.mem_of_getElem? (i := 69) rfl))) (by decide) (t := .long) (t' := .long) (by decide) (by decide)))), F15, Hi5, ⟨(by rw [hB2]; rfl), fun x hx' => if_neg hx'⟩, (((((S_EB.ext E6).wr W7).wr W10).wr W12).wr W15), (((((S_HALF.ext E6).wr W7).wr W10).wr W12).wr W15), K15.1⟩⟩
    · skip
      have hmn0 : ¬ mn = 0 := own_mz hmn hm0 hmz
      have hlen : own_len mn = 32768 := by simp [own_len, hmn0]
      obtain rfl : sl = 32768 := by rw [hsl, hBn]; exact hlen
      refine OwnR.of (fun _ hr => XS.lconst X0.here hx rfl (hb hby d7_0) hr) ?_
      show OwnR _ _ _ _ _ _ _ (s₁.setTop (mkF m 1 #[.val (.ref a1), .val (.long q2), .second, .unset, .unset, .unset] [(.long (0 : Int64))]))
      refine OwnR.of (fun _ hr => XS.lloadN X0.here hx rfl (hb hby d7_1) rfl hr) ?_
      show OwnR _ _ _ _ _ _ _ (s₁.setTop (mkF m 2 #[.val (.ref a1), .val (.long q2), .second, .unset, .unset, .unset] [(.long q2), (.long (0 : Int64))]))
      obtain ⟨_, _, ⟨T16, L16, kc16, ns16⟩, -, X16, ⟨Lc16, hQ16, l16, y16, z16⟩, st16⟩ := Jvm.LawKit.callS X0 hx (y := (⟨"java/lang/Math", "max", "(JJ)J"⟩ : MethodName)) hown (mvT hZ (hw _ (List.mem_of_getElem? (i := 39) rfl))) (mvT hZ (hw _ (List.mem_of_getElem? (i := 40) rfl))) (mvT hZ (hw _ (List.mem_of_getElem? (i := 41) rfl))) (mvT hZ (hw _ (List.mem_of_getElem? (i := 42) rfl))) (by decide) (backOf (W := 0) (rmMaxJ l Z a0 hw [] (0 : Int64) q2 h0 n0 (Nat.le_trans Z0 (Keep.refl h0 []).1) ) hZ (hw _ (List.mem_of_getElem? (i := 42) rfl)) (hw _ (List.mem_of_getElem? (i := 41) rfl)) (by decide) (by decide)) (g := (mkF m 2 #[.val (.ref a1), .val (.long q2), .second, .unset, .unset, .unset] [(.long q2), (.long (0 : Int64))])) rfl (by rw [hml]; rfl) (argsL := [(.long (0 : Int64)), (.long q2)]) (rest := []) (lenOf pd__JJ_J rfl) rfl (by show 2 * 0 + _ ≤ _; exact Nat.le_of_eq rfl) (hb hby d7_2) (fun _ _ => ⟨rfl, e0, (by decide : 0 + 0 ≤ _), (by decide : 0 + 0 ≤ _)⟩)
      dsimp only [Pt.U, Pt.locs, Pt.cells, Pt.slots] at X16 l16 y16 z16 st16 hQ16
      rw [l16, y16, z16] at X16
      obtain ⟨rfl, N16q, e16⟩ := hQ16
      have N16 := Fr.app N0 N16q
      refine OwnR.of (st16) ?_
      show OwnR _ _ _ _ _ _ _ (T16.setTop (mkF m 5 #[.val (.ref a1), .val (.long q2), .second, .unset, .unset, .unset] [(.long (own_max (0 : Int64) q2))]))
      refine OwnR.of (X16.ldc2Long hx hown (mvT hZ (hw _ (List.mem_of_getElem? (i := 43) rfl))) (g := (mkF m 5 #[.val (.ref a1), .val (.long q2), .second, .unset, .unset, .unset] [(.long (own_max (0 : Int64) q2))])) rfl (hb hby d7_5)) ?_
      show OwnR _ _ _ _ _ _ _ (T16.setTop (mkF m 8 #[.val (.ref a1), .val (.long q2), .second, .unset, .unset, .unset] [(.long (1000 : Int64)), (.long (own_max (0 : Int64) q2))]))
      refine OwnR.of (fun _ hr => XS.ldiv X16.here hx rfl (hb hby d7_8) rfl (by decide) hr) ?_
      show OwnR _ _ _ _ _ _ _ (T16.setTop (mkF m 9 #[.val (.ref a1), .val (.long q2), .second, .unset, .unset, .unset] [(.long ((own_max (0 : Int64) q2) / (1000 : Int64)))]))
      rw [hmc]
      show OwnR _ _ _ _ _ _ _ (T16.setTop (mkF m 9 #[.val (.ref a1), .val (.long q2), .second, .unset, .unset, .unset] [(.long mc)]))
      refine OwnR.of (fun _ hr => XS.lstoreN X16.here hx rfl (hb hby d7_9) rfl (l' := #[.val (.ref a1), .val (.long q2), .second, .val (.long mc), .second, .unset]) rfl hr) ?_
      show OwnR _ _ _ _ _ _ _ (T16.setTop (mkF m 10 #[.val (.ref a1), .val (.long q2), .second, .val (.long mc), .second, .unset] []))
      refine OwnR.of (fun _ hr => XS.lloadN X16.here hx rfl (hb hby d7_10) rfl hr) ?_
      show OwnR _ _ _ _ _ _ _ (T16.setTop (mkF m 11 #[.val (.ref a1), .val (.long q2), .second, .val (.long mc), .second, .unset] [(.long mc)]))
      obtain ⟨_, _, ⟨T17, L17, kc17, ns17⟩, -, X17, ⟨Lc17, hQ17, l17, y17, z17⟩, st17⟩ := Jvm.LawKit.callS X16 hx (y := (⟨"com/example/kurir/kurir/bench/Latencies", "magnitude", "(J)I"⟩ : MethodName)) hown (mvT hZ (hw _ (List.mem_of_getElem? (i := 44) rfl))) (mvT hZ (hw _ (List.mem_of_getElem? (i := 45) rfl))) (mvT hZ (hw _ (List.mem_of_getElem? (i := 16) rfl))) (mvT hZ (hw _ (List.mem_of_getElem? (i := 46) rfl))) (by decide) (backOf (W := 0) (rmMagn l Z a0 hw [] mc h0 n0 (Nat.le_trans Z0 (Keep.refl h0 []).1) S_EB S_HALF) hZ (hw _ (List.mem_of_getElem? (i := 46) rfl)) (hw _ (List.mem_of_getElem? (i := 16) rfl)) (by decide) (by decide)) (g := (mkF m 11 #[.val (.ref a1), .val (.long q2), .second, .val (.long mc), .second, .unset] [(.long mc)])) rfl (by rw [hml]; rfl) (argsL := [(.long mc)]) (rest := []) (lenOf pd__J_I rfl) rfl (by show 2 * 0 + _ ≤ _; exact Nat.le_of_eq rfl) (hb hby d7_11) (fun _ _ => ⟨rfl, e16, (by decide : 0 + 0 ≤ _), (by decide : 0 + 0 ≤ _)⟩)
      dsimp only [Pt.U, Pt.locs, Pt.cells, Pt.slots] at X17 l17 y17 z17 st17 hQ17
      rw [l17, y17, z17] at X17
      obtain ⟨rfl, N17q, e17⟩ := hQ17
      have N17 := Fr.app N16 N17q
      refine OwnR.of (st17) ?_
      show OwnR _ _ _ _ _ _ _ (T17.setTop (mkF m 14 #[.val (.ref a1), .val (.long q2), .second, .val (.long mc), .second, .unset] [(.int (own_magn mc))]))
      rw [hm]
      show OwnR _ _ _ _ _ _ _ (T17.setTop (mkF m 14 #[.val (.ref a1), .val (.long q2), .second, .val (.long mc), .second, .unset] [(.int mI)]))
      refine OwnR.of (fun _ hr => XS.istore X17.here hx rfl (hb hby d7_14) rfl (l' := #[.val (.ref a1), .val (.long q2), .second, .val (.long mc), .second, .val (.int mI)]) rfl hr) ?_
      show OwnR _ _ _ _ _ _ _ (T17.setTop (mkF m 16 #[.val (.ref a1), .val (.long q2), .second, .val (.long mc), .second, .val (.int mI)] []))
      refine OwnR.of (fun _ hr => XS.aloadN X17.here hx rfl (hb hby d7_16) rfl rfl hr) ?_
      show OwnR _ _ _ _ _ _ _ (T17.setTop (mkF m 17 #[.val (.ref a1), .val (.long q2), .second, .val (.long mc), .second, .val (.int mI)] [(.ref a1)]))
      obtain ⟨T18, X18, e18, st18⟩ := getF X17 hx hZ hown (host := "") (Or.inl (hw _ (List.mem_of_getElem? (i := 27) rfl))) Via.refl e17 F_counts_a1 (g := (mkF m 17 #[.val (.ref a1), .val (.long q2), .second, .val (.long mc), .second, .val (.int mI)] [(.ref a1)])) rfl rfl (hb hby d7_17)
      refine OwnR.of (st18) ?_
      show OwnR _ _ _ _ _ _ _ (T18.setTop (mkF m 20 #[.val (.ref a1), .val (.long q2), .second, .val (.long mc), .second, .val (.int mI)] [(.ref A)]))
      refine OwnR.of (fun _ hr => XS.iload X18.here hx rfl (hb hby d7_20) rfl hr) ?_
      show OwnR _ _ _ _ _ _ _ (T18.setTop (mkF m 22 #[.val (.ref a1), .val (.long q2), .second, .val (.long mc), .second, .val (.int mI)] [(.int mI), (.ref A)]))
      refine OwnR.of (own_aaload rfl X18 hx hZ e18 Hi.1 hmn hm0 hm49 (v := .null) hBn (g := (mkF m 22 #[.val (.ref a1), .val (.long q2), .second, .val (.long mc), .second, .val (.int mI)] [(.int mI), (.ref A)])) rfl rfl (hb hby d7_22)) ?_
      show OwnR _ _ _ _ _ _ _ (T18.setTop (mkF m 23 #[.val (.ref a1), .val (.long q2), .second, .val (.long mc), .second, .val (.int mI)] [.null]))
      refine OwnR.of (fun _ hr => XS.ifnonnullNo X18.here hx rfl (hb hby d7_23) rfl hr) ?_
      show OwnR _ _ _ _ _ _ _ (T18.setTop (mkF m 26 #[.val (.ref a1), .val (.long q2), .second, .val (.long mc), .second, .val (.int mI)] []))
      refine OwnR.of (fun _ hr => XS.aloadN X18.here hx rfl (hb hby d7_26) rfl rfl hr) ?_
      show OwnR _ _ _ _ _ _ _ (T18.setTop (mkF m 27 #[.val (.ref a1), .val (.long q2), .second, .val (.long mc), .second, .val (.int mI)] [(.ref a1)]))
      obtain ⟨T19, X19, e19, st19⟩ := getF X18 hx hZ hown (host := "") (Or.inl (hw _ (List.mem_of_getElem? (i := 27) rfl))) Via.refl e18 F_counts_a1 (g := (mkF m 27 #[.val (.ref a1), .val (.long q2), .second, .val (.long mc), .second, .val (.int mI)] [(.ref a1)])) rfl rfl (hb hby d7_27)
      refine OwnR.of (st19) ?_
      show OwnR _ _ _ _ _ _ _ (T19.setTop (mkF m 30 #[.val (.ref a1), .val (.long q2), .second, .val (.long mc), .second, .val (.int mI)] [(.ref A)]))
      refine OwnR.of (fun _ hr => XS.iload X19.here hx rfl (hb hby d7_30) rfl hr) ?_
      show OwnR _ _ _ _ _ _ _ (T19.setTop (mkF m 32 #[.val (.ref a1), .val (.long q2), .second, .val (.long mc), .second, .val (.int mI)] [(.int mI), (.ref A)]))
      refine OwnR.of (fun _ hr => XS.iload X19.here hx rfl (hb hby d7_32) rfl hr) ?_
      show OwnR _ _ _ _ _ _ _ (T19.setTop (mkF m 34 #[.val (.ref a1), .val (.long q2), .second, .val (.long mc), .second, .val (.int mI)] [(.int mI), (.int mI), (.ref A)]))
      refine OwnR.of (fun _ hr => XS.ifYes X19.here hx rfl (pc0 := 34) (pc' := 45) rfl (hb hby d7_34) rfl ((if0 _ _).trans (feq hmz).2) (by decide) (by decide) hr) ?_
      show OwnR _ _ _ _ _ _ _ (T19.setTop (mkF m 45 #[.val (.ref a1), .val (.long q2), .second, .val (.long mc), .second, .val (.int mI)] [(.int mI), (.ref A)]))
      obtain ⟨T20, X20, e20, st20⟩ := getS2 X19 hx hZ hown (host := "") (Or.inl (hw _ (List.mem_of_getElem? (i := 59) rfl))) Via.refl e19 S_HALF (g := (mkF m 45 #[.val (.ref a1), .val (.long q2), .second, .val (.long mc), .second, .val (.int mI)] [(.int mI), (.ref A)])) rfl (hb hby d7_45)
      refine OwnR.of (st20) ?_
      show OwnR _ _ _ _ _ _ _ (T20.setTop (mkF m 48 #[.val (.ref a1), .val (.long q2), .second, .val (.long mc), .second, .val (.int mI)] [(.int (32768 : Int32)), (.int mI), (.ref A)]))
      obtain ⟨T21, h21, k21, X21, e21, E21, A21, AE21, st21⟩ := newPE X20 hx hZ (hw _ (List.mem_of_getElem? (i := 61) rfl)) e20 (g := (mkF m 48 #[.val (.ref a1), .val (.long q2), .second, .val (.long mc), .second, .val (.int mI)] [(.int (32768 : Int32)), (.int mI), (.ref A)])) rfl (hb hby d7_48) rfl (by decide) (cap := 32768) (by decide) (by decide) (by decide) (by decide) (ad := "[J") rfl
      obtain ⟨b21, g21⟩ : ∃ z, z = h0.size := ⟨_, rfl⟩
      rw [← g21] at A21 AE21 st21
      refine OwnR.of (st21) ?_
      have gn_b21 : n0 ≤ b21 := Nat.le_trans (Nat.le_trans Z0 (Keep.refl h0 []).1) (Nat.le_of_eq g21.symm)
      have sz_b21 : h0.size ≤ b21 := Nat.le_trans (Keep.refl h0 []).1 (Nat.le_of_eq g21.symm)
      have K21 : h0.size ≤ h21.size ∧ True := ⟨Nat.le_trans (Keep.refl h0 []).1 E21.1, trivial⟩
      have V21 : Arv Z h21 b21 k21 .long (32768 : Int32) [] (.long (0 : Int64)) := Arv.new A21 (by decide)
      show OwnR _ _ _ _ _ _ _ (T21.setTop (mkF m 50 #[.val (.ref a1), .val (.long q2), .second, .val (.long mc), .second, .val (.int mI)] [(.ref b21), (.int mI), (.ref A)]))
      have FB : OwnF Z h21 b21 k21 .long (own_len mn) (fun _ => .long 0) := OwnF.new A21 (by rw [hlen]; rfl)
      obtain ⟨T22, h22, X22, e22, W22, st22⟩ := own_aastore rfl X21 hx hZ e21 (Hi.1.ext E21) hmn hm0 hm49 Ov (Ins.self AE21) (g := (mkF m 50 #[.val (.ref a1), .val (.long q2), .second, .val (.long mc), .second, .val (.int mI)] [(.ref b21), (.int mI), (.ref A)])) rfl rfl (hb hby d7_50)
      refine OwnR.of (st22) ?_
      have hbA : b21 ≠ A := Ne.symm (Nat.ne_of_lt (Nat.lt_of_lt_of_le Hi.1.lt sz_b21))
      have hba : b21 ≠ a1 := (Ne.symm (Nat.ne_of_lt (Nat.lt_of_lt_of_le E_a1.lt (Nat.le_of_eq g21.symm))))
      have hNb : N ≤ b21 := Nat.le_trans hNs sz_b21
      have Hi2 := OwnHi.made Hi hm49 hz E21 FB hNb hbA hba sz_b21 W22
      have hB2 : (fun i => if i = mn then Value.ref b21 else B i) mn = .ref b21 := if_pos rfl
      have K22 : h0.size ≤ h22.size ∧ True := ⟨Nat.le_trans K21.1 (Nat.le_of_eq (Wr.size W22).symm), trivial⟩
      have N22 := Fr.snoc X22 N17 g_A
      show OwnR _ _ _ _ _ _ _ (T22.setTop (mkF m 51 #[.val (.ref a1), .val (.long q2), .second, .val (.long mc), .second, .val (.int mI)] []))
      refine OwnR.of (fun _ hr => XS.aloadN X22.here hx rfl (hb hby d7_51) rfl rfl hr) ?_
      show OwnR _ _ _ _ _ _ _ (T22.setTop (mkF m 52 #[.val (.ref a1), .val (.long q2), .second, .val (.long mc), .second, .val (.int mI)] [(.ref a1)]))
      obtain ⟨T23, X23, e23, st23⟩ := getF X22 hx hZ hown (host := "") (Or.inl (hw _ (List.mem_of_getElem? (i := 27) rfl))) Via.refl e22 (Fld.other W22 (Fld.ext E21 F_counts_a1) (Or.inl ne_1A)) (g := (mkF m 52 #[.val (.ref a1), .val (.long q2), .second, .val (.long mc), .second, .val (.int mI)] [(.ref a1)])) rfl rfl (hb hby d7_52)
      refine OwnR.of (st23) ?_
      show OwnR _ _ _ _ _ _ _ (T23.setTop (mkF m 55 #[.val (.ref a1), .val (.long q2), .second, .val (.long mc), .second, .val (.int mI)] [(.ref A)]))
      refine OwnR.of (fun _ hr => XS.iload X23.here hx rfl (hb hby d7_55) rfl hr) ?_
      show OwnR _ _ _ _ _ _ _ (T23.setTop (mkF m 57 #[.val (.ref a1), .val (.long q2), .second, .val (.long mc), .second, .val (.int mI)] [(.int mI), (.ref A)]))
      refine OwnR.of (own_aaload rfl X23 hx hZ e23 Hi2.1 hmn hm0 hm49 (v := .ref b21) hB2 (g := (mkF m 57 #[.val (.ref a1), .val (.long q2), .second, .val (.long mc), .second, .val (.int mI)] [(.int mI), (.ref A)])) rfl rfl (hb hby d7_57)) ?_
      show OwnR _ _ _ _ _ _ _ (T23.setTop (mkF m 58 #[.val (.ref a1), .val (.long q2), .second, .val (.long mc), .second, .val (.int mI)] [(.ref b21)]))
      refine OwnR.of (fun _ hr => XS.lloadN X23.here hx rfl (hb hby d7_58) rfl hr) ?_
      show OwnR _ _ _ _ _ _ _ (T23.setTop (mkF m 59 #[.val (.ref a1), .val (.long q2), .second, .val (.long mc), .second, .val (.int mI)] [(.long mc), (.ref b21)]))
      refine OwnR.of (fun _ hr => XS.iload X23.here hx rfl (hb hby d7_59) rfl hr) ?_
      show OwnR _ _ _ _ _ _ _ (T23.setTop (mkF m 61 #[.val (.ref a1), .val (.long q2), .second, .val (.long mc), .second, .val (.int mI)] [(.int mI), (.long mc), (.ref b21)]))
      obtain ⟨_, _, ⟨T24, L24, kc24, ns24⟩, -, X24, ⟨Lc24, hQ24, l24, y24, z24⟩, st24⟩ := Jvm.LawKit.callS X23 hx (y := (⟨"com/example/kurir/kurir/bench/Latencies", "index", "(JI)I"⟩ : MethodName)) hown (mvT hZ (hw _ (List.mem_of_getElem? (i := 63) rfl))) (mvT hZ (hw _ (List.mem_of_getElem? (i := 64) rfl))) (mvT hZ (hw _ (List.mem_of_getElem? (i := 16) rfl))) (mvT hZ (hw _ (List.mem_of_getElem? (i := 65) rfl))) (by decide) (backOf (W := 1) (rmIdx l Z a0 hw [] mc mI h22 n0 (Nat.le_trans Z0 K22.1) ((S_EB.ext E21).wr W22) ((S_HALF.ext E21).wr W22)) hZ (hw _ (List.mem_of_getElem? (i := 65) rfl)) (hw _ (List.mem_of_getElem? (i := 16) rfl)) (by decide) (by decide)) (g := (mkF m 61 #[.val (.ref a1), .val (.long q2), .second, .val (.long mc), .second, .val (.int mI)] [(.int mI), (.long mc), (.ref b21)])) rfl (by rw [hml]; rfl) (argsL := [(.long mc), (.int mI)]) (rest := [(.ref b21)]) (lenOf pd__JI_I rfl) rfl (by show 2 * 0 + _ ≤ _; exact Nat.le_of_eq rfl) (hb hby d7_61) (fun _ _ => ⟨rfl, e23, (by decide : 1 + 0 ≤ _), (by decide : 32768 + 0 ≤ _)⟩)
      dsimp only [Pt.U, Pt.locs, Pt.cells, Pt.slots] at X24 l24 y24 z24 st24 hQ24
      rw [l24, y24, z24] at X24
      obtain ⟨rfl, N24q, e24⟩ := hQ24
      have N24 := Fr.app N22 N24q
      refine OwnR.of (st24) ?_
      show OwnR _ _ _ _ _ _ _ (T24.setTop (mkF m 64 #[.val (.ref a1), .val (.long q2), .second, .val (.long mc), .second, .val (.int mI)] [(.int (own_idx mc mI)), (.ref b21)]))
      rw [hi]
      show OwnR _ _ _ _ _ _ _ (T24.setTop (mkF m 64 #[.val (.ref a1), .val (.long q2), .second, .val (.long mc), .second, .val (.int mI)] [(.int iI), (.ref b21)]))
      refine OwnR.of (fun _ hr => XT.dup2 X24.here hx rfl (hb hby d7_64) rfl rfl rfl hr) ?_
      show OwnR _ _ _ _ _ _ _ (T24.setTop (mkF m 65 #[.val (.ref a1), .val (.long q2), .second, .val (.long mc), .second, .val (.int mI)] [(.int iI), (.ref b21), (.int iI), (.ref b21)]))
      obtain ⟨kc, FC, hNb2, -, -⟩ := OwnHi.at Hi2 hm49 hB2
      refine OwnR.of (own_laload X24 hx hZ e24 FC hjn hi0 hil (v := .long (own_g ks mn jn)) rfl (g := (mkF m 65 #[.val (.ref a1), .val (.long q2), .second, .val (.long mc), .second, .val (.int mI)] [(.int iI), (.ref b21), (.int iI), (.ref b21)])) rfl rfl (hb hby d7_65)) ?_
      show OwnR _ _ _ _ _ _ _ (T24.setTop (mkF m 66 #[.val (.ref a1), .val (.long q2), .second, .val (.long mc), .second, .val (.int mI)] [(.long (own_g ks mn jn)), (.int iI), (.ref b21)]))
      refine OwnR.of (fun _ hr => XS.lconst X24.here hx rfl (hb hby d7_66) hr) ?_
      show OwnR _ _ _ _ _ _ _ (T24.setTop (mkF m 67 #[.val (.ref a1), .val (.long q2), .second, .val (.long mc), .second, .val (.int mI)] [(.long (1 : Int64)), (.long (own_g ks mn jn)), (.int iI), (.ref b21)]))
      refine OwnR.of (fun _ hr => XS.ladd X24.here hx rfl (hb hby d7_67) rfl hr) ?_
      show OwnR _ _ _ _ _ _ _ (T24.setTop (mkF m 68 #[.val (.ref a1), .val (.long q2), .second, .val (.long mc), .second, .val (.int mI)] [(.long ((own_g ks mn jn) + (1 : Int64))), (.int iI), (.ref b21)]))
      obtain ⟨T25, h25, X25, e25, W25, st25⟩ := own_lastore X24 hx hZ e24 FC hjn hi0 hil (g := (mkF m 68 #[.val (.ref a1), .val (.long q2), .second, .val (.long mc), .second, .val (.int mI)] [(.long ((own_g ks mn jn) + (1 : Int64))), (.int iI), (.ref b21)])) rfl rfl (hb hby d7_68)
      refine OwnR.of (st25) ?_
      have Hi3 := OwnHi.inc Hi2 hm49 hB2 hbA W25
      have K25 : h0.size ≤ h25.size ∧ True := ⟨Nat.le_trans K22.1 (Nat.le_of_eq (Wr.size W25).symm), trivial⟩
      have N25 := Fr.snoc X25 N24 (Nat.le_trans hN hNb2)
      show OwnR _ _ _ _ _ _ _ (T25.setTop (mkF m 69 #[.val (.ref a1), .val (.long q2), .second, .val (.long mc), .second, .val (.int mI)] []))
      refine OwnR.of (fun _ hr => XS.aloadN X25.here hx rfl (hb hby d7_69) rfl rfl hr) ?_
      show OwnR _ _ _ _ _ _ _ (T25.setTop (mkF m 70 #[.val (.ref a1), .val (.long q2), .second, .val (.long mc), .second, .val (.int mI)] [(.ref a1)]))
      refine OwnR.of (fun _ hr => XS.dup X25.here hx rfl (hb hby d7_70) rfl rfl hr) ?_
      show OwnR _ _ _ _ _ _ _ (T25.setTop (mkF m 71 #[.val (.ref a1), .val (.long q2), .second, .val (.long mc), .second, .val (.int mI)] [(.ref a1), (.ref a1)]))
      obtain ⟨T26, X26, e26, st26⟩ := getF X25 hx hZ hown (host := "") (Or.inl (hw _ (List.mem_of_getElem? (i := 66) rfl))) Via.refl e25 (Fld.other W25 (Fld.other W22 (Fld.ext E21 F_count_a1) (Or.inl ne_1A)) (Or.inl (Nat.ne_of_lt (Nat.lt_of_lt_of_le E_a1.lt (Nat.le_of_eq g21.symm))))) (g := (mkF m 71 #[.val (.ref a1), .val (.long q2), .second, .val (.long mc), .second, .val (.int mI)] [(.ref a1), (.ref a1)])) rfl rfl (hb hby d7_71)
      refine OwnR.of (st26) ?_
      show OwnR _ _ _ _ _ _ _ (T26.setTop (mkF m 74 #[.val (.ref a1), .val (.long q2), .second, .val (.long mc), .second, .val (.int mI)] [(.long cnt), (.ref a1)]))
      refine OwnR.of (fun _ hr => XS.lconst X26.here hx rfl (hb hby d7_74) hr) ?_
      show OwnR _ _ _ _ _ _ _ (T26.setTop (mkF m 75 #[.val (.ref a1), .val (.long q2), .second, .val (.long mc), .second, .val (.int mI)] [(.long (1 : Int64)), (.long cnt), (.ref a1)]))
      refine OwnR.of (fun _ hr => XS.ladd X26.here hx rfl (hb hby d7_75) rfl hr) ?_
      show OwnR _ _ _ _ _ _ _ (T26.setTop (mkF m 76 #[.val (.ref a1), .val (.long q2), .second, .val (.long mc), .second, .val (.int mI)] [(.long (cnt + (1 : Int64))), (.ref a1)]))
      obtain ⟨T27, h27, X27, e27, W27, st27⟩ := putF X26 hx hZ hown (host := "") (Or.inl (hw _ (List.mem_of_getElem? (i := 66) rfl))) Via.refl e26 (Fld.other W25 (Fld.other W22 (Fld.ext E21 F_count_a1) (Or.inl ne_1A)) (Or.inl (Nat.ne_of_lt (Nat.lt_of_lt_of_le E_a1.lt (Nat.le_of_eq g21.symm))))) (Exa.wr W25 (Exa.wr W22 (Exa.ext E21 E_a1))) (Or.inl (hw _ (List.mem_of_getElem? (i := 67) rfl))) (hw _ (List.mem_of_getElem? (i := 15) rfl)) (ty := .long) (by decide) rfl rfl (g := (mkF m 76 #[.val (.ref a1), .val (.long q2), .second, .val (.long mc), .second, .val (.int mI)] [(.long (cnt + (1 : Int64))), (.ref a1)])) rfl rfl (hb hby d7_76)
      refine OwnR.of (st27) ?_
      have F27 := Fld.same W27 (Fld.other W25 (Fld.other W22 (Fld.ext E21 F_count_a1) (Or.inl ne_1A)) (Or.inl (Nat.ne_of_lt (Nat.lt_of_lt_of_le E_a1.lt (Nat.le_of_eq g21.symm)))))
      have K27 : h0.size ≤ h27.size ∧ True := ⟨Nat.le_trans K25.1 (Nat.le_of_eq (Wr.size W27).symm), trivial⟩
      have N27 := Fr.snoc X27 N25 g_a1
      show OwnR _ _ _ _ _ _ _ (T27.setTop (mkF m 79 #[.val (.ref a1), .val (.long q2), .second, .val (.long mc), .second, .val (.int mI)] []))
      have Hi4 := OwnHi.wr Hi3 W27 (Ne.symm ne_1A)
      refine OwnR.of (fun _ hr => XS.aloadN X27.here hx rfl (hb hby d7_79) rfl rfl hr) ?_
      show OwnR _ _ _ _ _ _ _ (T27.setTop (mkF m 80 #[.val (.ref a1), .val (.long q2), .second, .val (.long mc), .second, .val (.int mI)] [(.ref a1)]))
      refine OwnR.of (fun _ hr => XS.aloadN X27.here hx rfl (hb hby d7_80) rfl rfl hr) ?_
      show OwnR _ _ _ _ _ _ _ (T27.setTop (mkF m 81 #[.val (.ref a1), .val (.long q2), .second, .val (.long mc), .second, .val (.int mI)] [(.ref a1), (.ref a1)]))
      obtain ⟨T28, X28, e28, st28⟩ := getF X27 hx hZ hown (host := "") (Or.inl (hw _ (List.mem_of_getElem? (i := 68) rfl))) Via.refl e27 (Fld.other W27 (Fld.other W25 (Fld.other W22 (Fld.ext E21 F_maxMicros_a1) (Or.inl ne_1A)) (Or.inl (Nat.ne_of_lt (Nat.lt_of_lt_of_le E_a1.lt (Nat.le_of_eq g21.symm))))) (Or.inr (slot_ne (Or.inl (hw _ (List.mem_of_getElem? (i := 69) rfl))) (Or.inl (hw _ (List.mem_of_getElem? (i := 67) rfl))) (by decide) (t := .long) (t' := .long) (by decide) (by decide)))) (g := (mkF m 81 #[.val (.ref a1), .val (.long q2), .second, .val (.long mc), .second, .val (.int mI)] [(.ref a1), (.ref a1)])) rfl rfl (hb hby d7_81)
      refine OwnR.of (st28) ?_
      show OwnR _ _ _ _ _ _ _ (T28.setTop (mkF m 84 #[.val (.ref a1), .val (.long q2), .second, .val (.long mc), .second, .val (.int mI)] [(.long mx), (.ref a1)]))
      refine OwnR.of (fun _ hr => XS.lloadN X28.here hx rfl (hb hby d7_84) rfl hr) ?_
      show OwnR _ _ _ _ _ _ _ (T28.setTop (mkF m 85 #[.val (.ref a1), .val (.long q2), .second, .val (.long mc), .second, .val (.int mI)] [(.long mc), (.long mx), (.ref a1)]))
      obtain ⟨_, _, ⟨T29, L29, kc29, ns29⟩, -, X29, ⟨Lc29, hQ29, l29, y29, z29⟩, st29⟩ := Jvm.LawKit.callS X28 hx (y := (⟨"java/lang/Math", "max", "(JJ)J"⟩ : MethodName)) hown (mvT hZ (hw _ (List.mem_of_getElem? (i := 39) rfl))) (mvT hZ (hw _ (List.mem_of_getElem? (i := 40) rfl))) (mvT hZ (hw _ (List.mem_of_getElem? (i := 41) rfl))) (mvT hZ (hw _ (List.mem_of_getElem? (i := 42) rfl))) (by decide) (backOf (W := 1) (rmMaxJ l Z a0 hw [] mx mc h27 n0 (Nat.le_trans Z0 K27.1) ) hZ (hw _ (List.mem_of_getElem? (i := 42) rfl)) (hw _ (List.mem_of_getElem? (i := 41) rfl)) (by decide) (by decide)) (g := (mkF m 85 #[.val (.ref a1), .val (.long q2), .second, .val (.long mc), .second, .val (.int mI)] [(.long mc), (.long mx), (.ref a1)])) rfl (by rw [hml]; rfl) (argsL := [(.long mx), (.long mc)]) (rest := [(.ref a1)]) (lenOf pd__JJ_J rfl) rfl (by show 2 * 0 + _ ≤ _; exact Nat.le_of_eq rfl) (hb hby d7_85) (fun _ _ => ⟨rfl, e28, (by decide : 1 + 0 ≤ _), (by decide : 32768 + 0 ≤ _)⟩)
      dsimp only [Pt.U, Pt.locs, Pt.cells, Pt.slots] at X29 l29 y29 z29 st29 hQ29
      rw [l29, y29, z29] at X29
      obtain ⟨rfl, N29q, e29⟩ := hQ29
      have N29 := Fr.app N27 N29q
      refine OwnR.of (st29) ?_
      show OwnR _ _ _ _ _ _ _ (T29.setTop (mkF m 88 #[.val (.ref a1), .val (.long q2), .second, .val (.long mc), .second, .val (.int mI)] [(.long (own_max mx mc)), (.ref a1)]))
      obtain ⟨T30, h30, X30, e30, W30, st30⟩ := putF X29 hx hZ hown (host := "") (Or.inl (hw _ (List.mem_of_getElem? (i := 68) rfl))) Via.refl e29 (Fld.other W27 (Fld.other W25 (Fld.other W22 (Fld.ext E21 F_maxMicros_a1) (Or.inl ne_1A)) (Or.inl (Nat.ne_of_lt (Nat.lt_of_lt_of_le E_a1.lt (Nat.le_of_eq g21.symm))))) (Or.inr (slot_ne (Or.inl (hw _ (List.mem_of_getElem? (i := 69) rfl))) (Or.inl (hw _ (List.mem_of_getElem? (i := 67) rfl))) (by decide) (t := .long) (t' := .long) (by decide) (by decide)))) (Exa.wr W27 (Exa.wr W25 (Exa.wr W22 (Exa.ext E21 E_a1)))) (Or.inl (hw _ (List.mem_of_getElem? (i := 69) rfl))) (hw _ (List.mem_of_getElem? (i := 15) rfl)) (ty := .long) (by decide) rfl rfl (g := (mkF m 88 #[.val (.ref a1), .val (.long q2), .second, .val (.long mc), .second, .val (.int mI)] [(.long (own_max mx mc)), (.ref a1)])) rfl rfl (hb hby d7_88)
      refine OwnR.of (st30) ?_
      have F30 := Fld.same W30 (Fld.other W27 (Fld.other W25 (Fld.other W22 (Fld.ext E21 F_maxMicros_a1) (Or.inl ne_1A)) (Or.inl (Nat.ne_of_lt (Nat.lt_of_lt_of_le E_a1.lt (Nat.le_of_eq g21.symm))))) (Or.inr (slot_ne (Or.inl (hw _ (List.mem_of_getElem? (i := 69) rfl))) (Or.inl (hw _ (List.mem_of_getElem? (i := 67) rfl))) (by decide) (t := .long) (t' := .long) (by decide) (by decide))))
      have K30 : h0.size ≤ h30.size ∧ True := ⟨Nat.le_trans K27.1 (Nat.le_of_eq (Wr.size W30).symm), trivial⟩
      have N30 := Fr.snoc X30 N29 g_a1
      show OwnR _ _ _ _ _ _ _ (T30.setTop (mkF m 91 #[.val (.ref a1), .val (.long q2), .second, .val (.long mc), .second, .val (.int mI)] []))
      have Hi5 := OwnHi.wr Hi4 W30 (Ne.symm ne_1A)
      refine own_leafV X30 hx hlk Bd.returns (hb hby d7_91) (by decide) (by decide) ?_
      show QAdd Z a1 A kA N B ks cnt mx mc mn jn h0 n0 _ T30.heap _
      rw [show T30.heap = h30 from e30]
      refine ⟨(fun i => if i = mn then Value.ref b21 else B i), rfl, N30, ⟨(Exa.wr W30 (Exa.wr W27 (Exa.wr W25 (Exa.wr W22 (Exa.ext E21 E_a1))))), (Fld.other W30 (Fld.other W27 (Fld.other W25 (Fld.other W22 (Fld.ext E21 F_counts_a1) (Or.inl ne_1A)) (Or.inl (Nat.ne_of_lt (Nat.lt_of_lt_of_le E_a1.lt (Nat.le_of_eq g21.symm))))) (Or.inr (slot_ne (Or.inr (hw _ (List.mem_of_getElem? (i := 28) rfl))) (Or.inl (hw _ (List.mem_of_getElem? (i := 67) rfl))) (by decide) (t := (.array (.array .long))) (t' := .long) (by decide) (by decide)))) (Or.inr (slot_ne (Or.inr (hw _ (List.mem_of_getElem? (i := 28) rfl))) (Or.inl (hw _ (List.mem_of_getElem? (i := 69) rfl))) (by decide) (t := (.array (.array .long))) (t' := .long) (by decide) (by decide)))), (Fld.other W30 F27 (Or.inr (slot_ne (Or.inl (hw _ (List.mem_of_getElem? (i := 67) rfl))) (Or.inl (hw _ (List.mem_of_getElem? (i := 69) rfl))) (by decide) (t := .long) (t' := .long) (by decide) (by decide)))), F30, Hi5, ⟨(by rw [hB2]; rfl), fun x hx' => if_neg hx'⟩, (((((S_EB.ext E21).wr W22).wr W25).wr W27).wr W30), (((((S_HALF.ext E21).wr W22).wr W25).wr W27).wr W30), K30.1⟩⟩
  · skip
    obtain rfl : sl = 0 := by rw [hsl, hBr]; rfl
    refine OwnR.of (fun _ hr => XS.lconst X0.here hx rfl (hb hby d7_0) hr) ?_
    show OwnR _ _ _ _ _ _ _ (s₁.setTop (mkF m 1 #[.val (.ref a1), .val (.long q2), .second, .unset, .unset, .unset] [(.long (0 : Int64))]))
    refine OwnR.of (fun _ hr => XS.lloadN X0.here hx rfl (hb hby d7_1) rfl hr) ?_
    show OwnR _ _ _ _ _ _ _ (s₁.setTop (mkF m 2 #[.val (.ref a1), .val (.long q2), .second, .unset, .unset, .unset] [(.long q2), (.long (0 : Int64))]))
    obtain ⟨_, _, ⟨T31, L31, kc31, ns31⟩, -, X31, ⟨Lc31, hQ31, l31, y31, z31⟩, st31⟩ := Jvm.LawKit.callS X0 hx (y := (⟨"java/lang/Math", "max", "(JJ)J"⟩ : MethodName)) hown (mvT hZ (hw _ (List.mem_of_getElem? (i := 39) rfl))) (mvT hZ (hw _ (List.mem_of_getElem? (i := 40) rfl))) (mvT hZ (hw _ (List.mem_of_getElem? (i := 41) rfl))) (mvT hZ (hw _ (List.mem_of_getElem? (i := 42) rfl))) (by decide) (backOf (W := 0) (rmMaxJ l Z a0 hw [] (0 : Int64) q2 h0 n0 (Nat.le_trans Z0 (Keep.refl h0 []).1) ) hZ (hw _ (List.mem_of_getElem? (i := 42) rfl)) (hw _ (List.mem_of_getElem? (i := 41) rfl)) (by decide) (by decide)) (g := (mkF m 2 #[.val (.ref a1), .val (.long q2), .second, .unset, .unset, .unset] [(.long q2), (.long (0 : Int64))])) rfl (by rw [hml]; rfl) (argsL := [(.long (0 : Int64)), (.long q2)]) (rest := []) (lenOf pd__JJ_J rfl) rfl (by show 2 * 0 + _ ≤ _; exact Nat.le_of_eq rfl) (hb hby d7_2) (fun _ _ => ⟨rfl, e0, (by decide : 0 + 0 ≤ _), (by decide : 0 + 0 ≤ _)⟩)
    dsimp only [Pt.U, Pt.locs, Pt.cells, Pt.slots] at X31 l31 y31 z31 st31 hQ31
    rw [l31, y31, z31] at X31
    obtain ⟨rfl, N31q, e31⟩ := hQ31
    have N31 := Fr.app N0 N31q
    refine OwnR.of (st31) ?_
    show OwnR _ _ _ _ _ _ _ (T31.setTop (mkF m 5 #[.val (.ref a1), .val (.long q2), .second, .unset, .unset, .unset] [(.long (own_max (0 : Int64) q2))]))
    refine OwnR.of (X31.ldc2Long hx hown (mvT hZ (hw _ (List.mem_of_getElem? (i := 43) rfl))) (g := (mkF m 5 #[.val (.ref a1), .val (.long q2), .second, .unset, .unset, .unset] [(.long (own_max (0 : Int64) q2))])) rfl (hb hby d7_5)) ?_
    show OwnR _ _ _ _ _ _ _ (T31.setTop (mkF m 8 #[.val (.ref a1), .val (.long q2), .second, .unset, .unset, .unset] [(.long (1000 : Int64)), (.long (own_max (0 : Int64) q2))]))
    refine OwnR.of (fun _ hr => XS.ldiv X31.here hx rfl (hb hby d7_8) rfl (by decide) hr) ?_
    show OwnR _ _ _ _ _ _ _ (T31.setTop (mkF m 9 #[.val (.ref a1), .val (.long q2), .second, .unset, .unset, .unset] [(.long ((own_max (0 : Int64) q2) / (1000 : Int64)))]))
    rw [hmc]
    show OwnR _ _ _ _ _ _ _ (T31.setTop (mkF m 9 #[.val (.ref a1), .val (.long q2), .second, .unset, .unset, .unset] [(.long mc)]))
    refine OwnR.of (fun _ hr => XS.lstoreN X31.here hx rfl (hb hby d7_9) rfl (l' := #[.val (.ref a1), .val (.long q2), .second, .val (.long mc), .second, .unset]) rfl hr) ?_
    show OwnR _ _ _ _ _ _ _ (T31.setTop (mkF m 10 #[.val (.ref a1), .val (.long q2), .second, .val (.long mc), .second, .unset] []))
    refine OwnR.of (fun _ hr => XS.lloadN X31.here hx rfl (hb hby d7_10) rfl hr) ?_
    show OwnR _ _ _ _ _ _ _ (T31.setTop (mkF m 11 #[.val (.ref a1), .val (.long q2), .second, .val (.long mc), .second, .unset] [(.long mc)]))
    obtain ⟨_, _, ⟨T32, L32, kc32, ns32⟩, -, X32, ⟨Lc32, hQ32, l32, y32, z32⟩, st32⟩ := Jvm.LawKit.callS X31 hx (y := (⟨"com/example/kurir/kurir/bench/Latencies", "magnitude", "(J)I"⟩ : MethodName)) hown (mvT hZ (hw _ (List.mem_of_getElem? (i := 44) rfl))) (mvT hZ (hw _ (List.mem_of_getElem? (i := 45) rfl))) (mvT hZ (hw _ (List.mem_of_getElem? (i := 16) rfl))) (mvT hZ (hw _ (List.mem_of_getElem? (i := 46) rfl))) (by decide) (backOf (W := 0) (rmMagn l Z a0 hw [] mc h0 n0 (Nat.le_trans Z0 (Keep.refl h0 []).1) S_EB S_HALF) hZ (hw _ (List.mem_of_getElem? (i := 46) rfl)) (hw _ (List.mem_of_getElem? (i := 16) rfl)) (by decide) (by decide)) (g := (mkF m 11 #[.val (.ref a1), .val (.long q2), .second, .val (.long mc), .second, .unset] [(.long mc)])) rfl (by rw [hml]; rfl) (argsL := [(.long mc)]) (rest := []) (lenOf pd__J_I rfl) rfl (by show 2 * 0 + _ ≤ _; exact Nat.le_of_eq rfl) (hb hby d7_11) (fun _ _ => ⟨rfl, e31, (by decide : 0 + 0 ≤ _), (by decide : 0 + 0 ≤ _)⟩)
    dsimp only [Pt.U, Pt.locs, Pt.cells, Pt.slots] at X32 l32 y32 z32 st32 hQ32
    rw [l32, y32, z32] at X32
    obtain ⟨rfl, N32q, e32⟩ := hQ32
    have N32 := Fr.app N31 N32q
    refine OwnR.of (st32) ?_
    show OwnR _ _ _ _ _ _ _ (T32.setTop (mkF m 14 #[.val (.ref a1), .val (.long q2), .second, .val (.long mc), .second, .unset] [(.int (own_magn mc))]))
    rw [hm]
    show OwnR _ _ _ _ _ _ _ (T32.setTop (mkF m 14 #[.val (.ref a1), .val (.long q2), .second, .val (.long mc), .second, .unset] [(.int mI)]))
    refine OwnR.of (fun _ hr => XS.istore X32.here hx rfl (hb hby d7_14) rfl (l' := #[.val (.ref a1), .val (.long q2), .second, .val (.long mc), .second, .val (.int mI)]) rfl hr) ?_
    show OwnR _ _ _ _ _ _ _ (T32.setTop (mkF m 16 #[.val (.ref a1), .val (.long q2), .second, .val (.long mc), .second, .val (.int mI)] []))
    refine OwnR.of (fun _ hr => XS.aloadN X32.here hx rfl (hb hby d7_16) rfl rfl hr) ?_
    show OwnR _ _ _ _ _ _ _ (T32.setTop (mkF m 17 #[.val (.ref a1), .val (.long q2), .second, .val (.long mc), .second, .val (.int mI)] [(.ref a1)]))
    obtain ⟨T33, X33, e33, st33⟩ := getF X32 hx hZ hown (host := "") (Or.inl (hw _ (List.mem_of_getElem? (i := 27) rfl))) Via.refl e32 F_counts_a1 (g := (mkF m 17 #[.val (.ref a1), .val (.long q2), .second, .val (.long mc), .second, .val (.int mI)] [(.ref a1)])) rfl rfl (hb hby d7_17)
    refine OwnR.of (st33) ?_
    show OwnR _ _ _ _ _ _ _ (T33.setTop (mkF m 20 #[.val (.ref a1), .val (.long q2), .second, .val (.long mc), .second, .val (.int mI)] [(.ref A)]))
    refine OwnR.of (fun _ hr => XS.iload X33.here hx rfl (hb hby d7_20) rfl hr) ?_
    show OwnR _ _ _ _ _ _ _ (T33.setTop (mkF m 22 #[.val (.ref a1), .val (.long q2), .second, .val (.long mc), .second, .val (.int mI)] [(.int mI), (.ref A)]))
    refine OwnR.of (own_aaload rfl X33 hx hZ e33 Hi.1 hmn hm0 hm49 (v := .ref b) hBr (g := (mkF m 22 #[.val (.ref a1), .val (.long q2), .second, .val (.long mc), .second, .val (.int mI)] [(.int mI), (.ref A)])) rfl rfl (hb hby d7_22)) ?_
    show OwnR _ _ _ _ _ _ _ (T33.setTop (mkF m 23 #[.val (.ref a1), .val (.long q2), .second, .val (.long mc), .second, .val (.int mI)] [(.ref b)]))
    refine OwnR.of (fun _ hr => XS.ifnonnullYes X33.here hx rfl (pc0 := 23) (pc' := 51) rfl (hb hby d7_23) rfl (by decide) (by decide) hr) ?_
    show OwnR _ _ _ _ _ _ _ (T33.setTop (mkF m 51 #[.val (.ref a1), .val (.long q2), .second, .val (.long mc), .second, .val (.int mI)] []))
    refine OwnR.of (fun _ hr => XS.aloadN X33.here hx rfl (hb hby d7_51) rfl rfl hr) ?_
    show OwnR _ _ _ _ _ _ _ (T33.setTop (mkF m 52 #[.val (.ref a1), .val (.long q2), .second, .val (.long mc), .second, .val (.int mI)] [(.ref a1)]))
    obtain ⟨T34, X34, e34, st34⟩ := getF X33 hx hZ hown (host := "") (Or.inl (hw _ (List.mem_of_getElem? (i := 27) rfl))) Via.refl e33 F_counts_a1 (g := (mkF m 52 #[.val (.ref a1), .val (.long q2), .second, .val (.long mc), .second, .val (.int mI)] [(.ref a1)])) rfl rfl (hb hby d7_52)
    refine OwnR.of (st34) ?_
    show OwnR _ _ _ _ _ _ _ (T34.setTop (mkF m 55 #[.val (.ref a1), .val (.long q2), .second, .val (.long mc), .second, .val (.int mI)] [(.ref A)]))
    refine OwnR.of (fun _ hr => XS.iload X34.here hx rfl (hb hby d7_55) rfl hr) ?_
    show OwnR _ _ _ _ _ _ _ (T34.setTop (mkF m 57 #[.val (.ref a1), .val (.long q2), .second, .val (.long mc), .second, .val (.int mI)] [(.int mI), (.ref A)]))
    refine OwnR.of (own_aaload rfl X34 hx hZ e34 Hi.1 hmn hm0 hm49 (v := .ref b) hBr (g := (mkF m 57 #[.val (.ref a1), .val (.long q2), .second, .val (.long mc), .second, .val (.int mI)] [(.int mI), (.ref A)])) rfl rfl (hb hby d7_57)) ?_
    show OwnR _ _ _ _ _ _ _ (T34.setTop (mkF m 58 #[.val (.ref a1), .val (.long q2), .second, .val (.long mc), .second, .val (.int mI)] [(.ref b)]))
    refine OwnR.of (fun _ hr => XS.lloadN X34.here hx rfl (hb hby d7_58) rfl hr) ?_
    show OwnR _ _ _ _ _ _ _ (T34.setTop (mkF m 59 #[.val (.ref a1), .val (.long q2), .second, .val (.long mc), .second, .val (.int mI)] [(.long mc), (.ref b)]))
    refine OwnR.of (fun _ hr => XS.iload X34.here hx rfl (hb hby d7_59) rfl hr) ?_
    show OwnR _ _ _ _ _ _ _ (T34.setTop (mkF m 61 #[.val (.ref a1), .val (.long q2), .second, .val (.long mc), .second, .val (.int mI)] [(.int mI), (.long mc), (.ref b)]))
    obtain ⟨_, _, ⟨T35, L35, kc35, ns35⟩, -, X35, ⟨Lc35, hQ35, l35, y35, z35⟩, st35⟩ := Jvm.LawKit.callS X34 hx (y := (⟨"com/example/kurir/kurir/bench/Latencies", "index", "(JI)I"⟩ : MethodName)) hown (mvT hZ (hw _ (List.mem_of_getElem? (i := 63) rfl))) (mvT hZ (hw _ (List.mem_of_getElem? (i := 64) rfl))) (mvT hZ (hw _ (List.mem_of_getElem? (i := 16) rfl))) (mvT hZ (hw _ (List.mem_of_getElem? (i := 65) rfl))) (by decide) (backOf (W := 1) (rmIdx l Z a0 hw [] mc mI h0 n0 (Nat.le_trans Z0 (Keep.refl h0 []).1) S_EB S_HALF) hZ (hw _ (List.mem_of_getElem? (i := 65) rfl)) (hw _ (List.mem_of_getElem? (i := 16) rfl)) (by decide) (by decide)) (g := (mkF m 61 #[.val (.ref a1), .val (.long q2), .second, .val (.long mc), .second, .val (.int mI)] [(.int mI), (.long mc), (.ref b)])) rfl (by rw [hml]; rfl) (argsL := [(.long mc), (.int mI)]) (rest := [(.ref b)]) (lenOf pd__JI_I rfl) rfl (by show 2 * 0 + _ ≤ _; exact Nat.le_of_eq rfl) (hb hby d7_61) (fun _ _ => ⟨rfl, e34, (by decide : 0 + 0 ≤ _), (by decide : 0 + 0 ≤ _)⟩)
    dsimp only [Pt.U, Pt.locs, Pt.cells, Pt.slots] at X35 l35 y35 z35 st35 hQ35
    rw [l35, y35, z35] at X35
    obtain ⟨rfl, N35q, e35⟩ := hQ35
    have N35 := Fr.app N32 N35q
    refine OwnR.of (st35) ?_
    show OwnR _ _ _ _ _ _ _ (T35.setTop (mkF m 64 #[.val (.ref a1), .val (.long q2), .second, .val (.long mc), .second, .val (.int mI)] [(.int (own_idx mc mI)), (.ref b)]))
    rw [hi]
    show OwnR _ _ _ _ _ _ _ (T35.setTop (mkF m 64 #[.val (.ref a1), .val (.long q2), .second, .val (.long mc), .second, .val (.int mI)] [(.int iI), (.ref b)]))
    refine OwnR.of (fun _ hr => XT.dup2 X35.here hx rfl (hb hby d7_64) rfl rfl rfl hr) ?_
    show OwnR _ _ _ _ _ _ _ (T35.setTop (mkF m 65 #[.val (.ref a1), .val (.long q2), .second, .val (.long mc), .second, .val (.int mI)] [(.int iI), (.ref b), (.int iI), (.ref b)]))
    obtain ⟨kc, FC, hNb2, -, -⟩ := OwnHi.at Hi hm49 hBr
    refine OwnR.of (own_laload X35 hx hZ e35 FC hjn hi0 hil (v := .long (own_g ks mn jn)) rfl (g := (mkF m 65 #[.val (.ref a1), .val (.long q2), .second, .val (.long mc), .second, .val (.int mI)] [(.int iI), (.ref b), (.int iI), (.ref b)])) rfl rfl (hb hby d7_65)) ?_
    show OwnR _ _ _ _ _ _ _ (T35.setTop (mkF m 66 #[.val (.ref a1), .val (.long q2), .second, .val (.long mc), .second, .val (.int mI)] [(.long (own_g ks mn jn)), (.int iI), (.ref b)]))
    refine OwnR.of (fun _ hr => XS.lconst X35.here hx rfl (hb hby d7_66) hr) ?_
    show OwnR _ _ _ _ _ _ _ (T35.setTop (mkF m 67 #[.val (.ref a1), .val (.long q2), .second, .val (.long mc), .second, .val (.int mI)] [(.long (1 : Int64)), (.long (own_g ks mn jn)), (.int iI), (.ref b)]))
    refine OwnR.of (fun _ hr => XS.ladd X35.here hx rfl (hb hby d7_67) rfl hr) ?_
    show OwnR _ _ _ _ _ _ _ (T35.setTop (mkF m 68 #[.val (.ref a1), .val (.long q2), .second, .val (.long mc), .second, .val (.int mI)] [(.long ((own_g ks mn jn) + (1 : Int64))), (.int iI), (.ref b)]))
    obtain ⟨T36, h36, X36, e36, W36, st36⟩ := own_lastore X35 hx hZ e35 FC hjn hi0 hil (g := (mkF m 68 #[.val (.ref a1), .val (.long q2), .second, .val (.long mc), .second, .val (.int mI)] [(.long ((own_g ks mn jn) + (1 : Int64))), (.int iI), (.ref b)])) rfl rfl (hb hby d7_68)
    refine OwnR.of (st36) ?_
    have Hi3 := OwnHi.inc Hi hm49 hBr hbA W36
    have K36 : h0.size ≤ h36.size ∧ True := ⟨Nat.le_trans (Keep.refl h0 []).1 (Nat.le_of_eq (Wr.size W36).symm), trivial⟩
    have N36 := Fr.snoc X36 N35 (Nat.le_trans hN hNb2)
    show OwnR _ _ _ _ _ _ _ (T36.setTop (mkF m 69 #[.val (.ref a1), .val (.long q2), .second, .val (.long mc), .second, .val (.int mI)] []))
    refine OwnR.of (fun _ hr => XS.aloadN X36.here hx rfl (hb hby d7_69) rfl rfl hr) ?_
    show OwnR _ _ _ _ _ _ _ (T36.setTop (mkF m 70 #[.val (.ref a1), .val (.long q2), .second, .val (.long mc), .second, .val (.int mI)] [(.ref a1)]))
    refine OwnR.of (fun _ hr => XS.dup X36.here hx rfl (hb hby d7_70) rfl rfl hr) ?_
    show OwnR _ _ _ _ _ _ _ (T36.setTop (mkF m 71 #[.val (.ref a1), .val (.long q2), .second, .val (.long mc), .second, .val (.int mI)] [(.ref a1), (.ref a1)]))
    obtain ⟨T37, X37, e37, st37⟩ := getF X36 hx hZ hown (host := "") (Or.inl (hw _ (List.mem_of_getElem? (i := 66) rfl))) Via.refl e36 (Fld.other W36 F_count_a1 (Or.inl (Ne.symm hba))) (g := (mkF m 71 #[.val (.ref a1), .val (.long q2), .second, .val (.long mc), .second, .val (.int mI)] [(.ref a1), (.ref a1)])) rfl rfl (hb hby d7_71)
    refine OwnR.of (st37) ?_
    show OwnR _ _ _ _ _ _ _ (T37.setTop (mkF m 74 #[.val (.ref a1), .val (.long q2), .second, .val (.long mc), .second, .val (.int mI)] [(.long cnt), (.ref a1)]))
    refine OwnR.of (fun _ hr => XS.lconst X37.here hx rfl (hb hby d7_74) hr) ?_
    show OwnR _ _ _ _ _ _ _ (T37.setTop (mkF m 75 #[.val (.ref a1), .val (.long q2), .second, .val (.long mc), .second, .val (.int mI)] [(.long (1 : Int64)), (.long cnt), (.ref a1)]))
    refine OwnR.of (fun _ hr => XS.ladd X37.here hx rfl (hb hby d7_75) rfl hr) ?_
    show OwnR _ _ _ _ _ _ _ (T37.setTop (mkF m 76 #[.val (.ref a1), .val (.long q2), .second, .val (.long mc), .second, .val (.int mI)] [(.long (cnt + (1 : Int64))), (.ref a1)]))
    obtain ⟨T38, h38, X38, e38, W38, st38⟩ := putF X37 hx hZ hown (host := "") (Or.inl (hw _ (List.mem_of_getElem? (i := 66) rfl))) Via.refl e37 (Fld.other W36 F_count_a1 (Or.inl (Ne.symm hba))) (Exa.wr W36 E_a1) (Or.inl (hw _ (List.mem_of_getElem? (i := 67) rfl))) (hw _ (List.mem_of_getElem? (i := 15) rfl)) (ty := .long) (by decide) rfl rfl (g := (mkF m 76 #[.val (.ref a1), .val (.long q2), .second, .val (.long mc), .second, .val (.int mI)] [(.long (cnt + (1 : Int64))), (.ref a1)])) rfl rfl (hb hby d7_76)
    refine OwnR.of (st38) ?_
    have F38 := Fld.same W38 (Fld.other W36 F_count_a1 (Or.inl (Ne.symm hba)))
    have K38 : h0.size ≤ h38.size ∧ True := ⟨Nat.le_trans K36.1 (Nat.le_of_eq (Wr.size W38).symm), trivial⟩
    have N38 := Fr.snoc X38 N36 g_a1
    show OwnR _ _ _ _ _ _ _ (T38.setTop (mkF m 79 #[.val (.ref a1), .val (.long q2), .second, .val (.long mc), .second, .val (.int mI)] []))
    have Hi4 := OwnHi.wr Hi3 W38 (Ne.symm ne_1A)
    refine OwnR.of (fun _ hr => XS.aloadN X38.here hx rfl (hb hby d7_79) rfl rfl hr) ?_
    show OwnR _ _ _ _ _ _ _ (T38.setTop (mkF m 80 #[.val (.ref a1), .val (.long q2), .second, .val (.long mc), .second, .val (.int mI)] [(.ref a1)]))
    refine OwnR.of (fun _ hr => XS.aloadN X38.here hx rfl (hb hby d7_80) rfl rfl hr) ?_
    show OwnR _ _ _ _ _ _ _ (T38.setTop (mkF m 81 #[.val (.ref a1), .val (.long q2), .second, .val (.long mc), .second, .val (.int mI)] [(.ref a1), (.ref a1)]))
    obtain ⟨T39, X39, e39, st39⟩ := getF X38 hx hZ hown (host := "") (Or.inl (hw _ (List.mem_of_getElem? (i := 68) rfl))) Via.refl e38 (Fld.other W38 (Fld.other W36 F_maxMicros_a1 (Or.inl (Ne.symm hba))) (Or.inr (slot_ne (Or.inl (hw _ (List.mem_of_getElem? (i := 69) rfl))) (Or.inl (hw _ (List.mem_of_getElem? (i := 67) rfl))) (by decide) (t := .long) (t' := .long) (by decide) (by decide)))) (g := (mkF m 81 #[.val (.ref a1), .val (.long q2), .second, .val (.long mc), .second, .val (.int mI)] [(.ref a1), (.ref a1)])) rfl rfl (hb hby d7_81)
    refine OwnR.of (st39) ?_
    show OwnR _ _ _ _ _ _ _ (T39.setTop (mkF m 84 #[.val (.ref a1), .val (.long q2), .second, .val (.long mc), .second, .val (.int mI)] [(.long mx), (.ref a1)]))
    refine OwnR.of (fun _ hr => XS.lloadN X39.here hx rfl (hb hby d7_84) rfl hr) ?_
    show OwnR _ _ _ _ _ _ _ (T39.setTop (mkF m 85 #[.val (.ref a1), .val (.long q2), .second, .val (.long mc), .second, .val (.int mI)] [(.long mc), (.long mx), (.ref a1)]))
    obtain ⟨_, _, ⟨T40, L40, kc40, ns40⟩, -, X40, ⟨Lc40, hQ40, l40, y40, z40⟩, st40⟩ := Jvm.LawKit.callS X39 hx (y := (⟨"java/lang/Math", "max", "(JJ)J"⟩ : MethodName)) hown (mvT hZ (hw _ (List.mem_of_getElem? (i := 39) rfl))) (mvT hZ (hw _ (List.mem_of_getElem? (i := 40) rfl))) (mvT hZ (hw _ (List.mem_of_getElem? (i := 41) rfl))) (mvT hZ (hw _ (List.mem_of_getElem? (i := 42) rfl))) (by decide) (backOf (W := 1) (rmMaxJ l Z a0 hw [] mx mc h38 n0 (Nat.le_trans Z0 K38.1) ) hZ (hw _ (List.mem_of_getElem? (i := 42) rfl)) (hw _ (List.mem_of_getElem? (i := 41) rfl)) (by decide) (by decide)) (g := (mkF m 85 #[.val (.ref a1), .val (.long q2), .second, .val (.long mc), .second, .val (.int mI)] [(.long mc), (.long mx), (.ref a1)])) rfl (by rw [hml]; rfl) (argsL := [(.long mx), (.long mc)]) (rest := [(.ref a1)]) (lenOf pd__JJ_J rfl) rfl (by show 2 * 0 + _ ≤ _; exact Nat.le_of_eq rfl) (hb hby d7_85) (fun _ _ => ⟨rfl, e39, (by decide : 0 + 0 ≤ _), (by decide : 0 + 0 ≤ _)⟩)
    dsimp only [Pt.U, Pt.locs, Pt.cells, Pt.slots] at X40 l40 y40 z40 st40 hQ40
    rw [l40, y40, z40] at X40
    obtain ⟨rfl, N40q, e40⟩ := hQ40
    have N40 := Fr.app N38 N40q
    refine OwnR.of (st40) ?_
    show OwnR _ _ _ _ _ _ _ (T40.setTop (mkF m 88 #[.val (.ref a1), .val (.long q2), .second, .val (.long mc), .second, .val (.int mI)] [(.long (own_max mx mc)), (.ref a1)]))
    obtain ⟨T41, h41, X41, e41, W41, st41⟩ := putF X40 hx hZ hown (host := "") (Or.inl (hw _ (List.mem_of_getElem? (i := 68) rfl))) Via.refl e40 (Fld.other W38 (Fld.other W36 F_maxMicros_a1 (Or.inl (Ne.symm hba))) (Or.inr (slot_ne (Or.inl (hw _ (List.mem_of_getElem? (i := 69) rfl))) (Or.inl (hw _ (List.mem_of_getElem? (i := 67) rfl))) (by decide) (t := .long) (t' := .long) (by decide) (by decide)))) (Exa.wr W38 (Exa.wr W36 E_a1)) (Or.inl (hw _ (List.mem_of_getElem? (i := 69) rfl))) (hw _ (List.mem_of_getElem? (i := 15) rfl)) (ty := .long) (by decide) rfl rfl (g := (mkF m 88 #[.val (.ref a1), .val (.long q2), .second, .val (.long mc), .second, .val (.int mI)] [(.long (own_max mx mc)), (.ref a1)])) rfl rfl (hb hby d7_88)
    refine OwnR.of (st41) ?_
    have F41 := Fld.same W41 (Fld.other W38 (Fld.other W36 F_maxMicros_a1 (Or.inl (Ne.symm hba))) (Or.inr (slot_ne (Or.inl (hw _ (List.mem_of_getElem? (i := 69) rfl))) (Or.inl (hw _ (List.mem_of_getElem? (i := 67) rfl))) (by decide) (t := .long) (t' := .long) (by decide) (by decide))))
    have K41 : h0.size ≤ h41.size ∧ True := ⟨Nat.le_trans K38.1 (Nat.le_of_eq (Wr.size W41).symm), trivial⟩
    have N41 := Fr.snoc X41 N40 g_a1
    show OwnR _ _ _ _ _ _ _ (T41.setTop (mkF m 91 #[.val (.ref a1), .val (.long q2), .second, .val (.long mc), .second, .val (.int mI)] []))
    have Hi5 := OwnHi.wr Hi4 W41 (Ne.symm ne_1A)
    refine own_leafV X41 hx hlk Bd.returns (hb hby d7_91) (by decide) (by decide) ?_
    show QAdd Z a1 A kA N B ks cnt mx mc mn jn h0 n0 _ T41.heap _
    rw [show T41.heap = h41 from e41]
    refine ⟨B, rfl, N41, ⟨(Exa.wr W41 (Exa.wr W38 (Exa.wr W36 E_a1))), (Fld.other W41 (Fld.other W38 (Fld.other W36 F_counts_a1 (Or.inl (Ne.symm hba))) (Or.inr (slot_ne (Or.inr (hw _ (List.mem_of_getElem? (i := 28) rfl))) (Or.inl (hw _ (List.mem_of_getElem? (i := 67) rfl))) (by decide) (t := (.array (.array .long))) (t' := .long) (by decide) (by decide)))) (Or.inr (slot_ne (Or.inr (hw _ (List.mem_of_getElem? (i := 28) rfl))) (Or.inl (hw _ (List.mem_of_getElem? (i := 69) rfl))) (by decide) (t := (.array (.array .long))) (t' := .long) (by decide) (by decide)))), (Fld.other W41 F38 (Or.inr (slot_ne (Or.inl (hw _ (List.mem_of_getElem? (i := 67) rfl))) (Or.inl (hw _ (List.mem_of_getElem? (i := 69) rfl))) (by decide) (t := .long) (t' := .long) (by decide) (by decide)))), F41, Hi5, ⟨(by rw [hBr]; rfl), fun _ _ => rfl⟩, (((S_EB.wr W36).wr W38).wr W41), (((S_HALF.wr W36).wr W38).wr W41), K41.1⟩⟩
def own_lt : List (Nat × Nat) → Nat → Nat → Nat
  | [], _, _ => 0
  | k :: ks, m, i => (if k.1 < m ∨ (k.1 = m ∧ k.2 < i) then 1 else 0) + own_lt ks m i
def own_c : List (Nat × Nat) → Nat → Nat → Nat
  | [], _, _ => 0
  | k :: ks, m, i => (if k = (m, i) then 1 else 0) + own_c ks m i
theorem own_c_le (ks : List (Nat × Nat)) (m i : Nat) : own_c ks m i ≤ ks.length := by
  induction ks with
  | nil => simp [own_c]
  | cons k ks ih => simp only [own_c, List.length_cons]; split <;> omega
theorem own_lt_le (ks : List (Nat × Nat)) (m i : Nat) : own_lt ks m i ≤ ks.length := by
  induction ks with
  | nil => simp [own_lt]
  | cons k ks ih => simp only [own_lt, List.length_cons]; split <;> omega
theorem own_add1 {x : Int64} (h : x.toInt < 1000) (h0 : 0 ≤ x.toInt) : (x + 1).toInt = x.toInt + 1 := by
  rw [Int64.toInt_add, show (1 : Int64).toInt = 1 from rfl, Int.bmod_eq_of_le (by omega) (by omega)]
theorem own_addJ {x y : Int64} (h : x.toInt < 1000) (h0 : 0 ≤ x.toInt) (g : y.toInt < 1000) (g0 : 0 ≤ y.toInt) : (x + y).toInt = x.toInt + y.toInt := by
  rw [Int64.toInt_add, Int.bmod_eq_of_le (by omega) (by omega)]
theorem own_g_int (ks : List (Nat × Nat)) (m i : Nat) (h : ks.length ≤ 100) : (own_g ks m i).toInt = own_c ks m i := by
  induction ks with
  | nil => rfl
  | cons k ks ih =>
    have hl : ks.length ≤ 99 := by simp only [List.length_cons] at h; omega
    have e := ih (by omega)
    have b := own_c_le ks m i
    simp only [own_g, own_c]
    split
    · rw [own_add1 (by omega) (by omega), e]; omega
    · rw [e]; omega
theorem own_lt_succ (ks : List (Nat × Nat)) (m i : Nat) : own_lt ks m (i + 1) = own_lt ks m i + own_c ks m i := by
  induction ks with
  | nil => rfl
  | cons k ks ih =>
    obtain ⟨a, b⟩ := k
    simp only [own_lt, own_c, ih, Prod.mk.injEq]
    split <;> split <;> split <;> omega
theorem own_lt_mono (ks : List (Nat × Nat)) {m i m' i' : Nat} (h : m < m' ∨ (m = m' ∧ i ≤ i')) : own_lt ks m i ≤ own_lt ks m' i' := by
  induction ks with
  | nil => exact Nat.le_refl _
  | cons k ks ih =>
    obtain ⟨a, b⟩ := k
    simp only [own_lt]
    split <;> split <;> omega
theorem own_lt_row (ks : List (Nat × Nat)) (hk : ∀ k ∈ ks, k.2 < own_len k.1) (m : Nat) : own_lt ks m (own_len m) = own_lt ks (m + 1) 0 := by
  induction ks with
  | nil => rfl
  | cons k ks ih =>
    have e := ih fun k q => hk k (List.mem_cons_of_mem _ q)
    have q := hk k List.mem_cons_self
    obtain ⟨a, b⟩ := k
    have q : b < own_len a := q
    simp only [own_lt, e]
    by_cases ea : a = m
    · subst ea; split <;> split <;> omega
    · split <;> split <;> omega
theorem own_lt_null (ks : List (Nat × Nat)) (m : Nat) (h : ∀ i, own_c ks m i = 0) : own_lt ks m 0 = own_lt ks (m + 1) 0 := by
  induction ks with
  | nil => rfl
  | cons k ks ih =>
    have e := ih fun i => by have := h i; simp only [own_c] at this; omega
    have q := h k.2
    obtain ⟨a, b⟩ := k
    simp only [own_lt, e]
    simp only [own_c, Prod.mk.injEq] at q
    by_cases ea : a = m
    · subst ea; simp at q
    · split <;> split <;> omega
def own_val (m i : Int32) : Int64 := if m = 0 then i.toInt64 else ((i + 32768).toInt64 <<< (m &&& 0x3f).toInt64)
/-- where the search stands: all before (m, i) is seen, and the answer is not yet passed -/
def own_inv (B : Nat → Value) (ks : List (Nat × Nat)) (rank res : Int64) (m i : Nat) (seen : Int64) : Prop :=
  ks.length ≤ 100 ∧ (∀ k ∈ ks, k.2 < own_len k.1) ∧ seen.toInt = own_lt ks m i ∧
  ((ks = [] ∧ (∀ m, B m = .null) ∧ res = 0) ∨ ∃ mr ir, mr < 49 ∧ ir < own_len mr ∧ (m < mr ∨ (m = mr ∧ i ≤ ir)) ∧ (own_lt ks mr ir : Int) < rank.toInt ∧ rank.toInt ≤ own_lt ks mr (ir + 1) ∧ res = own_val (Int32.ofNat mr) (Int32.ofNat ir))
section OwnInv
variable {B : Nat → Value} {ks : List (Nat × Nat)} {rank res seen : Int64} {m i : Nat}
theorem own_inv_end (I : own_inv B ks rank res 49 i seen) : res = 0 := by
  obtain ⟨-, -, -, q | ⟨mr, ir, h1, h2, h3, -⟩⟩ := I
  · exact q.2.2
  · omega
theorem own_inv_null (I : own_inv B ks rank res m 0 seen) (h : ∀ i, own_g ks m i = 0) : own_inv B ks rank res (m + 1) 0 seen := by
  obtain ⟨h1, h2, h3, h4⟩ := I
  have hc : ∀ i, own_c ks m i = 0 := fun i => by
    have e := own_g_int ks m i h1
    rw [h i, show (0 : Int64).toInt = 0 from rfl] at e; omega
  have hl := own_lt_null ks m hc
  refine ⟨h1, h2, by rw [h3, hl], ?_⟩
  rcases h4 with q | ⟨mr, ir, g1, g2, g3, g4, g5, g6⟩
  · exact Or.inl q
  · refine Or.inr ⟨mr, ir, g1, g2, ?_, g4, g5, g6⟩
    rcases g3 with g3 | ⟨g3, -⟩
    · omega
    · subst g3
      rw [own_lt_succ, hc ir] at g5
      omega
theorem own_inv_row (I : own_inv B ks rank res m (own_len m) seen) : own_inv B ks rank res (m + 1) 0 seen := by
  obtain ⟨h1, h2, h3, h4⟩ := I
  refine ⟨h1, h2, by rw [h3, own_lt_row ks h2], ?_⟩
  rcases h4 with q | ⟨mr, ir, g1, g2, g3, g4, g5, g6⟩
  · exact Or.inl q
  · refine Or.inr ⟨mr, ir, g1, g2, ?_, g4, g5, g6⟩
    rcases g3 with g3 | ⟨g3, g7⟩
    · omega
    · subst g3; omega
theorem own_inv_sum (I : own_inv B ks rank res m i seen) : (seen + own_g ks m i).toInt = own_lt ks m (i + 1) := by
  obtain ⟨h1, h2, h3, h4⟩ := I
  have e := own_g_int ks m i h1
  have b1 := own_lt_le ks m i
  have b2 := own_c_le ks m i
  rw [own_addJ (by omega) (by omega) (by omega) (by omega), h3, e, own_lt_succ]; omega
theorem own_inv_next (I : own_inv B ks rank res m i seen) (h : seen + own_g ks m i < rank) : own_inv B ks rank res m (i + 1) (seen + own_g ks m i) := by
  have hs := own_inv_sum I
  have hl := Int64.lt_iff_toInt_lt.mp h
  obtain ⟨h1, h2, h3, h4⟩ := I
  refine ⟨h1, h2, hs, ?_⟩
  rcases h4 with q | ⟨mr, ir, g1, g2, g3, g4, g5, g6⟩
  · exact Or.inl q
  · refine Or.inr ⟨mr, ir, g1, g2, ?_, g4, g5, g6⟩
    rcases g3 with g3 | ⟨g3, g7⟩
    · omega
    · subst g3
      by_cases e : i = ir
      · subst e; omega
      · omega
theorem own_inv_found {b : Addr} (I : own_inv B ks rank res m i seen) (hB : B m = .ref b) (h : ¬ seen + own_g ks m i < rank) : res = own_val (Int32.ofNat m) (Int32.ofNat i) := by
  have hs := own_inv_sum I
  have hl : ¬ (seen + own_g ks m i).toInt < rank.toInt := fun q => h (Int64.lt_iff_toInt_lt.mpr q)
  obtain ⟨h1, h2, h3, h4⟩ := I
  rcases h4 with q | ⟨mr, ir, g1, g2, g3, g4, g5, g6⟩
  · have := q.2.1 m; rw [hB] at this; cases this
  · rcases g3 with g3 | ⟨g3, g7⟩
    · have := own_lt_mono ks (m := m) (i := i + 1) (m' := mr) (i' := ir) (Or.inl g3)
      omega
    · subst g3
      by_cases e : i = ir
      · subst e; exact g6
      · have := own_lt_mono ks (m := m) (i := i + 1) (m' := m) (i' := ir) (Or.inr ⟨rfl, by omega⟩)
        omega
theorem own_succ (n : Nat) : Int32.ofNat n + 1 = Int32.ofNat (n + 1) := by
  rw [Int32.ofNat_add]; rfl
theorem own_clamp {n : Nat} (h : n < 2147483648) : (Int32.ofNat n).toNatClampNeg = n := Int32.toNatClampNeg_ofNat_of_lt (by simpa using h)
theorem own_ofn {n : Nat} (h : n < 2147483648) : (Int32.ofNat n).toInt = n := Int32.toInt_ofNat_of_lt (by simpa using h)
theorem own_nneg {n : Nat} (h : n < 2147483648) : ¬ Int32.ofNat n < 0 := fun q => by
  have e := Int32.lt_iff_toInt_lt.mp q
  rw [own_ofn h, show (0 : Int32).toInt = 0 from rfl] at e; omega
theorem own_ltn {n k : Nat} (h : n < 2147483648) (hk : k < 2147483648) : (Int32.ofNat n < Int32.ofNat k) ↔ n < k := by
  rw [Int32.lt_iff_toInt_lt, own_ofn h, own_ofn hk]; omega
theorem own_len_lt (m : Nat) : own_len m < 2147483648 := by unfold own_len; split <;> decide
end OwnInv

theorem ef_rmPct (m : MethodId) (x0 : Addr) (x1 : Int32) : entryFrame m #[(.ref x0), (.int x1)] 9 = mkF m 0 #[.val (.ref x0), .val (.int x1), .unset, .unset, .unset, .unset, .unset, .unset, .unset] [] := by first | (simp [entryFrame, mkF, argsToLocals, Value.category]; done) | rfl
theorem d14_0 : decode prog_12_method_4_code 0 = .ok (.aload_n 0, 1) := by decide +kernel
theorem d14_1 : decode prog_12_method_4_code 1 = .ok (.getfield 40, 3) := by decide +kernel
theorem d14_4 : decode prog_12_method_4_code 4 = .ok (.iload_n 1, 1) := by decide +kernel
theorem d14_5 : decode prog_12_method_4_code 5 = .ok (.i2l, 1) := by decide +kernel
theorem d14_6 : decode prog_12_method_4_code 6 = .ok (.lmul, 1) := by decide +kernel
theorem d14_7 : decode prog_12_method_4_code 7 = .ok (.ldc2_w 47, 3) := by decide +kernel
theorem d14_10 : decode prog_12_method_4_code 10 = .ok (.ladd, 1) := by decide +kernel
theorem d14_11 : decode prog_12_method_4_code 11 = .ok (.ldc2_w 49, 3) := by decide +kernel
theorem d14_14 : decode prog_12_method_4_code 14 = .ok (.ldiv, 1) := by decide +kernel
theorem d14_15 : decode prog_12_method_4_code 15 = .ok (.lstore_n 2, 1) := by decide +kernel
theorem d14_16 : decode prog_12_method_4_code 16 = .ok (.lconst 0, 1) := by decide +kernel
theorem d14_17 : decode prog_12_method_4_code 17 = .ok (.lstore 4, 2) := by decide +kernel
theorem d14_19 : decode prog_12_method_4_code 19 = .ok (.iconst 0, 1) := by decide +kernel
theorem d14_20 : decode prog_12_method_4_code 20 = .ok (.istore 6, 2) := by decide +kernel
theorem d14_22 : decode prog_12_method_4_code 22 = .ok (.iload 6, 2) := by decide +kernel
theorem d14_24 : decode prog_12_method_4_code 24 = .ok (.aload_n 0, 1) := by decide +kernel
theorem d14_25 : decode prog_12_method_4_code 25 = .ok (.getfield 17, 3) := by decide +kernel
theorem d14_28 : decode prog_12_method_4_code 28 = .ok (.arraylength, 1) := by decide +kernel
theorem d14_29 : decode prog_12_method_4_code 29 = .ok (.if_icmp .ge 79, 3) := by decide +kernel
theorem d14_108 : decode prog_12_method_4_code 108 = .ok (.lconst 0, 1) := by decide +kernel
theorem d14_109 : decode prog_12_method_4_code 109 = .ok (.lreturn, 1) := by decide +kernel
theorem d14_32 : decode prog_12_method_4_code 32 = .ok (.aload_n 0, 1) := by decide +kernel
theorem d14_33 : decode prog_12_method_4_code 33 = .ok (.getfield 17, 3) := by decide +kernel
theorem d14_36 : decode prog_12_method_4_code 36 = .ok (.iload 6, 2) := by decide +kernel
theorem d14_38 : decode prog_12_method_4_code 38 = .ok (.aaload, 1) := by decide +kernel
theorem d14_39 : decode prog_12_method_4_code 39 = .ok (.astore 7, 2) := by decide +kernel
theorem d14_41 : decode prog_12_method_4_code 41 = .ok (.iconst 0, 1) := by decide +kernel
theorem d14_42 : decode prog_12_method_4_code 42 = .ok (.istore 8, 2) := by decide +kernel
theorem d14_44 : decode prog_12_method_4_code 44 = .ok (.aload 7, 2) := by decide +kernel
theorem d14_46 : decode prog_12_method_4_code 46 = .ok (.ifnull 56, 3) := by decide +kernel
theorem d14_102 : decode prog_12_method_4_code 102 = .ok (.iinc 6 1, 3) := by decide +kernel
theorem d14_105 : decode prog_12_method_4_code 105 = .ok (.goto (-83), 3) := by decide +kernel
theorem d14_49 : decode prog_12_method_4_code 49 = .ok (.iload 8, 2) := by decide +kernel
theorem d14_51 : decode prog_12_method_4_code 51 = .ok (.aload 7, 2) := by decide +kernel
theorem d14_53 : decode prog_12_method_4_code 53 = .ok (.arraylength, 1) := by decide +kernel
theorem d14_54 : decode prog_12_method_4_code 54 = .ok (.if_icmp .ge 48, 3) := by decide +kernel
theorem d14_57 : decode prog_12_method_4_code 57 = .ok (.lload 4, 2) := by decide +kernel
theorem d14_59 : decode prog_12_method_4_code 59 = .ok (.aload 7, 2) := by decide +kernel
theorem d14_61 : decode prog_12_method_4_code 61 = .ok (.iload 8, 2) := by decide +kernel
theorem d14_63 : decode prog_12_method_4_code 63 = .ok (.laload, 1) := by decide +kernel
theorem d14_64 : decode prog_12_method_4_code 64 = .ok (.ladd, 1) := by decide +kernel
theorem d14_65 : decode prog_12_method_4_code 65 = .ok (.lstore 4, 2) := by decide +kernel
theorem d14_67 : decode prog_12_method_4_code 67 = .ok (.lload 4, 2) := by decide +kernel
theorem d14_69 : decode prog_12_method_4_code 69 = .ok (.lload_n 2, 1) := by decide +kernel
theorem d14_70 : decode prog_12_method_4_code 70 = .ok (.lcmp, 1) := by decide +kernel
theorem d14_71 : decode prog_12_method_4_code 71 = .ok (.ifCond .lt 25, 3) := by decide +kernel
theorem d14_96 : decode prog_12_method_4_code 96 = .ok (.iinc 8 1, 3) := by decide +kernel
theorem d14_99 : decode prog_12_method_4_code 99 = .ok (.goto (-55), 3) := by decide +kernel
theorem d14_74 : decode prog_12_method_4_code 74 = .ok (.iload 6, 2) := by decide +kernel
theorem d14_76 : decode prog_12_method_4_code 76 = .ok (.ifCond .ne 9, 3) := by decide +kernel
theorem d14_79 : decode prog_12_method_4_code 79 = .ok (.iload 8, 2) := by decide +kernel
theorem d14_81 : decode prog_12_method_4_code 81 = .ok (.i2l, 1) := by decide +kernel
theorem d14_82 : decode prog_12_method_4_code 82 = .ok (.goto 13, 3) := by decide +kernel
theorem d14_95 : decode prog_12_method_4_code 95 = .ok (.lreturn, 1) := by decide +kernel
theorem d14_85 : decode prog_12_method_4_code 85 = .ok (.iload 8, 2) := by decide +kernel
theorem d14_87 : decode prog_12_method_4_code 87 = .ok (.getstatic 33, 3) := by decide +kernel
theorem d14_90 : decode prog_12_method_4_code 90 = .ok (.iadd, 1) := by decide +kernel
theorem d14_91 : decode prog_12_method_4_code 91 = .ok (.i2l, 1) := by decide +kernel
theorem d14_92 : decode prog_12_method_4_code 92 = .ok (.iload 6, 2) := by decide +kernel
theorem d14_94 : decode prog_12_method_4_code 94 = .ok (.lshl, 1) := by decide +kernel
def QPct (Z : State) (res : Int64) (h0 : Heap) (n0 : Nat) (v : Option Value) (h : Heap) (L : List Loc) : Prop := v = some (.long res) ∧ Fr n0 L ∧ h = h0
set_option maxRecDepth 65536 in
set_option maxHeartbeats 40000000 in
theorem rmPct (l : Launch) (Z : State) (a0 : Array Value) (hw : ∀ d ∈ tables_1, d.before a0 Z = true) (ws : List Jvm.Cond) (a1 : Addr) (p2 : Int32) (A : Addr) (kA : ClassId) (N : Nat) (B : Nat → Value) (ks : List (Nat × Nat)) (cnt mx rank res : Int64) (h0 : Heap) (n0 : Nat) (Z0 : n0 ≤ h0.size) (E_a1 : Exa Z h0 a1 "com/example/kurir/kurir/bench/Latencies") (F_counts_a1 : Fld Z h0 a1 "com/example/kurir/kurir/bench/Latencies" "counts" "[[J" (.ref A)) (F_count_a1 : Fld Z h0 a1 "com/example/kurir/kurir/bench/Latencies" "count" "J" (.long cnt)) (F_maxMicros_a1 : Fld Z h0 a1 "com/example/kurir/kurir/bench/Latencies" "maxMicros" "J" (.long mx)) (S_EB : Sta Z h0 "com/example/kurir/kurir/bench/Latencies" "EXACT_BITS" "I" (.int (16 : Int32))) (S_HALF : Sta Z h0 "com/example/kurir/kurir/bench/Latencies" "HALF" "I" (.int (32768 : Int32))) (Hi : OwnHi Z h0 a1 A kA N B ks) (hrk : ((cnt * p2.toInt64) + (99 : Int64)) / (100 : Int64) = rank) (I0 : own_inv B ks rank res 0 0 (0 : Int64)) :
    MetFree l (⟨"com/example/kurir/kurir/bench/Latencies", "percentileMicros", "(I)J"⟩ : MethodName) (head1 (Jvm.Cond.code (⟨"com/example/kurir/kurir/bench/Latencies", "percentileMicros", "(I)J"⟩ : MethodName) prog_12_method_4_code 9 (some .long) :: ws) ({ frames := 0, cells := 0, slots := 0, locals := 0 } : Room)) (fun a U => a = #[(.ref a1), (.int p2)] ∧ Z.Warmed39 U.vm ∧ U.heap = h0) (fun _ _ _ _ _ => True) (fun _ U o U' => ∃ v L, o = .returned v ∧ QPct Z res h0 n0 v U'.heap L ∧ FrameEnd U o U' L ({ frames := 0, cells := 0, slots := 0, locals := 0 } : Room).cells ({ frames := 0, cells := 0, slots := 0, locals := 0 } : Room).slots) := by
  refine MetFree.of_bodySF (plainFor_of_name pn_com_example_kurir_kurir_bench_Latencies) hisR ?_
  intro p e s m args below meth c s₁ Bd hml0 hP hK
  obtain ⟨rfl, hZ, hh⟩ := hP
  have hx := Bd.exec
  have hby := Bd.bytes
  have hlk := BodyLoose.notSynchronized Bd
  have hml : c.maxLocals = 9 := hml0
  have hown : s.vm.findClass "com/example/kurir/kurir/bench/Latencies" = some m.cls := findClass_of_methodNamed Bd.named
  have hnm := (name_of_methodNamed Bd.named Bd.method).1
  have X0 : Stand p l e ({ frames := 0, cells := 0, slots := 0, locals := 0 } : Room) s m #[(.ref a1), (.int p2)] below meth c s₁ [] 0 0 := Stand.of_body Bd
  have e0 : s₁.heap = h0 := by rw [← hh, Bd.state]; rfl
  have N0 := Fr.nil n0
  refine OwnR.of (s := s) (Q := QPct Z res h0 n0) (fun t k => castTop (ef_rmPct m a1 p2) k) ?_
  show OwnR _ _ _ _ _ _ _ (s₁.setTop (mkF m 0 #[.val (.ref a1), .val (.int p2), .unset, .unset, .unset, .unset, .unset, .unset, .unset] []))
  refine OwnR.of (fun _ hr => XS.aloadN X0.here hx rfl (hb hby d14_0) rfl rfl hr) ?_
  show OwnR _ _ _ _ _ _ _ (s₁.setTop (mkF m 1 #[.val (.ref a1), .val (.int p2), .unset, .unset, .unset, .unset, .unset, .unset, .unset] [(.ref a1)]))
  obtain ⟨T1, X1, e1, st1⟩ := getF X0 hx hZ hown (host := "") (Or.inl (hw _ (List.mem_of_getElem? (i := 66) rfl))) Via.refl e0 F_count_a1 (g := (mkF m 1 #[.val (.ref a1), .val (.int p2), .unset, .unset, .unset, .unset, .unset, .unset, .unset] [(.ref a1)])) rfl rfl (hb hby d14_1)
  refine OwnR.of (st1) ?_
  show OwnR _ _ _ _ _ _ _ (T1.setTop (mkF m 4 #[.val (.ref a1), .val (.int p2), .unset, .unset, .unset, .unset, .unset, .unset, .unset] [(.long cnt)]))
  refine OwnR.of (fun _ hr => XS.iloadN X1.here hx rfl (hb hby d14_4) rfl hr) ?_
  show OwnR _ _ _ _ _ _ _ (T1.setTop (mkF m 5 #[.val (.ref a1), .val (.int p2), .unset, .unset, .unset, .unset, .unset, .unset, .unset] [(.int p2), (.long cnt)]))
  refine OwnR.of (fun _ hr => XS.i2l X1.here hx rfl (hb hby d14_5) rfl hr) ?_
  show OwnR _ _ _ _ _ _ _ (T1.setTop (mkF m 6 #[.val (.ref a1), .val (.int p2), .unset, .unset, .unset, .unset, .unset, .unset, .unset] [(.long (p2.toInt64)), (.long cnt)]))
  refine OwnR.of (fun _ hr => XS.lmul X1.here hx rfl (hb hby d14_6) rfl hr) ?_
  show OwnR _ _ _ _ _ _ _ (T1.setTop (mkF m 7 #[.val (.ref a1), .val (.int p2), .unset, .unset, .unset, .unset, .unset, .unset, .unset] [(.long (cnt * (p2.toInt64)))]))
  refine OwnR.of (X1.ldc2Long hx hown (mvT hZ (hw _ (List.mem_of_getElem? (i := 75) rfl))) (g := (mkF m 7 #[.val (.ref a1), .val (.int p2), .unset, .unset, .unset, .unset, .unset, .unset, .unset] [(.long (cnt * (p2.toInt64)))])) rfl (hb hby d14_7)) ?_
  show OwnR _ _ _ _ _ _ _ (T1.setTop (mkF m 10 #[.val (.ref a1), .val (.int p2), .unset, .unset, .unset, .unset, .unset, .unset, .unset] [(.long (99 : Int64)), (.long (cnt * (p2.toInt64)))]))
  refine OwnR.of (fun _ hr => XS.ladd X1.here hx rfl (hb hby d14_10) rfl hr) ?_
  show OwnR _ _ _ _ _ _ _ (T1.setTop (mkF m 11 #[.val (.ref a1), .val (.int p2), .unset, .unset, .unset, .unset, .unset, .unset, .unset] [(.long ((cnt * (p2.toInt64)) + (99 : Int64)))]))
  refine OwnR.of (X1.ldc2Long hx hown (mvT hZ (hw _ (List.mem_of_getElem? (i := 76) rfl))) (g := (mkF m 11 #[.val (.ref a1), .val (.int p2), .unset, .unset, .unset, .unset, .unset, .unset, .unset] [(.long ((cnt * (p2.toInt64)) + (99 : Int64)))])) rfl (hb hby d14_11)) ?_
  show OwnR _ _ _ _ _ _ _ (T1.setTop (mkF m 14 #[.val (.ref a1), .val (.int p2), .unset, .unset, .unset, .unset, .unset, .unset, .unset] [(.long (100 : Int64)), (.long ((cnt * (p2.toInt64)) + (99 : Int64)))]))
  refine OwnR.of (fun _ hr => XS.ldiv X1.here hx rfl (hb hby d14_14) rfl (by decide) hr) ?_
  show OwnR _ _ _ _ _ _ _ (T1.setTop (mkF m 15 #[.val (.ref a1), .val (.int p2), .unset, .unset, .unset, .unset, .unset, .unset, .unset] [(.long (((cnt * (p2.toInt64)) + (99 : Int64)) / (100 : Int64)))]))
  rw [hrk]
  show OwnR _ _ _ _ _ _ _ (T1.setTop (mkF m 15 #[.val (.ref a1), .val (.int p2), .unset, .unset, .unset, .unset, .unset, .unset, .unset] [(.long rank)]))
  refine OwnR.of (fun _ hr => XS.lstoreN X1.here hx rfl (hb hby d14_15) rfl (l' := #[.val (.ref a1), .val (.int p2), .val (.long rank), .second, .unset, .unset, .unset, .unset, .unset]) rfl hr) ?_
  show OwnR _ _ _ _ _ _ _ (T1.setTop (mkF m 16 #[.val (.ref a1), .val (.int p2), .val (.long rank), .second, .unset, .unset, .unset, .unset, .unset] []))
  refine OwnR.of (fun _ hr => XS.lconst X1.here hx rfl (hb hby d14_16) hr) ?_
  show OwnR _ _ _ _ _ _ _ (T1.setTop (mkF m 17 #[.val (.ref a1), .val (.int p2), .val (.long rank), .second, .unset, .unset, .unset, .unset, .unset] [(.long (0 : Int64))]))
  refine OwnR.of (fun _ hr => XS.lstore X1.here hx rfl (hb hby d14_17) rfl (l' := #[.val (.ref a1), .val (.int p2), .val (.long rank), .second, .val (.long (0 : Int64)), .second, .unset, .unset, .unset]) rfl hr) ?_
  show OwnR _ _ _ _ _ _ _ (T1.setTop (mkF m 19 #[.val (.ref a1), .val (.int p2), .val (.long rank), .second, .val (.long (0 : Int64)), .second, .unset, .unset, .unset] []))
  refine OwnR.of (fun _ hr => XS.iconst X1.here hx rfl (hb hby d14_19) hr) ?_
  show OwnR _ _ _ _ _ _ _ (T1.setTop (mkF m 20 #[.val (.ref a1), .val (.int p2), .val (.long rank), .second, .val (.long (0 : Int64)), .second, .unset, .unset, .unset] [(.int (0 : Int32))]))
  refine OwnR.of (fun _ hr => XS.istore X1.here hx rfl (hb hby d14_20) rfl (l' := #[.val (.ref a1), .val (.int p2), .val (.long rank), .second, .val (.long (0 : Int64)), .second, .val (.int (0 : Int32)), .unset, .unset]) rfl hr) ?_
  show OwnR _ _ _ _ _ _ _ (T1.setTop (mkF m 22 #[.val (.ref a1), .val (.int p2), .val (.long rank), .second, .val (.long (0 : Int64)), .second, .val (.int (0 : Int32)), .unset, .unset] []))
  suffices loop : ∀ (d mn : Nat) (T : State) (z7 z8 : Slot) (seen : Int64), ((z7 = .unset ∧ z8 = .unset) ∨ (∃ x, z7 = .val .null ∧ z8 = .val (.int x)) ∨ ∃ y x, z7 = .val (.ref y) ∧ z8 = .val (.int x)) → mn + d = 49 → Stand p l e ({ frames := 0, cells := 0, slots := 0, locals := 0 } : Room) s m #[(.ref a1), (.int p2)] below meth c T [] 0 0 → T.heap = h0 → own_inv B ks rank res mn 0 seen → OwnR p e below s (QPct Z res h0 n0) ({ frames := 0, cells := 0, slots := 0, locals := 0 } : Room).cells ({ frames := 0, cells := 0, slots := 0, locals := 0 } : Room).slots (T.setTop (mkF m 22 #[.val (.ref a1), .val (.int p2), .val (.long rank), .second, .val (.long seen), .second, .val (.int (Int32.ofNat mn)), z7, z8] [])) by
    exact loop 49 0 _ _ _ _ (Or.inl ⟨rfl, rfl⟩) rfl X1 e1 I0
  intro d
  induction d with
  | zero =>
    intro mn T z7 z8 seen hz7 hd X eT I
    obtain rfl : mn = 49 := hd
    show OwnR _ _ _ _ _ _ _ (T.setTop (mkF m 22 #[.val (.ref a1), .val (.int p2), .val (.long rank), .second, .val (.long seen), .second, .val (.int (49 : Int32)), z7, z8] []))
    refine OwnR.of (fun _ hr => XS.iload X.here hx rfl (hb hby d14_22) rfl hr) ?_
    show OwnR _ _ _ _ _ _ _ (T.setTop (mkF m 24 #[.val (.ref a1), .val (.int p2), .val (.long rank), .second, .val (.long seen), .second, .val (.int (49 : Int32)), z7, z8] [(.int (49 : Int32))]))
    refine OwnR.of (fun _ hr => XS.aloadN X.here hx rfl (hb hby d14_24) rfl rfl hr) ?_
    show OwnR _ _ _ _ _ _ _ (T.setTop (mkF m 25 #[.val (.ref a1), .val (.int p2), .val (.long rank), .second, .val (.long seen), .second, .val (.int (49 : Int32)), z7, z8] [(.ref a1), (.int (49 : Int32))]))
    obtain ⟨T2, X2, e2, st2⟩ := getF X hx hZ hown (host := "") (Or.inl (hw _ (List.mem_of_getElem? (i := 27) rfl))) Via.refl eT F_counts_a1 (g := (mkF m 25 #[.val (.ref a1), .val (.int p2), .val (.long rank), .second, .val (.long seen), .second, .val (.int (49 : Int32)), z7, z8] [(.ref a1), (.int (49 : Int32))])) rfl rfl (hb hby d14_25)
    refine OwnR.of (st2) ?_
    show OwnR _ _ _ _ _ _ _ (T2.setTop (mkF m 28 #[.val (.ref a1), .val (.int p2), .val (.long rank), .second, .val (.long seen), .second, .val (.int (49 : Int32)), z7, z8] [(.ref A), (.int (49 : Int32))]))
    refine OwnR.of (own_alen X2 hx hZ e2 Hi.1 (z := (49 : Int32)) (by decide) (by decide) (g := (mkF m 28 #[.val (.ref a1), .val (.int p2), .val (.long rank), .second, .val (.long seen), .second, .val (.int (49 : Int32)), z7, z8] [(.ref A), (.int (49 : Int32))])) rfl rfl (hb hby d14_28)) ?_
    show OwnR _ _ _ _ _ _ _ (T2.setTop (mkF m 29 #[.val (.ref a1), .val (.int p2), .val (.long rank), .second, .val (.long seen), .second, .val (.int (49 : Int32)), z7, z8] [(.int (49 : Int32)), (.int (49 : Int32))]))
    refine OwnR.of (fun _ hr => XS.icmpYes X2.here hx rfl (pc0 := 29) (pc' := 108) rfl (hb hby d14_29) rfl (flt (by decide : ¬ ((49 : Int32) < (49 : Int32)))).2.1 (by decide) (by decide) hr) ?_
    show OwnR _ _ _ _ _ _ _ (T2.setTop (mkF m 108 #[.val (.ref a1), .val (.int p2), .val (.long rank), .second, .val (.long seen), .second, .val (.int (49 : Int32)), z7, z8] []))
    refine OwnR.of (fun _ hr => XS.lconst X2.here hx rfl (hb hby d14_108) hr) ?_
    show OwnR _ _ _ _ _ _ _ (T2.setTop (mkF m 109 #[.val (.ref a1), .val (.int p2), .val (.long rank), .second, .val (.long seen), .second, .val (.int (49 : Int32)), z7, z8] [(.long (0 : Int64))]))
    refine own_leafJ X2 hx hlk Bd.returns (hb hby d14_109) (by decide) (by decide) ?_
    show QPct Z res h0 n0 _ T2.heap _
    rw [show T2.heap = h0 from e2]
    refine ⟨?_, N0, rfl⟩
    show (some (.long (0 : Int64)) : Option Value) = some (.long res)
    rw [own_inv_end I]
  | succ d ih =>
    intro mn T z7 z8 seen hz7 hd X eT I
    have hm49 : mn < 49 := by omega
    have hmb : mn < 2147483648 := by omega
    have hlt : Int32.ofNat mn < (49 : Int32) := (own_ltn (k := 49) hmb (by decide)).mpr hm49
    rcases Hi.2.1 mn hm49 with ⟨hBn, hz⟩ | ⟨b, kb, hBr, hF, hNb, hbA, hba⟩
    · skip
      show OwnR _ _ _ _ _ _ _ (T.setTop (mkF m 22 #[.val (.ref a1), .val (.int p2), .val (.long rank), .second, .val (.long seen), .second, .val (.int (Int32.ofNat mn)), z7, z8] []))
      refine OwnR.of (fun _ hr => XS.iload X.here hx rfl (hb hby d14_22) rfl hr) ?_
      show OwnR _ _ _ _ _ _ _ (T.setTop (mkF m 24 #[.val (.ref a1), .val (.int p2), .val (.long rank), .second, .val (.long seen), .second, .val (.int (Int32.ofNat mn)), z7, z8] [(.int (Int32.ofNat mn))]))
      refine OwnR.of (fun _ hr => XS.aloadN X.here hx rfl (hb hby d14_24) rfl rfl hr) ?_
      show OwnR _ _ _ _ _ _ _ (T.setTop (mkF m 25 #[.val (.ref a1), .val (.int p2), .val (.long rank), .second, .val (.long seen), .second, .val (.int (Int32.ofNat mn)), z7, z8] [(.ref a1), (.int (Int32.ofNat mn))]))
      obtain ⟨T3, X3, e3, st3⟩ := getF X hx hZ hown (host := "") (Or.inl (hw _ (List.mem_of_getElem? (i := 27) rfl))) Via.refl eT F_counts_a1 (g := (mkF m 25 #[.val (.ref a1), .val (.int p2), .val (.long rank), .second, .val (.long seen), .second, .val (.int (Int32.ofNat mn)), z7, z8] [(.ref a1), (.int (Int32.ofNat mn))])) rfl rfl (hb hby d14_25)
      refine OwnR.of (st3) ?_
      show OwnR _ _ _ _ _ _ _ (T3.setTop (mkF m 28 #[.val (.ref a1), .val (.int p2), .val (.long rank), .second, .val (.long seen), .second, .val (.int (Int32.ofNat mn)), z7, z8] [(.ref A), (.int (Int32.ofNat mn))]))
      refine OwnR.of (own_alen X3 hx hZ e3 Hi.1 (z := (49 : Int32)) (by decide) (by decide) (g := (mkF m 28 #[.val (.ref a1), .val (.int p2), .val (.long rank), .second, .val (.long seen), .second, .val (.int (Int32.ofNat mn)), z7, z8] [(.ref A), (.int (Int32.ofNat mn))])) rfl rfl (hb hby d14_28)) ?_
      show OwnR _ _ _ _ _ _ _ (T3.setTop (mkF m 29 #[.val (.ref a1), .val (.int p2), .val (.long rank), .second, .val (.long seen), .second, .val (.int (Int32.ofNat mn)), z7, z8] [(.int (49 : Int32)), (.int (Int32.ofNat mn))]))
      refine OwnR.of (fun _ hr => XS.icmpNo X3.here hx rfl (hb hby d14_29) rfl (tlt hlt).2.1 hr) ?_
      show OwnR _ _ _ _ _ _ _ (T3.setTop (mkF m 32 #[.val (.ref a1), .val (.int p2), .val (.long rank), .second, .val (.long seen), .second, .val (.int (Int32.ofNat mn)), z7, z8] []))
      refine OwnR.of (fun _ hr => XS.aloadN X3.here hx rfl (hb hby d14_32) rfl rfl hr) ?_
      show OwnR _ _ _ _ _ _ _ (T3.setTop (mkF m 33 #[.val (.ref a1), .val (.int p2), .val (.long rank), .second, .val (.long seen), .second, .val (.int (Int32.ofNat mn)), z7, z8] [(.ref a1)]))
      obtain ⟨T4, X4, e4, st4⟩ := getF X3 hx hZ hown (host := "") (Or.inl (hw _ (List.mem_of_getElem? (i := 27) rfl))) Via.refl e3 F_counts_a1 (g := (mkF m 33 #[.val (.ref a1), .val (.int p2), .val (.long rank), .second, .val (.long seen), .second, .val (.int (Int32.ofNat mn)), z7, z8] [(.ref a1)])) rfl rfl (hb hby d14_33)
      refine OwnR.of (st4) ?_
      show OwnR _ _ _ _ _ _ _ (T4.setTop (mkF m 36 #[.val (.ref a1), .val (.int p2), .val (.long rank), .second, .val (.long seen), .second, .val (.int (Int32.ofNat mn)), z7, z8] [(.ref A)]))
      refine OwnR.of (fun _ hr => XS.iload X4.here hx rfl (hb hby d14_36) rfl hr) ?_
      show OwnR _ _ _ _ _ _ _ (T4.setTop (mkF m 38 #[.val (.ref a1), .val (.int p2), .val (.long rank), .second, .val (.long seen), .second, .val (.int (Int32.ofNat mn)), z7, z8] [(.int (Int32.ofNat mn)), (.ref A)]))
      refine OwnR.of (own_aaload rfl X4 hx hZ e4 Hi.1 (own_clamp hmb) (own_nneg hmb) hm49 (v := .null) hBn (g := (mkF m 38 #[.val (.ref a1), .val (.int p2), .val (.long rank), .second, .val (.long seen), .second, .val (.int (Int32.ofNat mn)), z7, z8] [(.int (Int32.ofNat mn)), (.ref A)])) rfl rfl (hb hby d14_38)) ?_
      show OwnR _ _ _ _ _ _ _ (T4.setTop (mkF m 39 #[.val (.ref a1), .val (.int p2), .val (.long rank), .second, .val (.long seen), .second, .val (.int (Int32.ofNat mn)), z7, z8] [.null]))
      refine OwnR.of (fun _ hr => XS.astore X4.here hx rfl (hb hby d14_39) rfl rfl (l' := #[.val (.ref a1), .val (.int p2), .val (.long rank), .second, .val (.long seen), .second, .val (.int (Int32.ofNat mn)), .val .null, z8]) (by rcases hz7 with ⟨rfl, rfl⟩ | ⟨x, rfl, rfl⟩ | ⟨y, x, rfl, rfl⟩ <;> rfl) hr) ?_
      show OwnR _ _ _ _ _ _ _ (T4.setTop (mkF m 41 #[.val (.ref a1), .val (.int p2), .val (.long rank), .second, .val (.long seen), .second, .val (.int (Int32.ofNat mn)), .val .null, z8] []))
      refine OwnR.of (fun _ hr => XS.iconst X4.here hx rfl (hb hby d14_41) hr) ?_
      show OwnR _ _ _ _ _ _ _ (T4.setTop (mkF m 42 #[.val (.ref a1), .val (.int p2), .val (.long rank), .second, .val (.long seen), .second, .val (.int (Int32.ofNat mn)), .val .null, z8] [(.int (0 : Int32))]))
      refine OwnR.of (fun _ hr => XS.istore X4.here hx rfl (hb hby d14_42) rfl (l' := #[.val (.ref a1), .val (.int p2), .val (.long rank), .second, .val (.long seen), .second, .val (.int (Int32.ofNat mn)), .val .null, .val (.int (0 : Int32))]) (by rcases hz7 with ⟨rfl, rfl⟩ | ⟨x, rfl, rfl⟩ | ⟨y, x, rfl, rfl⟩ <;> rfl) hr) ?_
      show OwnR _ _ _ _ _ _ _ (T4.setTop (mkF m 44 #[.val (.ref a1), .val (.int p2), .val (.long rank), .second, .val (.long seen), .second, .val (.int (Int32.ofNat mn)), .val .null, .val (.int (0 : Int32))] []))
      refine OwnR.of (fun _ hr => XS.aload X4.here hx rfl (hb hby d14_44) rfl rfl hr) ?_
      show OwnR _ _ _ _ _ _ _ (T4.setTop (mkF m 46 #[.val (.ref a1), .val (.int p2), .val (.long rank), .second, .val (.long seen), .second, .val (.int (Int32.ofNat mn)), .val .null, .val (.int (0 : Int32))] [.null]))
      refine OwnR.of (fun _ hr => XS.ifnullYes X4.here hx rfl (pc0 := 46) (pc' := 102) rfl (hb hby d14_46) rfl (by decide) (by decide) hr) ?_
      show OwnR _ _ _ _ _ _ _ (T4.setTop (mkF m 102 #[.val (.ref a1), .val (.int p2), .val (.long rank), .second, .val (.long seen), .second, .val (.int (Int32.ofNat mn)), .val .null, .val (.int (0 : Int32))] []))
      refine OwnR.of (fun _ hr => XS.iinc X4.here hx rfl (hb hby d14_102) rfl (l' := #[.val (.ref a1), .val (.int p2), .val (.long rank), .second, .val (.long seen), .second, .val (.int ((Int32.ofNat mn) + (1 : Int32))), .val .null, .val (.int (0 : Int32))]) rfl hr) ?_
      show OwnR _ _ _ _ _ _ _ (T4.setTop (mkF m 105 #[.val (.ref a1), .val (.int p2), .val (.long rank), .second, .val (.long seen), .second, .val (.int ((Int32.ofNat mn) + (1 : Int32))), .val .null, .val (.int (0 : Int32))] []))
      refine OwnR.of (fun _ hr => XS.goto X4.here hx rfl (pc0 := 105) (pc' := 22) rfl (hb hby d14_105) (by decide) (by decide) hr) ?_
      show OwnR _ _ _ _ _ _ _ (T4.setTop (mkF m 22 #[.val (.ref a1), .val (.int p2), .val (.long rank), .second, .val (.long seen), .second, .val (.int ((Int32.ofNat mn) + (1 : Int32))), .val .null, .val (.int (0 : Int32))] []))
      rw [own_succ]
      exact ih (mn + 1) _ _ _ _ (Or.inr (Or.inl ⟨_, rfl, rfl⟩)) (by omega) X4 e4 (own_inv_null I hz)
    · skip
      show OwnR _ _ _ _ _ _ _ (T.setTop (mkF m 22 #[.val (.ref a1), .val (.int p2), .val (.long rank), .second, .val (.long seen), .second, .val (.int (Int32.ofNat mn)), z7, z8] []))
      refine OwnR.of (fun _ hr => XS.iload X.here hx rfl (hb hby d14_22) rfl hr) ?_
      show OwnR _ _ _ _ _ _ _ (T.setTop (mkF m 24 #[.val (.ref a1), .val (.int p2), .val (.long rank), .second, .val (.long seen), .second, .val (.int (Int32.ofNat mn)), z7, z8] [(.int (Int32.ofNat mn))]))
      refine OwnR.of (fun _ hr => XS.aloadN X.here hx rfl (hb hby d14_24) rfl rfl hr) ?_
      show OwnR _ _ _ _ _ _ _ (T.setTop (mkF m 25 #[.val (.ref a1), .val (.int p2), .val (.long rank), .second, .val (.long seen), .second, .val (.int (Int32.ofNat mn)), z7, z8] [(.ref a1), (.int (Int32.ofNat mn))]))
      obtain ⟨T5, X5, e5, st5⟩ := getF X hx hZ hown (host := "") (Or.inl (hw _ (List.mem_of_getElem? (i := 27) rfl))) Via.refl eT F_counts_a1 (g := (mkF m 25 #[.val (.ref a1), .val (.int p2), .val (.long rank), .second, .val (.long seen), .second, .val (.int (Int32.ofNat mn)), z7, z8] [(.ref a1), (.int (Int32.ofNat mn))])) rfl rfl (hb hby d14_25)
      refine OwnR.of (st5) ?_
      show OwnR _ _ _ _ _ _ _ (T5.setTop (mkF m 28 #[.val (.ref a1), .val (.int p2), .val (.long rank), .second, .val (.long seen), .second, .val (.int (Int32.ofNat mn)), z7, z8] [(.ref A), (.int (Int32.ofNat mn))]))
      refine OwnR.of (own_alen X5 hx hZ e5 Hi.1 (z := (49 : Int32)) (by decide) (by decide) (g := (mkF m 28 #[.val (.ref a1), .val (.int p2), .val (.long rank), .second, .val (.long seen), .second, .val (.int (Int32.ofNat mn)), z7, z8] [(.ref A), (.int (Int32.ofNat mn))])) rfl rfl (hb hby d14_28)) ?_
      show OwnR _ _ _ _ _ _ _ (T5.setTop (mkF m 29 #[.val (.ref a1), .val (.int p2), .val (.long rank), .second, .val (.long seen), .second, .val (.int (Int32.ofNat mn)), z7, z8] [(.int (49 : Int32)), (.int (Int32.ofNat mn))]))
      refine OwnR.of (fun _ hr => XS.icmpNo X5.here hx rfl (hb hby d14_29) rfl (tlt hlt).2.1 hr) ?_
      show OwnR _ _ _ _ _ _ _ (T5.setTop (mkF m 32 #[.val (.ref a1), .val (.int p2), .val (.long rank), .second, .val (.long seen), .second, .val (.int (Int32.ofNat mn)), z7, z8] []))
      refine OwnR.of (fun _ hr => XS.aloadN X5.here hx rfl (hb hby d14_32) rfl rfl hr) ?_
      show OwnR _ _ _ _ _ _ _ (T5.setTop (mkF m 33 #[.val (.ref a1), .val (.int p2), .val (.long rank), .second, .val (.long seen), .second, .val (.int (Int32.ofNat mn)), z7, z8] [(.ref a1)]))
      obtain ⟨T6, X6, e6, st6⟩ := getF X5 hx hZ hown (host := "") (Or.inl (hw _ (List.mem_of_getElem? (i := 27) rfl))) Via.refl e5 F_counts_a1 (g := (mkF m 33 #[.val (.ref a1), .val (.int p2), .val (.long rank), .second, .val (.long seen), .second, .val (.int (Int32.ofNat mn)), z7, z8] [(.ref a1)])) rfl rfl (hb hby d14_33)
      refine OwnR.of (st6) ?_
      show OwnR _ _ _ _ _ _ _ (T6.setTop (mkF m 36 #[.val (.ref a1), .val (.int p2), .val (.long rank), .second, .val (.long seen), .second, .val (.int (Int32.ofNat mn)), z7, z8] [(.ref A)]))
      refine OwnR.of (fun _ hr => XS.iload X6.here hx rfl (hb hby d14_36) rfl hr) ?_
      show OwnR _ _ _ _ _ _ _ (T6.setTop (mkF m 38 #[.val (.ref a1), .val (.int p2), .val (.long rank), .second, .val (.long seen), .second, .val (.int (Int32.ofNat mn)), z7, z8] [(.int (Int32.ofNat mn)), (.ref A)]))
      refine OwnR.of (own_aaload rfl X6 hx hZ e6 Hi.1 (own_clamp hmb) (own_nneg hmb) hm49 (v := .ref b) hBr (g := (mkF m 38 #[.val (.ref a1), .val (.int p2), .val (.long rank), .second, .val (.long seen), .second, .val (.int (Int32.ofNat mn)), z7, z8] [(.int (Int32.ofNat mn)), (.ref A)])) rfl rfl (hb hby d14_38)) ?_
      show OwnR _ _ _ _ _ _ _ (T6.setTop (mkF m 39 #[.val (.ref a1), .val (.int p2), .val (.long rank), .second, .val (.long seen), .second, .val (.int (Int32.ofNat mn)), z7, z8] [(.ref b)]))
      refine OwnR.of (fun _ hr => XS.astore X6.here hx rfl (hb hby d14_39) rfl rfl (l' := #[.val (.ref a1), .val (.int p2), .val (.long rank), .second, .val (.long seen), .second, .val (.int (Int32.ofNat mn)), .val (.ref b), z8]) (by rcases hz7 with ⟨rfl, rfl⟩ | ⟨x, rfl, rfl⟩ | ⟨y, x, rfl, rfl⟩ <;> rfl) hr) ?_
      show OwnR _ _ _ _ _ _ _ (T6.setTop (mkF m 41 #[.val (.ref a1), .val (.int p2), .val (.long rank), .second, .val (.long seen), .second, .val (.int (Int32.ofNat mn)), .val (.ref b), z8] []))
      refine OwnR.of (fun _ hr => XS.iconst X6.here hx rfl (hb hby d14_41) hr) ?_
      show OwnR _ _ _ _ _ _ _ (T6.setTop (mkF m 42 #[.val (.ref a1), .val (.int p2), .val (.long rank), .second, .val (.long seen), .second, .val (.int (Int32.ofNat mn)), .val (.ref b), z8] [(.int (0 : Int32))]))
      refine OwnR.of (fun _ hr => XS.istore X6.here hx rfl (hb hby d14_42) rfl (l' := #[.val (.ref a1), .val (.int p2), .val (.long rank), .second, .val (.long seen), .second, .val (.int (Int32.ofNat mn)), .val (.ref b), .val (.int (0 : Int32))]) (by rcases hz7 with ⟨rfl, rfl⟩ | ⟨x, rfl, rfl⟩ | ⟨y, x, rfl, rfl⟩ <;> rfl) hr) ?_
      show OwnR _ _ _ _ _ _ _ (T6.setTop (mkF m 44 #[.val (.ref a1), .val (.int p2), .val (.long rank), .second, .val (.long seen), .second, .val (.int (Int32.ofNat mn)), .val (.ref b), .val (.int (0 : Int32))] []))
      suffices inner : ∀ (d2 i : Nat) (T2 : State) (seen2 : Int64), i + d2 = own_len mn → Stand p l e ({ frames := 0, cells := 0, slots := 0, locals := 0 } : Room) s m #[(.ref a1), (.int p2)] below meth c T2 [] 0 0 → T2.heap = h0 → own_inv B ks rank res mn i seen2 → OwnR p e below s (QPct Z res h0 n0) ({ frames := 0, cells := 0, slots := 0, locals := 0 } : Room).cells ({ frames := 0, cells := 0, slots := 0, locals := 0 } : Room).slots (T2.setTop (mkF m 44 #[.val (.ref a1), .val (.int p2), .val (.long rank), .second, .val (.long seen2), .second, .val (.int (Int32.ofNat mn)), .val (.ref b), .val (.int (Int32.ofNat i))] [])) by
        exact inner (own_len mn) 0 _ _ (Nat.zero_add _) X6 e6 I
      have hll := own_len_lt mn
      intro d2
      induction d2 with
      | zero =>
        intro i T2 seen2 hd2 X2 eT2 I2
        obtain rfl : i = own_len mn := hd2
        have hge : ¬ Int32.ofNat (own_len mn) < Int32.ofNat (own_len mn) := fun q => absurd ((own_ltn hll hll).mp q) (Nat.lt_irrefl _)
        show OwnR _ _ _ _ _ _ _ (T2.setTop (mkF m 44 #[.val (.ref a1), .val (.int p2), .val (.long rank), .second, .val (.long seen2), .second, .val (.int (Int32.ofNat mn)), .val (.ref b), .val (.int (Int32.ofNat (own_len mn)))] []))
        refine OwnR.of (fun _ hr => XS.aload X2.here hx rfl (hb hby d14_44) rfl rfl hr) ?_
        show OwnR _ _ _ _ _ _ _ (T2.setTop (mkF m 46 #[.val (.ref a1), .val (.int p2), .val (.long rank), .second, .val (.long seen2), .second, .val (.int (Int32.ofNat mn)), .val (.ref b), .val (.int (Int32.ofNat (own_len mn)))] [(.ref b)]))
        refine OwnR.of (fun _ hr => XS.ifnullNo X2.here hx rfl (hb hby d14_46) rfl hr) ?_
        show OwnR _ _ _ _ _ _ _ (T2.setTop (mkF m 49 #[.val (.ref a1), .val (.int p2), .val (.long rank), .second, .val (.long seen2), .second, .val (.int (Int32.ofNat mn)), .val (.ref b), .val (.int (Int32.ofNat (own_len mn)))] []))
        refine OwnR.of (fun _ hr => XS.iload X2.here hx rfl (hb hby d14_49) rfl hr) ?_
        show OwnR _ _ _ _ _ _ _ (T2.setTop (mkF m 51 #[.val (.ref a1), .val (.int p2), .val (.long rank), .second, .val (.long seen2), .second, .val (.int (Int32.ofNat mn)), .val (.ref b), .val (.int (Int32.ofNat (own_len mn)))] [(.int (Int32.ofNat (own_len mn)))]))
        refine OwnR.of (fun _ hr => XS.aload X2.here hx rfl (hb hby d14_51) rfl rfl hr) ?_
        show OwnR _ _ _ _ _ _ _ (T2.setTop (mkF m 53 #[.val (.ref a1), .val (.int p2), .val (.long rank), .second, .val (.long seen2), .second, .val (.int (Int32.ofNat mn)), .val (.ref b), .val (.int (Int32.ofNat (own_len mn)))] [(.ref b), (.int (Int32.ofNat (own_len mn)))]))
        refine OwnR.of (own_alen X2 hx hZ eT2 hF (z := (Int32.ofNat (own_len mn))) (own_clamp hll) (own_nneg hll) (g := (mkF m 53 #[.val (.ref a1), .val (.int p2), .val (.long rank), .second, .val (.long seen2), .second, .val (.int (Int32.ofNat mn)), .val (.ref b), .val (.int (Int32.ofNat (own_len mn)))] [(.ref b), (.int (Int32.ofNat (own_len mn)))])) rfl rfl (hb hby d14_53)) ?_
        show OwnR _ _ _ _ _ _ _ (T2.setTop (mkF m 54 #[.val (.ref a1), .val (.int p2), .val (.long rank), .second, .val (.long seen2), .second, .val (.int (Int32.ofNat mn)), .val (.ref b), .val (.int (Int32.ofNat (own_len mn)))] [(.int (Int32.ofNat (own_len mn))), (.int (Int32.ofNat (own_len mn)))]))
        refine OwnR.of (fun _ hr => XS.icmpYes X2.here hx rfl (pc0 := 54) (pc' := 102) rfl (hb hby d14_54) rfl (flt hge).2.1 (by decide) (by decide) hr) ?_
        show OwnR _ _ _ _ _ _ _ (T2.setTop (mkF m 102 #[.val (.ref a1), .val (.int p2), .val (.long rank), .second, .val (.long seen2), .second, .val (.int (Int32.ofNat mn)), .val (.ref b), .val (.int (Int32.ofNat (own_len mn)))] []))
        refine OwnR.of (fun _ hr => XS.iinc X2.here hx rfl (hb hby d14_102) rfl (l' := #[.val (.ref a1), .val (.int p2), .val (.long rank), .second, .val (.long seen2), .second, .val (.int ((Int32.ofNat mn) + (1 : Int32))), .val (.ref b), .val (.int (Int32.ofNat (own_len mn)))]) rfl hr) ?_
        show OwnR _ _ _ _ _ _ _ (T2.setTop (mkF m 105 #[.val (.ref a1), .val (.int p2), .val (.long rank), .second, .val (.long seen2), .second, .val (.int ((Int32.ofNat mn) + (1 : Int32))), .val (.ref b), .val (.int (Int32.ofNat (own_len mn)))] []))
        refine OwnR.of (fun _ hr => XS.goto X2.here hx rfl (pc0 := 105) (pc' := 22) rfl (hb hby d14_105) (by decide) (by decide) hr) ?_
        show OwnR _ _ _ _ _ _ _ (T2.setTop (mkF m 22 #[.val (.ref a1), .val (.int p2), .val (.long rank), .second, .val (.long seen2), .second, .val (.int ((Int32.ofNat mn) + (1 : Int32))), .val (.ref b), .val (.int (Int32.ofNat (own_len mn)))] []))
        rw [own_succ]
        exact ih (mn + 1) _ _ _ _ (Or.inr (Or.inr ⟨_, _, rfl, rfl⟩)) (by omega) X2 eT2 (own_inv_row I2)
      | succ d2 ih2 =>
        intro i T2 seen2 hd2 X2 eT2 I2
        have hil : i < own_len mn := by omega
        have hib : i < 2147483648 := by omega
        have hlt2 : Int32.ofNat i < Int32.ofNat (own_len mn) := (own_ltn hib hll).mpr hil
        show OwnR _ _ _ _ _ _ _ (T2.setTop (mkF m 44 #[.val (.ref a1), .val (.int p2), .val (.long rank), .second, .val (.long seen2), .second, .val (.int (Int32.ofNat mn)), .val (.ref b), .val (.int (Int32.ofNat i))] []))
        refine OwnR.of (fun _ hr => XS.aload X2.here hx rfl (hb hby d14_44) rfl rfl hr) ?_
        show OwnR _ _ _ _ _ _ _ (T2.setTop (mkF m 46 #[.val (.ref a1), .val (.int p2), .val (.long rank), .second, .val (.long seen2), .second, .val (.int (Int32.ofNat mn)), .val (.ref b), .val (.int (Int32.ofNat i))] [(.ref b)]))
        refine OwnR.of (fun _ hr => XS.ifnullNo X2.here hx rfl (hb hby d14_46) rfl hr) ?_
        show OwnR _ _ _ _ _ _ _ (T2.setTop (mkF m 49 #[.val (.ref a1), .val (.int p2), .val (.long rank), .second, .val (.long seen2), .second, .val (.int (Int32.ofNat mn)), .val (.ref b), .val (.int (Int32.ofNat i))] []))
        refine OwnR.of (fun _ hr => XS.iload X2.here hx rfl (hb hby d14_49) rfl hr) ?_
        show OwnR _ _ _ _ _ _ _ (T2.setTop (mkF m 51 #[.val (.ref a1), .val (.int p2), .val (.long rank), .second, .val (.long seen2), .second, .val (.int (Int32.ofNat mn)), .val (.ref b), .val (.int (Int32.ofNat i))] [(.int (Int32.ofNat i))]))
        refine OwnR.of (fun _ hr => XS.aload X2.here hx rfl (hb hby d14_51) rfl rfl hr) ?_
        show OwnR _ _ _ _ _ _ _ (T2.setTop (mkF m 53 #[.val (.ref a1), .val (.int p2), .val (.long rank), .second, .val (.long seen2), .second, .val (.int (Int32.ofNat mn)), .val (.ref b), .val (.int (Int32.ofNat i))] [(.ref b), (.int (Int32.ofNat i))]))
        refine OwnR.of (own_alen X2 hx hZ eT2 hF (z := (Int32.ofNat (own_len mn))) (own_clamp hll) (own_nneg hll) (g := (mkF m 53 #[.val (.ref a1), .val (.int p2), .val (.long rank), .second, .val (.long seen2), .second, .val (.int (Int32.ofNat mn)), .val (.ref b), .val (.int (Int32.ofNat i))] [(.ref b), (.int (Int32.ofNat i))])) rfl rfl (hb hby d14_53)) ?_
        show OwnR _ _ _ _ _ _ _ (T2.setTop (mkF m 54 #[.val (.ref a1), .val (.int p2), .val (.long rank), .second, .val (.long seen2), .second, .val (.int (Int32.ofNat mn)), .val (.ref b), .val (.int (Int32.ofNat i))] [(.int (Int32.ofNat (own_len mn))), (.int (Int32.ofNat i))]))
        refine OwnR.of (fun _ hr => XS.icmpNo X2.here hx rfl (hb hby d14_54) rfl (tlt hlt2).2.1 hr) ?_
        show OwnR _ _ _ _ _ _ _ (T2.setTop (mkF m 57 #[.val (.ref a1), .val (.int p2), .val (.long rank), .second, .val (.long seen2), .second, .val (.int (Int32.ofNat mn)), .val (.ref b), .val (.int (Int32.ofNat i))] []))
        refine OwnR.of (fun _ hr => XS.lload X2.here hx rfl (hb hby d14_57) rfl hr) ?_
        show OwnR _ _ _ _ _ _ _ (T2.setTop (mkF m 59 #[.val (.ref a1), .val (.int p2), .val (.long rank), .second, .val (.long seen2), .second, .val (.int (Int32.ofNat mn)), .val (.ref b), .val (.int (Int32.ofNat i))] [(.long seen2)]))
        refine OwnR.of (fun _ hr => XS.aload X2.here hx rfl (hb hby d14_59) rfl rfl hr) ?_
        show OwnR _ _ _ _ _ _ _ (T2.setTop (mkF m 61 #[.val (.ref a1), .val (.int p2), .val (.long rank), .second, .val (.long seen2), .second, .val (.int (Int32.ofNat mn)), .val (.ref b), .val (.int (Int32.ofNat i))] [(.ref b), (.long seen2)]))
        refine OwnR.of (fun _ hr => XS.iload X2.here hx rfl (hb hby d14_61) rfl hr) ?_
        show OwnR _ _ _ _ _ _ _ (T2.setTop (mkF m 63 #[.val (.ref a1), .val (.int p2), .val (.long rank), .second, .val (.long seen2), .second, .val (.int (Int32.ofNat mn)), .val (.ref b), .val (.int (Int32.ofNat i))] [(.int (Int32.ofNat i)), (.ref b), (.long seen2)]))
        refine OwnR.of (own_laload X2 hx hZ eT2 hF (own_clamp hib) (own_nneg hib) hil (v := .long (own_g ks mn i)) rfl (g := (mkF m 63 #[.val (.ref a1), .val (.int p2), .val (.long rank), .second, .val (.long seen2), .second, .val (.int (Int32.ofNat mn)), .val (.ref b), .val (.int (Int32.ofNat i))] [(.int (Int32.ofNat i)), (.ref b), (.long seen2)])) rfl rfl (hb hby d14_63)) ?_
        show OwnR _ _ _ _ _ _ _ (T2.setTop (mkF m 64 #[.val (.ref a1), .val (.int p2), .val (.long rank), .second, .val (.long seen2), .second, .val (.int (Int32.ofNat mn)), .val (.ref b), .val (.int (Int32.ofNat i))] [(.long (own_g ks mn i)), (.long seen2)]))
        refine OwnR.of (fun _ hr => XS.ladd X2.here hx rfl (hb hby d14_64) rfl hr) ?_
        show OwnR _ _ _ _ _ _ _ (T2.setTop (mkF m 65 #[.val (.ref a1), .val (.int p2), .val (.long rank), .second, .val (.long seen2), .second, .val (.int (Int32.ofNat mn)), .val (.ref b), .val (.int (Int32.ofNat i))] [(.long (seen2 + (own_g ks mn i)))]))
        refine OwnR.of (fun _ hr => XS.lstore X2.here hx rfl (hb hby d14_65) rfl (l' := #[.val (.ref a1), .val (.int p2), .val (.long rank), .second, .val (.long (seen2 + (own_g ks mn i))), .second, .val (.int (Int32.ofNat mn)), .val (.ref b), .val (.int (Int32.ofNat i))]) rfl hr) ?_
        show OwnR _ _ _ _ _ _ _ (T2.setTop (mkF m 67 #[.val (.ref a1), .val (.int p2), .val (.long rank), .second, .val (.long (seen2 + (own_g ks mn i))), .second, .val (.int (Int32.ofNat mn)), .val (.ref b), .val (.int (Int32.ofNat i))] []))
        refine OwnR.of (fun _ hr => XS.lload X2.here hx rfl (hb hby d14_67) rfl hr) ?_
        show OwnR _ _ _ _ _ _ _ (T2.setTop (mkF m 69 #[.val (.ref a1), .val (.int p2), .val (.long rank), .second, .val (.long (seen2 + (own_g ks mn i))), .second, .val (.int (Int32.ofNat mn)), .val (.ref b), .val (.int (Int32.ofNat i))] [(.long (seen2 + (own_g ks mn i)))]))
        refine OwnR.of (fun _ hr => XS.lloadN X2.here hx rfl (hb hby d14_69) rfl hr) ?_
        show OwnR _ _ _ _ _ _ _ (T2.setTop (mkF m 70 #[.val (.ref a1), .val (.int p2), .val (.long rank), .second, .val (.long (seen2 + (own_g ks mn i))), .second, .val (.int (Int32.ofNat mn)), .val (.ref b), .val (.int (Int32.ofNat i))] [(.long rank), (.long (seen2 + (own_g ks mn i)))]))
        refine OwnR.of (fun _ hr => XS.lcmp X2.here hx rfl (hb hby d14_70) rfl hr) ?_
        show OwnR _ _ _ _ _ _ _ (T2.setTop (mkF m 71 #[.val (.ref a1), .val (.int p2), .val (.long rank), .second, .val (.long (seen2 + (own_g ks mn i))), .second, .val (.int (Int32.ofNat mn)), .val (.ref b), .val (.int (Int32.ofNat i))] [(.int (lcmpW (seen2 + (own_g ks mn i)) rank))]))
        by_cases hc71_7 : (seen2 + (own_g ks mn i)) < rank
        · skip
          refine OwnR.of (fun _ hr => XS.ifYes X2.here hx rfl (pc0 := 71) (pc' := 96) rfl (hb hby d14_71) rfl ((if0 _ _).trans (tlt ((own_lclt _ _).mpr hc71_7)).1) (by decide) (by decide) hr) ?_
          show OwnR _ _ _ _ _ _ _ (T2.setTop (mkF m 96 #[.val (.ref a1), .val (.int p2), .val (.long rank), .second, .val (.long (seen2 + (own_g ks mn i))), .second, .val (.int (Int32.ofNat mn)), .val (.ref b), .val (.int (Int32.ofNat i))] []))
          refine OwnR.of (fun _ hr => XS.iinc X2.here hx rfl (hb hby d14_96) rfl (l' := #[.val (.ref a1), .val (.int p2), .val (.long rank), .second, .val (.long (seen2 + (own_g ks mn i))), .second, .val (.int (Int32.ofNat mn)), .val (.ref b), .val (.int ((Int32.ofNat i) + (1 : Int32)))]) rfl hr) ?_
          show OwnR _ _ _ _ _ _ _ (T2.setTop (mkF m 99 #[.val (.ref a1), .val (.int p2), .val (.long rank), .second, .val (.long (seen2 + (own_g ks mn i))), .second, .val (.int (Int32.ofNat mn)), .val (.ref b), .val (.int ((Int32.ofNat i) + (1 : Int32)))] []))
          refine OwnR.of (fun _ hr => XS.goto X2.here hx rfl (pc0 := 99) (pc' := 44) rfl (hb hby d14_99) (by decide) (by decide) hr) ?_
          show OwnR _ _ _ _ _ _ _ (T2.setTop (mkF m 44 #[.val (.ref a1), .val (.int p2), .val (.long rank), .second, .val (.long (seen2 + (own_g ks mn i))), .second, .val (.int (Int32.ofNat mn)), .val (.ref b), .val (.int ((Int32.ofNat i) + (1 : Int32)))] []))
          rw [own_succ]
          exact ih2 (i + 1) _ _ (by omega) X2 eT2 (own_inv_next I2 hc71_7)
        · skip
          refine OwnR.of (fun _ hr => XS.ifNo X2.here hx rfl (hb hby d14_71) rfl ((if0 _ _).trans (flt ((not_congr (own_lclt _ _)).mpr hc71_7)).1) hr) ?_
          show OwnR _ _ _ _ _ _ _ (T2.setTop (mkF m 74 #[.val (.ref a1), .val (.int p2), .val (.long rank), .second, .val (.long (seen2 + (own_g ks mn i))), .second, .val (.int (Int32.ofNat mn)), .val (.ref b), .val (.int (Int32.ofNat i))] []))
          refine OwnR.of (fun _ hr => XS.iload X2.here hx rfl (hb hby d14_74) rfl hr) ?_
          show OwnR _ _ _ _ _ _ _ (T2.setTop (mkF m 76 #[.val (.ref a1), .val (.int p2), .val (.long rank), .second, .val (.long (seen2 + (own_g ks mn i))), .second, .val (.int (Int32.ofNat mn)), .val (.ref b), .val (.int (Int32.ofNat i))] [(.int (Int32.ofNat mn))]))
          by_cases hc76_8 : (Int32.ofNat mn) = (0 : Int32)
          · skip
            refine OwnR.of (fun _ hr => XS.ifNo X2.here hx rfl (hb hby d14_76) rfl ((if0 _ _).trans (teq hc76_8).2) hr) ?_
            show OwnR _ _ _ _ _ _ _ (T2.setTop (mkF m 79 #[.val (.ref a1), .val (.int p2), .val (.long rank), .second, .val (.long (seen2 + (own_g ks mn i))), .second, .val (.int (Int32.ofNat mn)), .val (.ref b), .val (.int (Int32.ofNat i))] []))
            refine OwnR.of (fun _ hr => XS.iload X2.here hx rfl (hb hby d14_79) rfl hr) ?_
            show OwnR _ _ _ _ _ _ _ (T2.setTop (mkF m 81 #[.val (.ref a1), .val (.int p2), .val (.long rank), .second, .val (.long (seen2 + (own_g ks mn i))), .second, .val (.int (Int32.ofNat mn)), .val (.ref b), .val (.int (Int32.ofNat i))] [(.int (Int32.ofNat i))]))
            refine OwnR.of (fun _ hr => XS.i2l X2.here hx rfl (hb hby d14_81) rfl hr) ?_
            show OwnR _ _ _ _ _ _ _ (T2.setTop (mkF m 82 #[.val (.ref a1), .val (.int p2), .val (.long rank), .second, .val (.long (seen2 + (own_g ks mn i))), .second, .val (.int (Int32.ofNat mn)), .val (.ref b), .val (.int (Int32.ofNat i))] [(.long ((Int32.ofNat i).toInt64))]))
            refine OwnR.of (fun _ hr => XS.goto X2.here hx rfl (pc0 := 82) (pc' := 95) rfl (hb hby d14_82) (by decide) (by decide) hr) ?_
            show OwnR _ _ _ _ _ _ _ (T2.setTop (mkF m 95 #[.val (.ref a1), .val (.int p2), .val (.long rank), .second, .val (.long (seen2 + (own_g ks mn i))), .second, .val (.int (Int32.ofNat mn)), .val (.ref b), .val (.int (Int32.ofNat i))] [(.long ((Int32.ofNat i).toInt64))]))
            refine own_leafJ X2 hx hlk Bd.returns (hb hby d14_95) (by decide) (by decide) ?_
            show QPct Z res h0 n0 _ T2.heap _
            rw [show T2.heap = h0 from eT2]
            refine ⟨?_, N0, rfl⟩
            show (some (.long ((Int32.ofNat i).toInt64)) : Option Value) = some (.long res)
            rw [own_inv_found I2 hBr hc71_7]
            simp only [own_val, if_pos hlt, if_pos hlt2, if_neg hc71_7, if_pos hc76_8]
          · skip
            refine OwnR.of (fun _ hr => XS.ifYes X2.here hx rfl (pc0 := 76) (pc' := 85) rfl (hb hby d14_76) rfl ((if0 _ _).trans (feq hc76_8).2) (by decide) (by decide) hr) ?_
            show OwnR _ _ _ _ _ _ _ (T2.setTop (mkF m 85 #[.val (.ref a1), .val (.int p2), .val (.long rank), .second, .val (.long (seen2 + (own_g ks mn i))), .second, .val (.int (Int32.ofNat mn)), .val (.ref b), .val (.int (Int32.ofNat i))] []))
            refine OwnR.of (fun _ hr => XS.iload X2.here hx rfl (hb hby d14_85) rfl hr) ?_
            show OwnR _ _ _ _ _ _ _ (T2.setTop (mkF m 87 #[.val (.ref a1), .val (.int p2), .val (.long rank), .second, .val (.long (seen2 + (own_g ks mn i))), .second, .val (.int (Int32.ofNat mn)), .val (.ref b), .val (.int (Int32.ofNat i))] [(.int (Int32.ofNat i))]))
            obtain ⟨T9, X9, e9, st9⟩ := getS2 X2 hx hZ hown (host := "") (Or.inl (hw _ (List.mem_of_getElem? (i := 59) rfl))) Via.refl eT2 S_HALF (g := (mkF m 87 #[.val (.ref a1), .val (.int p2), .val (.long rank), .second, .val (.long (seen2 + (own_g ks mn i))), .second, .val (.int (Int32.ofNat mn)), .val (.ref b), .val (.int (Int32.ofNat i))] [(.int (Int32.ofNat i))])) rfl (hb hby d14_87)
            refine OwnR.of (st9) ?_
            show OwnR _ _ _ _ _ _ _ (T9.setTop (mkF m 90 #[.val (.ref a1), .val (.int p2), .val (.long rank), .second, .val (.long (seen2 + (own_g ks mn i))), .second, .val (.int (Int32.ofNat mn)), .val (.ref b), .val (.int (Int32.ofNat i))] [(.int (32768 : Int32)), (.int (Int32.ofNat i))]))
            refine OwnR.of (fun _ hr => XS.iadd X9.here hx rfl (hb hby d14_90) rfl hr) ?_
            show OwnR _ _ _ _ _ _ _ (T9.setTop (mkF m 91 #[.val (.ref a1), .val (.int p2), .val (.long rank), .second, .val (.long (seen2 + (own_g ks mn i))), .second, .val (.int (Int32.ofNat mn)), .val (.ref b), .val (.int (Int32.ofNat i))] [(.int ((Int32.ofNat i) + (32768 : Int32)))]))
            refine OwnR.of (fun _ hr => XS.i2l X9.here hx rfl (hb hby d14_91) rfl hr) ?_
            show OwnR _ _ _ _ _ _ _ (T9.setTop (mkF m 92 #[.val (.ref a1), .val (.int p2), .val (.long rank), .second, .val (.long (seen2 + (own_g ks mn i))), .second, .val (.int (Int32.ofNat mn)), .val (.ref b), .val (.int (Int32.ofNat i))] [(.long (((Int32.ofNat i) + (32768 : Int32)).toInt64))]))
            refine OwnR.of (fun _ hr => XS.iload X9.here hx rfl (hb hby d14_92) rfl hr) ?_
            show OwnR _ _ _ _ _ _ _ (T9.setTop (mkF m 94 #[.val (.ref a1), .val (.int p2), .val (.long rank), .second, .val (.long (seen2 + (own_g ks mn i))), .second, .val (.int (Int32.ofNat mn)), .val (.ref b), .val (.int (Int32.ofNat i))] [(.int (Int32.ofNat mn)), (.long (((Int32.ofNat i) + (32768 : Int32)).toInt64))]))
            refine OwnR.of (fun _ hr => XS.lshl X9.here hx rfl (hb hby d14_94) rfl hr) ?_
            show OwnR _ _ _ _ _ _ _ (T9.setTop (mkF m 95 #[.val (.ref a1), .val (.int p2), .val (.long rank), .second, .val (.long (seen2 + (own_g ks mn i))), .second, .val (.int (Int32.ofNat mn)), .val (.ref b), .val (.int (Int32.ofNat i))] [(.long ((((Int32.ofNat i) + (32768 : Int32)).toInt64) <<< ((Int32.ofNat mn) &&& 0x3f).toInt64))]))
            refine own_leafJ X9 hx hlk Bd.returns (hb hby d14_95) (by decide) (by decide) ?_
            show QPct Z res h0 n0 _ T9.heap _
            rw [show T9.heap = h0 from e9]
            refine ⟨?_, N0, rfl⟩
            show (some (.long ((((Int32.ofNat i) + (32768 : Int32)).toInt64) <<< ((Int32.ofNat mn) &&& 0x3f).toInt64)) : Option Value) = some (.long res)
            rw [own_inv_found I2 hBr hc71_7]
            simp only [own_val, if_pos hlt, if_pos hlt2, if_neg hc71_7, if_neg hc76_8]
def own_V (m j : Nat) : Nat := if m = 0 then j else (j + 32768) * 2 ^ m
def own_e2 (p : Int32) (x y : Int64) : Int64 := if (100 : Int32) < (2 : Int32) * p then own_max x y else own_min x y
def own_lo (x y z : Int64) : Int64 := own_min (own_min x y) z
def own_hi (x y z : Int64) : Int64 := own_max (own_max x y) z
def own_mid (x y z : Int64) : Int64 := own_max (own_min x y) (own_min (own_max x y) z)
def own_e3 (p : Int32) (x y z : Int64) : Int64 := if (100 : Int32) < (3 : Int32) * p then (if (200 : Int32) < (3 : Int32) * p then own_hi x y z else own_mid x y z) else own_lo x y z
/-- what one sample adds: its key, and the value of its bucket -/
def own_key (s : Int64) (m j : Nat) : Prop := m ≤ 38 ∧ j < own_len m ∧ (own_floor s).toInt = own_V m j

def own_tn (x : Int64) : Nat := x.toBitVec.toNat
theorem own_tn_lt (x : Int64) : own_tn x < 2 ^ 64 := x.toBitVec.isLt
theorem own_tn_inj {x y : Int64} (h : own_tn x = own_tn y) : x = y := Int64.toBitVec_inj.mp (BitVec.eq_of_toNat_eq h)
theorem own_tn_int {x : Int64} (h : own_tn x < 2 ^ 63) : x.toInt = own_tn x := by
  show x.toBitVec.toInt = _
  rw [BitVec.toInt_eq_toNat_of_lt (by unfold own_tn at h; omega)]; rfl
theorem own_tn_of {x : Int64} {n : Nat} (h : x.toInt = n) : own_tn x = n := by
  have b := own_tn_lt x
  by_cases q : own_tn x < 2 ^ 63
  · have e := own_tn_int q; omega
  · exfalso
    have e : x.toInt = (own_tn x : Int) - 2 ^ 64 := by
      show x.toBitVec.toInt = _
      rw [BitVec.toInt_eq_toNat_cond, if_neg (by unfold own_tn at q; omega)]; rfl
    omega
theorem own_tn_ofNat {n : Nat} (h : n < 2 ^ 64) : own_tn (Int64.ofNat n) = n := by
  show (BitVec.ofNat 64 n).toNat = n
  rw [BitVec.toNat_ofNat]; exact Nat.mod_eq_of_lt h
theorem own_tn_eq {x : Int64} : x = Int64.ofNat (own_tn x) := own_tn_inj (own_tn_ofNat (own_tn_lt x)).symm
theorem own_tn_and (x y : Int64) : own_tn (x &&& y) = own_tn x &&& own_tn y := by
  show (x &&& y).toBitVec.toNat = _
  rw [Int64.toBitVec_and, BitVec.toNat_and]; rfl
theorem own_tn_or (x y : Int64) : own_tn (x ||| y) = own_tn x ||| own_tn y := by
  show (x ||| y).toBitVec.toNat = _
  rw [Int64.toBitVec_or, BitVec.toNat_or]; rfl
theorem own_tn_add (x y : Int64) (h : own_tn x + own_tn y < 2 ^ 64) : own_tn (x + y) = own_tn x + own_tn y := by
  show (x + y).toBitVec.toNat = _
  rw [Int64.toBitVec_add, BitVec.toNat_add]; exact Nat.mod_eq_of_lt h
theorem own_tn_mul (x y : Int64) (h : own_tn x * own_tn y < 2 ^ 64) : own_tn (x * y) = own_tn x * own_tn y := by
  show (x * y).toBitVec.toNat = _
  rw [Int64.toBitVec_mul, BitVec.toNat_mul]; exact Nat.mod_eq_of_lt h
theorem own_tn_sub (x y : Int64) (h : own_tn y ≤ own_tn x) : own_tn (x - y) = own_tn x - own_tn y := by
  show (x - y).toBitVec.toNat = _
  rw [Int64.toBitVec_sub, BitVec.toNat_sub_of_le (BitVec.le_def.mpr h)]; rfl
theorem own_amt : ∀ m : Fin 39, ((Int32.ofNat m.val &&& 0x3f).toInt64.toBitVec.smod 64) = BitVec.ofNat 64 m.val := by decide +kernel
theorem own_tn_shl (x : Int64) {m : Nat} (hm : m ≤ 38) (h : own_tn x * 2 ^ m < 2 ^ 64) : own_tn (x <<< (Int32.ofNat m &&& 0x3f).toInt64) = own_tn x * 2 ^ m := by
  show (x <<< (Int32.ofNat m &&& 0x3f).toInt64).toBitVec.toNat = _
  rw [Int64.toBitVec_shiftLeft, own_amt ⟨m, by omega⟩]
  rw [BitVec.shiftLeft_eq', BitVec.toNat_shiftLeft, BitVec.toNat_ofNat, Nat.mod_eq_of_lt (a := m) (by omega), Nat.shiftLeft_eq]
  exact Nat.mod_eq_of_lt h
theorem own_tn_shr (x : Int64) {m : Nat} (hm : m ≤ 38) (h : own_tn x < 2 ^ 63) : own_tn (x >>> (Int32.ofNat m &&& 0x3f).toInt64) = own_tn x / 2 ^ m := by
  show (x >>> (Int32.ofNat m &&& 0x3f).toInt64).toBitVec.toNat = _
  rw [Int64.toBitVec_shiftRight, own_amt ⟨m, by omega⟩]
  have hs : x.toBitVec.msb = false := by rw [BitVec.msb_eq_decide]; simp only [decide_eq_false_iff_not]; unfold own_tn at h; omega
  rw [BitVec.sshiftRight_eq', BitVec.sshiftRight_eq_of_msb_false hs, BitVec.toNat_ushiftRight, BitVec.toNat_ofNat, Nat.mod_eq_of_lt (a := m) (by omega), Nat.shiftRight_eq_div_pow]; rfl
theorem own_tn_ushr (x : Int64) {k : Int32} {n : Nat} (h : ((k &&& 0x3f).toInt64.toUInt64.toBitVec % 64).toNat = n) : own_tn ((x.toUInt64 >>> (k &&& 0x3f).toInt64.toUInt64).toInt64) = own_tn x / 2 ^ n := by
  show (x.toUInt64 >>> (k &&& 0x3f).toInt64.toUInt64).toBitVec.toNat = _
  rw [UInt64.toBitVec_shiftRight, BitVec.ushiftRight_eq', BitVec.toNat_ushiftRight, h, Nat.shiftRight_eq_div_pow]; rfl
theorem own_mag_d : ∀ u : Fin 64, ((Int64.ofNat u.val).toInt32) % 39 = Int32.ofNat (u.val % 39) := by decide +kernel
theorem own_low6 (s : Int64) : (s &&& 63) = Int64.ofNat (own_tn s % 64) := own_tn_inj (by
  rw [own_tn_and, own_tn_ofNat (by omega)]
  exact Nat.and_two_pow_sub_one_eq_mod _ 6)
theorem own_mag_s (s : Int64) : own_mag s = Int32.ofNat (own_tn s % 64 % 39) := by
  unfold own_mag
  rw [own_low6]
  exact own_mag_d ⟨own_tn s % 64, Nat.mod_lt _ (by decide)⟩
theorem own_v16_s (s : Int64) : own_tn (own_v16 s) = own_tn s / 64 % 65536 := by
  unfold own_v16
  rw [own_tn_and, own_tn_ushr s (n := 6) (by decide)]
  exact Nat.and_two_pow_sub_one_eq_mod _ 16
theorem own_rest_d : ∀ x : Fin 1024, (Int64.ofNat x.val - (Int64.ofNat x.val / 1000) * 1000) = Int64.ofNat (x.val % 1000) := by decide +kernel
theorem own_rest_s (s : Int64) : own_tn (own_rest s) < 1000 := by
  have e : ((((s.toUInt64 >>> ((22 : Int32) &&& 0x3f).toInt64.toUInt64).toInt64) &&& 1023)) = Int64.ofNat (own_tn s / 2 ^ 22 % 1024) := own_tn_inj (by
    rw [own_tn_and, own_tn_ushr s (n := 22) (by decide), own_tn_ofNat (by omega)]
    exact Nat.and_two_pow_sub_one_eq_mod _ 10)
  unfold own_rest
  rw [e, own_rest_d ⟨own_tn s / 2 ^ 22 % 1024, Nat.mod_lt _ (by decide)⟩, own_tn_ofNat (by simp only; omega)]
  simp only; omega
theorem own_ofNat_eq {a b : Nat} (ha : a ≤ 38) (hb : b ≤ 38) : Int32.ofNat a = Int32.ofNat b ↔ a = b := by
  constructor
  · intro h
    have e := congrArg Int32.toInt h
    rw [Int32.toInt_ofNat_of_lt (by omega), Int32.toInt_ofNat_of_lt (by omega)] at e; omega
  · intro h; rw [h]
theorem own_high_s (s : Int64) {M : Nat} (hM : own_tn s % 64 % 39 = M) : (M = 0 → own_tn (own_high s) < 65536) ∧ (M ≠ 0 → 32768 ≤ own_tn (own_high s) ∧ own_tn (own_high s) < 65536) ∧ (M = 38 → own_tn (own_high s) < 32832) := by
  have hm : own_mag s = Int32.ofNat M := by rw [own_mag_s, hM]
  have hM' : M ≤ 38 := by omega
  have hv := own_v16_s s
  have hvb : own_tn (own_v16 s) < 65536 := by rw [hv]; exact Nat.mod_lt _ (by decide)
  have e0 : own_mag s = 0 ↔ M = 0 := by rw [hm]; exact own_ofNat_eq (b := 0) hM' (by decide)
  have e38 : own_mag s = 38 ↔ M = 38 := by rw [hm]; exact own_ofNat_eq (b := 38) hM' (by decide)
  unfold own_high
  by_cases q : M = 0
  · rw [if_pos (e0.mpr q)]
    exact ⟨fun _ => hvb, fun h => (h q).elim, fun h => by omega⟩
  · rw [if_neg (fun h => q (e0.mp h))]
    by_cases q2 : M = 38
    · rw [if_pos (e38.mpr q2)]
      have e : own_tn (32768 ||| (own_v16 s &&& 63)) = 32768 + own_tn (own_v16 s) % 64 := by
        rw [own_tn_or, own_tn_and]
        have a1 : own_tn (own_v16 s) &&& own_tn 63 = own_tn (own_v16 s) % 64 := Nat.and_two_pow_sub_one_eq_mod _ 6
        rw [a1]
        exact (Nat.two_pow_add_eq_or_of_lt (i := 15) (b := own_tn (own_v16 s) % 64) (by omega) 1).symm
      rw [e]
      exact ⟨fun h => (q h).elim, fun _ => by omega, fun _ => by omega⟩
    · rw [if_neg (fun h => q2 (e38.mp h))]
      have e : own_tn (32768 ||| own_v16 s) = 32768 ||| own_tn (own_v16 s) := own_tn_or _ _
      rw [e]
      have b1 : 32768 ≤ 32768 ||| own_tn (own_v16 s) := Nat.left_le_or
      have b2 : 32768 ||| own_tn (own_v16 s) < 2 ^ 16 := Nat.or_lt_two_pow (by decide) hvb
      exact ⟨fun h => (q h).elim, fun _ => by omega, fun h => (q2 h).elim⟩

theorem own_micros_s (s : Int64) {M : Nat} (hM : own_tn s % 64 % 39 = M) : ∃ low, low < 2 ^ M ∧ own_tn (own_high s <<< (own_mag s &&& 0x3f).toInt64) = own_tn (own_high s) * 2 ^ M ∧ own_tn (own_micros s) = own_tn (own_high s) * 2 ^ M + low ∧ own_tn (own_micros s) < 32832 * 2 ^ 38 := by
  have hm : own_mag s = Int32.ofNat M := by rw [own_mag_s, hM]
  have hM' : M ≤ 38 := by omega
  obtain ⟨b0, b1, b2⟩ := own_high_s s hM
  have bH : (own_tn (own_high s) + 1) * 2 ^ M ≤ 32832 * 2 ^ 38 := by
    by_cases q : M = 38
    · subst q; exact Nat.mul_le_mul (by have := b2 rfl; omega) (Nat.le_refl _)
    · have h1 : own_tn (own_high s) + 1 ≤ 65536 := by
        by_cases q0 : M = 0
        · have := b0 q0; omega
        · have := b1 q0; omega
      have h2 : 2 ^ M ≤ 2 ^ 37 := Nat.pow_le_pow_right (by decide) (by omega)
      exact Nat.le_trans (Nat.mul_le_mul h1 h2) (by decide)
  have hpos : 0 < 2 ^ M := Nat.two_pow_pos M
  have hP : 2 ^ M ≤ 2 ^ 38 := Nat.pow_le_pow_right (by decide) hM'
  have eH : own_tn (own_high s <<< (own_mag s &&& 0x3f).toInt64) = own_tn (own_high s) * 2 ^ M := by
    rw [hm]
    refine own_tn_shl _ hM' ?_
    rw [Nat.add_mul] at bH; omega
  have e1 : own_tn ((1 : Int64) <<< (own_mag s &&& 0x3f).toInt64) = 2 ^ M := by
    rw [hm, own_tn_shl _ hM' (by rw [show own_tn 1 = 1 from rfl]; omega), show own_tn 1 = 1 from rfl, Nat.one_mul]
  have e2 : own_tn (((1 : Int64) <<< (own_mag s &&& 0x3f).toInt64) - 1) = 2 ^ M - 1 := by
    rw [own_tn_sub _ _ (by rw [e1]; exact hpos), e1]; rfl
  have eL : own_tn ((((s.toUInt64 >>> ((26 : Int32) &&& 0x3f).toInt64.toUInt64).toInt64) &&& (((1 : Int64) <<< (own_mag s &&& 0x3f).toInt64) - 1))) = own_tn s / 2 ^ 26 % 2 ^ M := by
    rw [own_tn_and, e2, own_tn_ushr s (n := 26) (by decide), Nat.and_two_pow_sub_one_eq_mod]
  have hl : own_tn s / 2 ^ 26 % 2 ^ M < 2 ^ M := Nat.mod_lt _ hpos
  have eM : own_tn (own_micros s) = own_tn (own_high s) * 2 ^ M + own_tn s / 2 ^ 26 % 2 ^ M := by
    unfold own_micros
    rw [own_tn_or, eH, eL, Nat.mul_comm]
    exact (Nat.two_pow_add_eq_or_of_lt hl _).symm
  refine ⟨_, hl, eH, eM, ?_⟩
  rw [eM]; rw [Nat.add_mul] at bH; omega
theorem own_div1000 {x : Int64} {n : Nat} (h : own_tn x = n) (hb : n < 2 ^ 63) : own_tn (x / 1000) = n / 1000 := by
  apply own_tn_of
  rw [Int64.toInt_div_of_ne_right _ _ (by decide), own_tn_int (by omega), h, show (1000 : Int64).toInt = ((1000 : Nat) : Int) from rfl]
  rfl
theorem own_max0 {x : Int64} (h : own_tn x < 2 ^ 63) : own_max 0 x = x := by
  unfold own_max
  by_cases q : (0 : Int64) < x
  · rw [if_pos q]
  · rw [if_neg q]
    have e := own_tn_int h
    have l : ¬ (0 : Int64).toInt < x.toInt := fun w => q (Int64.lt_iff_toInt_lt.mpr w)
    rw [show (0 : Int64).toInt = 0 from rfl] at l
    apply own_tn_inj
    rw [show own_tn 0 = 0 from rfl]; omega
theorem own_neg (s : Int64) : own_max 0 (s ||| (-9223372036854775808)) = 0 := by
  unfold own_max
  rw [if_neg]
  intro q
  have l := Int64.lt_iff_toInt_lt.mp q
  rw [show (0 : Int64).toInt = 0 from rfl] at l
  have e : own_tn (s ||| (-9223372036854775808)) = own_tn s ||| 2 ^ 63 := own_tn_or _ _
  have b : 2 ^ 63 ≤ own_tn s ||| 2 ^ 63 := Nat.right_le_or
  have t := own_tn_of (x := s ||| (-9223372036854775808)) (n := (s ||| (-9223372036854775808)).toInt.toNat) (by omega)
  have b2 := Int64.toInt_lt (s ||| (-9223372036854775808))
  omega
/-- the microseconds that a sample adds -/
theorem own_mc_s (s : Int64) {M : Nat} (hM : own_tn s % 64 % 39 = M) (h63 : ¬ own_tn s % 64 = 63) : own_max 0 (own_nanos s) / 1000 = own_micros s := by
  obtain ⟨low, -, -, -, hb⟩ := own_micros_s s hM
  have hr := own_rest_s s
  have ne : ¬ (s &&& 63) = 63 := fun q => by
    rw [own_low6] at q
    have := congrArg own_tn q
    rw [own_tn_ofNat (by omega)] at this
    exact h63 this
  have e : own_nanos s = (own_micros s * 1000) + own_rest s := by unfold own_nanos; rw [if_neg ne]
  have e1 : own_tn (own_micros s * 1000) = own_tn (own_micros s) * 1000 := own_tn_mul _ _ (by rw [show own_tn 1000 = 1000 from rfl]; omega)
  have e2 : own_tn (own_nanos s) = own_tn (own_micros s) * 1000 + own_tn (own_rest s) := by
    rw [e, own_tn_add _ _ (by rw [e1]; omega), e1]
  rw [own_max0 (by rw [e2]; omega)]
  apply own_tn_inj
  rw [own_div1000 e2 (by omega)]; omega

def own_n32 (x : Int32) : Nat := x.toBitVec.toNat
theorem own_n32_int {x : Int32} (h : own_n32 x < 2 ^ 31) : x.toInt = own_n32 x := by
  show x.toBitVec.toInt = _
  rw [BitVec.toInt_eq_toNat_of_lt (by unfold own_n32 at h; omega)]; rfl
theorem own_n32_big {x : Int32} (h : ¬ own_n32 x < 2 ^ 31) : x.toInt = (own_n32 x : Int) - 2 ^ 32 := by
  show x.toBitVec.toInt = _
  rw [BitVec.toInt_eq_toNat_cond, if_neg (by unfold own_n32 at h; omega)]; rfl
theorem own_n32_lt (x : Int32) : own_n32 x < 2 ^ 32 := x.toBitVec.isLt
theorem own_u_s (x : Int32) {k : Int32} {n : Nat} (h : ((k &&& 31).toUInt32.toBitVec % 32).toNat = n) : own_n32 (own_u x k) = own_n32 x / 2 ^ n := by
  show (x.toUInt32 >>> (k &&& 31).toUInt32).toBitVec.toNat = _
  rw [UInt32.toBitVec_shiftRight, BitVec.ushiftRight_eq', BitVec.toNat_ushiftRight, h, Nat.shiftRight_eq_div_pow]; rfl
theorem own_to32 (q : Int64) : own_n32 q.toInt32 = own_tn q % 2 ^ 32 := by
  show q.toInt32.toBitVec.toNat = _
  rw [Int64.toBitVec_toInt32, BitVec.signExtend_eq_setWidth_of_le _ (by decide), BitVec.toNat_setWidth]; rfl
/-- where the count of leading zeros stands -/
def own_P (k j : Nat) (y n : Int32) : Prop := own_n32 y < 2 ^ 31 ∧ 2 ^ j ≤ own_n32 y ∧ own_n32 y < 2 ^ (j + 1) ∧ n.toInt = 31 - k + j
theorem own_stp {k j K : Nat} {y n T s d : Int32} (P : own_P k j y n) (hk : k ≤ 30) (hj : j ≤ k) (hK : K ≤ 16) (hT : T.toInt = ((2 ^ K : Nat) : Int)) (hs : ((s &&& 31).toUInt32.toBitVec % 32).toNat = K) (hd : d.toInt = -K) (h2 : j < 2 * K) :
    ∃ j', own_P k j' (if y < T then y else own_u y s) (if y < T then n else n + d) ∧ j' < K ∧ j' ≤ k := by
  obtain ⟨p1, p2, p3, p4⟩ := P
  have ey := own_n32_int p1
  by_cases q : y < T
  · rw [if_pos q, if_pos q]
    have l := Int32.lt_iff_toInt_lt.mp q
    rw [ey, hT] at l
    have l' : 2 ^ j < 2 ^ K := Nat.lt_of_le_of_lt p2 (Int.ofNat_lt.mp l)
    exact ⟨j, ⟨p1, p2, p3, p4⟩, (Nat.pow_lt_pow_iff_right (by decide)).mp l', hj⟩
  · rw [if_neg q, if_neg q]
    have l : ¬ y.toInt < T.toInt := fun w => q (Int32.lt_iff_toInt_lt.mpr w)
    rw [ey, hT] at l
    have l0 : 2 ^ K ≤ own_n32 y := Nat.le_of_not_lt fun w => l (Int.ofNat_lt.mpr w)
    have l' : 2 ^ K < 2 ^ (j + 1) := Nat.lt_of_le_of_lt l0 p3
    have kj : K < j + 1 := (Nat.pow_lt_pow_iff_right (by decide)).mp l'
    have hu := own_u_s y hs
    have e1 : 2 ^ j = 2 ^ (j - K) * 2 ^ K := by rw [← Nat.pow_add]; congr 1; omega
    have e2 : 2 ^ (j + 1) = 2 ^ (j - K + 1) * 2 ^ K := by rw [← Nat.pow_add]; congr 1; omega
    have pK : 0 < 2 ^ K := Nat.two_pow_pos K
    refine ⟨j - K, ⟨?_, ?_, ?_, ?_⟩, by omega, by omega⟩
    · rw [hu]; exact Nat.lt_of_le_of_lt (Nat.div_le_self _ _) p1
    · rw [hu]; exact (Nat.le_div_iff_mul_le pK).mpr (by rw [← e1]; exact p2)
    · rw [hu]; exact (Nat.div_lt_iff_lt_mul pK).mpr (by rw [← e2]; exact p3)
    · rw [Int32.toInt_add, p4, hd, Int.bmod_eq_of_le (by omega) (by omega)]; omega
theorem own_nlp_s {x : Int32} {k : Nat} (hk : k ≤ 30) (h1 : 2 ^ k ≤ own_n32 x) (h2 : own_n32 x < 2 ^ (k + 1)) : (own_nlp x).toInt = 31 - k := by
  have hb : own_n32 x < 2 ^ 31 := Nat.lt_of_lt_of_le h2 (Nat.pow_le_pow_right (by decide) (by omega))
  have P0 : own_P k k x 31 := ⟨hb, h1, h2, by rw [show (31 : Int32).toInt = 31 from rfl]; omega⟩
  obtain ⟨j1, P1, b1, c1⟩ := own_stp (K := 16) (T := 65536) (s := 16) (d := -16) P0 hk (Nat.le_refl _) (by decide) rfl (by decide) (by decide) (by omega)
  obtain ⟨j2, P2, b2, c2⟩ := own_stp (K := 8) (T := 256) (s := 8) (d := -8) P1 hk c1 (by decide) rfl (by decide) (by decide) (by omega)
  obtain ⟨j3, P3, b3, c3⟩ := own_stp (K := 4) (T := 16) (s := 4) (d := -4) P2 hk c2 (by decide) rfl (by decide) (by decide) (by omega)
  obtain ⟨j4, P4, b4, c4⟩ := own_stp (K := 2) (T := 4) (s := 2) (d := -2) P3 hk c3 (by decide) rfl (by decide) (by decide) (by omega)
  have en : (if x < 65536 then (31 : Int32) else 31 + (-16)) = own_n1 x := by unfold own_n1; split <;> rfl
  rw [en] at P1 P2 P3 P4
  have P5 : own_P k j4 (own_y4 (own_y3 (own_y2 (own_y1 x)))) (own_n4 (own_y3 (own_y2 (own_y1 x))) (own_n3 (own_y2 (own_y1 x)) (own_n2 (own_y1 x) (own_n1 x)))) := P4
  unfold own_nlp
  generalize own_y4 (own_y3 (own_y2 (own_y1 x))) = y at P5 ⊢
  generalize own_n4 (own_y3 (own_y2 (own_y1 x))) (own_n3 (own_y2 (own_y1 x)) (own_n2 (own_y1 x) (own_n1 x))) = n at P5 ⊢
  obtain ⟨p1, p2, p3, p4⟩ := P5
  have hu := own_u_s y (k := 1) (n := 1) (by decide)
  have hj : own_n32 y / 2 ^ 1 = j4 := by
    have : j4 = 0 ∨ j4 = 1 := by omega
    rcases this with rfl | rfl <;> omega
  have e := own_n32_int (x := own_u y 1) (by rw [hu, hj]; omega)
  rw [hu, hj] at e
  rw [Int32.toInt_sub, p4, e, Int.bmod_eq_of_le (by omega) (by omega)]; omega
theorem own_nl_s {x : Int32} {k : Nat} (hk : k ≤ 31) (h1 : 2 ^ k ≤ own_n32 x) (h2 : own_n32 x < 2 ^ (k + 1)) : (own_nl x).toInt = 31 - k := by
  unfold own_nl
  have z0 : (0 : Int32).toInt = 0 := rfl
  by_cases q : k = 31
  · subst q
    have e := own_n32_big (x := x) (by omega)
    have b := own_n32_lt x
    rw [if_neg (fun w => by have := Int32.lt_iff_toInt_lt.mp w; omega), if_neg (fun w => by have := congrArg Int32.toInt w; rw [z0] at this; omega)]; rfl
  · have hb : own_n32 x < 2 ^ 31 := Nat.lt_of_lt_of_le h2 (Nat.pow_le_pow_right (by decide) (by omega))
    have e := own_n32_int hb
    have p : 0 < 2 ^ k := Nat.two_pow_pos k
    rw [if_pos (Int32.lt_iff_toInt_lt.mpr (by omega))]
    exact own_nlp_s (by omega) h1 h2
theorem own_nlL_s {q : Int64} {k : Nat} (hk : k ≤ 62) (h1 : 2 ^ k ≤ own_tn q) (h2 : own_tn q < 2 ^ (k + 1)) : (own_nlL q).toInt = 63 - k := by
  have hu : own_n32 (((q.toUInt64 >>> ((32 : Int32) &&& 0x3f).toInt64.toUInt64).toInt64).toInt32) = own_tn q / 2 ^ 32 % 2 ^ 32 := by rw [own_to32, own_tn_ushr q (n := 32) (by decide)]
  have hb := own_tn_lt q
  have hm : own_tn q / 2 ^ 32 % 2 ^ 32 = own_tn q / 2 ^ 32 := Nat.mod_eq_of_lt (by omega)
  rw [hm] at hu
  unfold own_nlL
  by_cases c : k ≤ 31
  · have hs : own_tn q < 2 ^ 32 := Nat.lt_of_lt_of_le h2 (Nat.pow_le_pow_right (by decide) (by omega))
    have z : ((q.toUInt64 >>> ((32 : Int32) &&& 0x3f).toInt64.toUInt64).toInt64).toInt32 = 0 := by
      apply Int32.toInt_inj.mp
      rw [own_n32_int (by rw [hu]; omega), hu, show (0 : Int32).toInt = 0 from rfl]; omega
    rw [if_pos z]
    have el : own_n32 q.toInt32 = own_tn q := by rw [own_to32]; omega
    have e := own_nl_s (x := q.toInt32) c (by rw [el]; exact h1) (by rw [el]; exact h2)
    rw [Int32.toInt_add, e, show (32 : Int32).toInt = 32 from rfl, Int.bmod_eq_of_le (by omega) (by omega)]; omega
  · have e1 : 2 ^ k = 2 ^ (k - 32) * 2 ^ 32 := by rw [← Nat.pow_add]; congr 1; omega
    have e2 : 2 ^ (k + 1) = 2 ^ (k - 32 + 1) * 2 ^ 32 := by rw [← Nat.pow_add]; congr 1; omega
    have g1 : 2 ^ (k - 32) ≤ own_tn q / 2 ^ 32 := (Nat.le_div_iff_mul_le (by decide)).mpr (by rw [← e1]; exact h1)
    have g2 : own_tn q / 2 ^ 32 < 2 ^ (k - 32 + 1) := (Nat.div_lt_iff_lt_mul (by decide)).mpr (by rw [← e2]; exact h2)
    have p : 0 < 2 ^ (k - 32) := Nat.two_pow_pos _
    have hlt : own_tn q / 2 ^ 32 < 2 ^ 31 := Nat.lt_of_lt_of_le g2 (Nat.pow_le_pow_right (by decide) (by omega))
    have ei := own_n32_int (x := ((q.toUInt64 >>> ((32 : Int32) &&& 0x3f).toInt64.toUInt64).toInt64).toInt32) (by rw [hu]; exact hlt)
    rw [hu] at ei
    rw [if_neg (fun w => by have := congrArg Int32.toInt w; rw [show (0 : Int32).toInt = 0 from rfl] at this; omega)]
    rw [own_nl_s (k := k - 32) (by omega) (by rw [hu]; exact g1) (by rw [hu]; exact g2)]; omega
theorem own_nlL_0 : own_nlL 0 = 64 := by decide +kernel
theorem own_magn_s {q : Int64} {k : Nat} (hk : k ≤ 62) (h1 : 2 ^ k ≤ own_tn q) (h2 : own_tn q < 2 ^ (k + 1)) : own_magn q = Int32.ofNat (k - 15) := by
  have e := own_nlL_s hk h1 h2
  have e1 : ((64 - own_nlL q) - 16 : Int32).toInt = (k : Int) - 15 := by
    have a : (64 - own_nlL q : Int32).toInt = (k : Int) + 1 := by
      rw [Int32.toInt_sub, e, show (64 : Int32).toInt = 64 from rfl, Int.bmod_eq_of_le (by omega) (by omega)]; omega
    rw [Int32.toInt_sub, a, show (16 : Int32).toInt = 16 from rfl, Int.bmod_eq_of_le (by omega) (by omega)]; omega
  unfold own_magn own_imax
  have z0 : (0 : Int32).toInt = 0 := rfl
  apply Int32.toInt_inj.mp
  rw [Int32.toInt_ofNat_of_lt (by omega)]
  by_cases c : (0 : Int32) < (64 - own_nlL q) - 16
  · rw [if_pos c, e1]
    have := Int32.lt_iff_toInt_lt.mp c
    omega
  · rw [if_neg c]
    have : ¬ (0 : Int32).toInt < ((64 - own_nlL q) - 16 : Int32).toInt := fun w => c (Int32.lt_iff_toInt_lt.mpr w)
    omega
theorem own_magn_0 {q : Int64} (h : own_tn q < 65536) : own_magn q = 0 := by
  by_cases z : own_tn q = 0
  · have : q = 0 := own_tn_inj (by rw [z]; rfl)
    subst this; decide +kernel
  · have h1 := Nat.log2_self_le z
    have h2 := Nat.lt_log2_self (n := own_tn q)
    have h3 : Nat.log2 (own_tn q) < 16 := (Nat.log2_lt z).mpr h
    rw [own_magn_s (by omega) h1 h2, show Nat.log2 (own_tn q) - 15 = 0 by omega]; rfl

theorem own_samp (s : Int64) : ∃ (m j : Nat) (mc : Int64) (mI iI : Int32), own_key s m j ∧ own_max (0 : Int64) (own_nanos s) / (1000 : Int64) = mc ∧ own_magn mc = mI ∧ mI.toNatClampNeg = m ∧ ¬ mI < 0 ∧ m < 49 ∧ own_idx mc mI = iI ∧ iI.toNatClampNeg = j ∧ ¬ iI < 0 ∧ j < own_len m := by
  by_cases h63 : own_tn s % 64 = 63
  · have he : (s &&& 63) = 63 := by rw [own_low6, h63]; rfl
    have hn : own_nanos s = (s ||| (-9223372036854775808)) := by unfold own_nanos; rw [if_pos he]
    have hf : own_floor s = 0 := by unfold own_floor; rw [if_pos he]
    refine ⟨0, 0, 0, 0, 0, ⟨by decide, by decide, by rw [hf]; rfl⟩, ?_, by decide +kernel, by decide, by decide, by decide, by decide +kernel, by decide, by decide, by decide⟩
    rw [hn, own_neg]; rfl
  · have hne : ¬ (s &&& 63) = 63 := fun q => by
      rw [own_low6] at q
      have := congrArg own_tn q
      rw [own_tn_ofNat (by omega)] at this
      exact h63 this
    obtain ⟨M, hM⟩ : ∃ M, own_tn s % 64 % 39 = M := ⟨_, rfl⟩
    have hM' : M ≤ 38 := by omega
    have hmc := own_mc_s s hM h63
    obtain ⟨low, hl, eH, eM, bM⟩ := own_micros_s s hM
    obtain ⟨b0, b1, b2⟩ := own_high_s s hM
    have hf : own_floor s = (own_high s <<< (own_mag s &&& 0x3f).toInt64) := by unfold own_floor; rw [if_neg hne]
    have bmt : own_tn (own_micros s) < 2 ^ 63 := by omega
    have hfi : (own_floor s).toInt = ((own_tn (own_high s) * 2 ^ M : Nat) : Int) := by rw [hf, own_tn_int (by rw [eH]; omega), eH]
    by_cases q : M = 0
    · subst q
      have c0 := b0 rfl
      simp only [Nat.pow_zero, Nat.mul_one] at hl eM hfi
      have el : own_tn (own_micros s) = own_tn (own_high s) := by omega
      have e32 : own_n32 (own_micros s).toInt32 = own_tn (own_high s) := by rw [own_to32, el]; omega
      have ei : (own_micros s).toInt32 = Int32.ofNat (own_tn (own_high s)) := Int32.toInt_inj.mp (by rw [own_n32_int (by rw [e32]; omega), e32, own_ofn (by omega)])
      refine ⟨0, own_tn (own_high s), own_micros s, 0, (own_micros s).toInt32, ⟨by decide, c0, hfi⟩, hmc, own_magn_0 (by omega), by decide, by decide, by decide, rfl, ?_, ?_, c0⟩
      · rw [ei]; exact own_clamp (by omega)
      · rw [ei]; exact own_nneg (by omega)
    · obtain ⟨c1, c2⟩ := b1 q
      have pM : 0 < 2 ^ M := Nat.two_pow_pos M
      have g1 : 2 ^ (15 + M) ≤ own_tn (own_micros s) := by
        rw [eM, Nat.pow_add]
        exact Nat.le_trans (Nat.mul_le_mul c1 (Nat.le_refl _)) (Nat.le_add_right _ _)
      have g2 : own_tn (own_micros s) < 2 ^ (15 + M + 1) := by
        have e : 2 ^ (15 + M + 1) = 65536 * 2 ^ M := by rw [show 15 + M + 1 = 16 + M by omega, Nat.pow_add]
        have w : (own_tn (own_high s) + 1) * 2 ^ M ≤ 65536 * 2 ^ M := Nat.mul_le_mul (by omega) (Nat.le_refl _)
        rw [Nat.add_mul] at w
        rw [e, eM]; omega
      have em : own_magn (own_micros s) = Int32.ofNat M := by rw [own_magn_s (by omega) g1 g2, show 15 + M - 15 = M by omega]
      have ed : own_tn (own_micros s) / 2 ^ M = own_tn (own_high s) := by
        rw [eM, Nat.mul_comm, Nat.mul_add_div pM, Nat.div_eq_of_lt hl]; rfl
      have es : own_tn (own_micros s >>> (Int32.ofNat M &&& 0x3f).toInt64) = own_tn (own_high s) := by rw [own_tn_shr _ hM' bmt, ed]
      have e32 : own_n32 (own_micros s >>> (Int32.ofNat M &&& 0x3f).toInt64).toInt32 = own_tn (own_high s) := by rw [own_to32, es]; omega
      have hz : ¬ Int32.ofNat M = 0 := fun w => q ((own_ofNat_eq (b := 0) hM' (by decide)).mp w)
      have ei : own_idx (own_micros s) (Int32.ofNat M) = Int32.ofNat (own_tn (own_high s) - 32768) := by
        unfold own_idx
        rw [if_neg hz]
        apply Int32.toInt_inj.mp
        rw [own_ofn (by omega), Int32.toInt_sub, own_n32_int (by rw [e32]; omega), e32, show (32768 : Int32).toInt = 32768 from rfl, Int.bmod_eq_of_le (by omega) (by omega)]; omega
      have hlen : own_len M = 32768 := by unfold own_len; rw [if_neg q]
      refine ⟨M, own_tn (own_high s) - 32768, own_micros s, Int32.ofNat M, Int32.ofNat (own_tn (own_high s) - 32768), ⟨hM', by rw [hlen]; omega, ?_⟩, hmc, em, own_clamp (by omega), own_nneg (by omega), by omega, ei, own_clamp (by omega), own_nneg (by omega), by rw [hlen]; omega⟩
      rw [hfi]; unfold own_V; rw [if_neg q, show own_tn (own_high s) - 32768 + 32768 = own_tn (own_high s) by omega]
theorem own_four (x : Int32) : x &&& 3 = 0 ∨ x &&& 3 = 1 ∨ x &&& 3 = 2 ∨ x &&& 3 = 3 := by
  have e : own_n32 (x &&& 3) = own_n32 x % 4 := by
    show (x &&& 3).toBitVec.toNat = _
    rw [Int32.toBitVec_and, BitVec.toNat_and]
    exact Nat.and_two_pow_sub_one_eq_mod _ 2
  have i : ∀ {y : Int32}, own_n32 (x &&& 3) = own_n32 y → x &&& 3 = y := fun h => Int32.toBitVec_inj.mp (BitVec.eq_of_toNat_eq h)
  have b : own_n32 x % 4 = 0 ∨ own_n32 x % 4 = 1 ∨ own_n32 x % 4 = 2 ∨ own_n32 x % 4 = 3 := by omega
  rcases b with b | b | b | b
  · exact Or.inl (i (by rw [e, b]; rfl))
  · exact Or.inr (Or.inl (i (by rw [e, b]; rfl)))
  · exact Or.inr (Or.inr (Or.inl (i (by rw [e, b]; rfl))))
  · exact Or.inr (Or.inr (Or.inr (i (by rw [e, b]; rfl))))
theorem own_pp (x : Int32) : 1 ≤ ((x &&& 2147483647) % 100 + 1).toInt ∧ ((x &&& 2147483647) % 100 + 1).toInt ≤ 100 := by
  have h := own_mod x 100 (by decide)
  rw [show (100 : Int32).toInt = 100 from rfl] at h
  rw [Int32.toInt_add, show (1 : Int32).toInt = 1 from rfl, Int.bmod_eq_of_le (by omega) (by omega)]; omega
theorem own_V_lt {m j m' j' : Nat} (h : j < own_len m) (q : m < m' ∨ (m = m' ∧ j < j')) : own_V m j < own_V m' j' := by
  unfold own_V
  rcases q with q | ⟨rfl, q⟩
  · have hm' : ¬ m' = 0 := by omega
    rw [if_neg hm']
    have b : 32768 * 2 ^ m' ≤ (j' + 32768) * 2 ^ m' := Nat.mul_le_mul (by omega) (Nat.le_refl _)
    have p : 2 ^ (m + 1) ≤ 2 ^ m' := Nat.pow_le_pow_right (by decide) q
    rw [Nat.pow_succ] at p
    unfold own_len at h
    by_cases e : m = 0
    · subst e; simp only [if_true] at h ⊢; simp only [Nat.pow_zero] at p; omega
    · rw [if_neg e] at h ⊢
      have w : (j + 32768 + 1) * 2 ^ m ≤ 65536 * 2 ^ m := Nat.mul_le_mul (by omega) (Nat.le_refl _)
      have pm : 0 < 2 ^ m := Nat.two_pow_pos m
      rw [Nat.add_mul _ 1] at w
      omega
  · by_cases e : m = 0
    · rw [if_pos e, if_pos e]; exact q
    · rw [if_neg e, if_neg e]
      exact Nat.mul_lt_mul_of_pos_right (by omega) (Nat.two_pow_pos m)
theorem own_ltV {m j m' j' : Nat} (h : j < own_len m) (h' : j' < own_len m') : (m' < m ∨ (m' = m ∧ j' < j)) ↔ own_V m' j' < own_V m j := by
  constructor
  · exact own_V_lt h'
  · intro w
    by_cases c : m' < m ∨ (m' = m ∧ j' < j)
    · exact c
    · exfalso
      by_cases e : m' = m ∧ j' = j
      · rw [e.1, e.2] at w; omega
      · have := own_V_lt (m := m) (j := j) (m' := m') (j' := j') h (by omega)
        omega
theorem own_leV {m j m' j' : Nat} (h : j < own_len m) (h' : j' < own_len m') : (m' < m ∨ (m' = m ∧ j' < j + 1)) ↔ own_V m' j' ≤ own_V m j := by
  constructor
  · intro w
    by_cases e : m' = m ∧ j' = j
    · rw [e.1, e.2]; exact Nat.le_refl _
    · exact Nat.le_of_lt (own_V_lt h' (by omega))
  · intro w
    by_cases c : m' < m ∨ (m' = m ∧ j' < j + 1)
    · exact c
    · exfalso
      have := own_V_lt (m := m) (j := j) (m' := m') (j' := j') h (by omega)
      omega
theorem own_val_V {m j : Nat} (hm : m ≤ 38) (hj : j < own_len m) : (own_val (Int32.ofNat m) (Int32.ofNat j)).toInt = own_V m j := by
  unfold own_val own_V
  unfold own_len at hj
  by_cases e : m = 0
  · subst e
    rw [if_pos rfl] at hj
    rw [if_pos rfl, if_pos (show Int32.ofNat 0 = 0 from rfl), Int32.toInt_toInt64, own_ofn (by omega)]
  · rw [if_neg e] at hj
    have hz : ¬ Int32.ofNat m = 0 := fun w => e ((own_ofNat_eq (b := 0) hm (by decide)).mp w)
    rw [if_neg hz, if_neg e]
    have e1 : own_tn (Int32.ofNat j + 32768).toInt64 = j + 32768 := own_tn_of (by
      rw [Int32.toInt_toInt64, Int32.toInt_add, own_ofn (by omega), show (32768 : Int32).toInt = 32768 from rfl, Int.bmod_eq_of_le (by omega) (by omega)]; omega)
    have p : 2 ^ m ≤ 2 ^ 38 := Nat.pow_le_pow_right (by decide) hm
    have b : (j + 32768) * 2 ^ m ≤ 65536 * 2 ^ 38 := Nat.mul_le_mul (by omega) p
    have e2 := own_tn_shl (Int32.ofNat j + 32768).toInt64 hm (by rw [e1]; omega)
    rw [e1] at e2
    rw [own_tn_int (by rw [e2]; omega), e2]
theorem own_rank {c : Int64} {n P : Nat} {p : Int32} (hc : c.toInt = n) (hn : n ≤ 3) (hp : p.toInt = P) (hP : P ≤ 100) : (((c * p.toInt64) + (99 : Int64)) / (100 : Int64)).toInt = ((n * P + 99) / 100 : Nat) := by
  have ec := own_tn_of hc
  have ep : own_tn p.toInt64 = P := own_tn_of (by rw [Int32.toInt_toInt64]; exact hp)
  have b : n * P ≤ 3 * 100 := Nat.mul_le_mul hn hP
  have e1 : own_tn (c * p.toInt64) = n * P := by rw [own_tn_mul _ _ (by rw [ec, ep]; omega), ec, ep]
  have e2 : own_tn (c * p.toInt64 + 99) = n * P + 99 := by rw [own_tn_add _ _ (by rw [e1, show own_tn 99 = 99 from rfl]; omega), e1]; rfl
  rw [Int64.toInt_div_of_ne_right _ _ (by decide), own_tn_int (by rw [e2]; omega), e2, show (100 : Int64).toInt = ((100 : Nat) : Int) from rfl]; rfl
theorem own_mk {B : Nat → Value} {ks : List (Nat × Nat)} {rank res : Int64} (hl : ks.length ≤ 100) (hv : ∀ k ∈ ks, k.2 < own_len k.1) {mr ir : Nat} (hm : mr ≤ 38) (hi : ir < own_len mr) (h1 : (own_lt ks mr ir : Int) < rank.toInt) (h2 : rank.toInt ≤ own_lt ks mr (ir + 1)) (hr : res.toInt = own_V mr ir) : own_inv B ks rank res 0 0 0 := by
  have z : own_lt ks 0 0 = 0 := by
    clear hl hv h1 h2
    induction ks with
    | nil => rfl
    | cons k ks ih => simp [own_lt, ih]
  refine ⟨hl, hv, by rw [z]; rfl, Or.inr ⟨mr, ir, by omega, hi, by omega, h1, h2, ?_⟩⟩
  exact Int64.toInt_inj.mp (by rw [hr, own_val_V hm hi])
theorem own_I0 (rank : Int64) : own_inv (fun _ => .null) [] rank 0 0 0 0 := ⟨by decide, fun _ h => (nomatch h), rfl, Or.inl ⟨rfl, fun _ => rfl, rfl⟩⟩
theorem own_max_i (x y : Int64) : (own_max x y).toInt = max x.toInt y.toInt := by
  unfold own_max
  by_cases q : x < y
  · rw [if_pos q]; have := Int64.lt_iff_toInt_lt.mp q; omega
  · rw [if_neg q]; have : ¬ x.toInt < y.toInt := fun w => q (Int64.lt_iff_toInt_lt.mpr w); omega
theorem own_min_i (x y : Int64) : (own_min x y).toInt = min x.toInt y.toInt := by
  unfold own_min
  by_cases q : y < x
  · rw [if_pos q]; have := Int64.lt_iff_toInt_lt.mp q; omega
  · rw [if_neg q]; have : ¬ y.toInt < x.toInt := fun w => q (Int64.lt_iff_toInt_lt.mpr w); omega
theorem own_I1 {B : Nat → Value} {s1 : Int64} {p : Int32} {m1 j1 : Nat} (k1 : own_key s1 m1 j1) (hp : 1 ≤ p.toInt ∧ p.toInt ≤ 100) : own_inv B [(m1, j1)] (((((0 : Int64) + (1 : Int64)) * p.toInt64) + (99 : Int64)) / (100 : Int64)) (own_floor s1) 0 0 0 := by
  obtain ⟨a1, a2, a3⟩ := k1
  have er := own_rank (c := (0 : Int64) + 1) (n := 1) (P := p.toInt.toNat) (p := p) rfl (by decide) (by omega) (by omega)
  refine own_mk (by simp) (by intro k h; simp only [List.mem_singleton] at h; subst h; exact a2) a1 a2 ?_ ?_ a3
  · have z : own_lt [(m1, j1)] m1 j1 = 0 := by simp [own_lt]
    rw [er, z]; omega
  · have z : own_lt [(m1, j1)] m1 (j1 + 1) = 1 := by simp [own_lt]
    rw [er, z]; omega
theorem own_mul_i {c p : Int32} {n : Nat} (hc : c.toInt = n) (hn : n ≤ 3) (h0 : 1 ≤ p.toInt) (h1 : p.toInt ≤ 100) : (c * p).toInt = ((n * p.toInt.toNat : Nat) : Int) := by
  have b : n * p.toInt.toNat ≤ 3 * 100 := Nat.mul_le_mul hn (by omega)
  have e : (c.toInt * p.toInt) = ((n * p.toInt.toNat : Nat) : Int) := by rw [hc, Int.natCast_mul]; congr 1; omega
  rw [Int32.toInt_mul, e, Int.bmod_eq_of_le (by omega) (by omega)]
theorem own_I2 {B : Nat → Value} {s1 s2 : Int64} {p : Int32} {m1 j1 m2 j2 : Nat} (k1 : own_key s1 m1 j1) (k2 : own_key s2 m2 j2) (hp : 1 ≤ p.toInt ∧ p.toInt ≤ 100) : own_inv B [(m2, j2), (m1, j1)] ((((((0 : Int64) + (1 : Int64)) + (1 : Int64)) * p.toInt64) + (99 : Int64)) / (100 : Int64)) (own_e2 p (own_floor s1) (own_floor s2)) 0 0 0 := by
  obtain ⟨a1, a2, a3⟩ := k1
  obtain ⟨b1, b2, b3⟩ := k2
  have er := own_rank (c := (0 : Int64) + 1 + 1) (n := 2) (P := p.toInt.toNat) (p := p) rfl (by decide) (by omega) (by omega)
  have em := own_mul_i (c := 2) (n := 2) rfl (by decide) hp.1 hp.2
  generalize ((((0 : Int64) + 1 + 1) * p.toInt64) + 99) / 100 = rank at er ⊢
  have ee : (own_e2 p (own_floor s1) (own_floor s2)).toInt = if 100 < 2 * p.toInt.toNat then max (own_V m1 j1 : Int) (own_V m2 j2) else min (own_V m1 j1 : Int) (own_V m2 j2) := by
    unfold own_e2
    have hi : ((100 : Int32) < 2 * p) ↔ 100 < 2 * p.toInt.toNat := by rw [Int32.lt_iff_toInt_lt, em, show (100 : Int32).toInt = 100 from rfl]; omega
    by_cases q : (100 : Int32) < 2 * p
    · rw [if_pos q, if_pos (hi.mp q), own_max_i, a3, b3]
    · rw [if_neg q, if_neg (fun w => q (hi.mpr w)), own_min_i, a3, b3]
  generalize own_e2 p (own_floor s1) (own_floor s2) = res at ee ⊢
  have go : ∀ {mr ir : Nat}, mr ≤ 38 → ir < own_len mr → res.toInt = own_V mr ir → own_inv B [(m2, j2), (m1, j1)] rank res 0 0 0 := fun {mr ir} hm hi hr => by
    refine own_mk (by simp) (by intro k h; simp only [List.mem_cons, List.not_mem_nil, or_false] at h; rcases h with rfl | rfl <;> assumption) hm hi ?_ ?_ hr
    · rw [er]; simp only [own_lt, own_ltV hi a2, own_ltV hi b2]; rw [hr] at ee; split at ee <;> split <;> split <;> omega
    · rw [er]; simp only [own_lt, own_leV hi a2, own_leV hi b2]; rw [hr] at ee; split at ee <;> split <;> split <;> omega
  have hc : res.toInt = own_V m1 j1 ∨ res.toInt = own_V m2 j2 := by split at ee <;> omega
  rcases hc with h | h
  · exact go a1 a2 h
  · exact go b1 b2 h
theorem own_I3 {B : Nat → Value} {s1 s2 s3 : Int64} {p : Int32} {m1 j1 m2 j2 m3 j3 : Nat} (k1 : own_key s1 m1 j1) (k2 : own_key s2 m2 j2) (k3 : own_key s3 m3 j3) (hp : 1 ≤ p.toInt ∧ p.toInt ≤ 100) : own_inv B [(m3, j3), (m2, j2), (m1, j1)] (((((((0 : Int64) + (1 : Int64)) + (1 : Int64)) + (1 : Int64)) * p.toInt64) + (99 : Int64)) / (100 : Int64)) (own_e3 p (own_floor s1) (own_floor s2) (own_floor s3)) 0 0 0 := by
  obtain ⟨a1, a2, a3⟩ := k1
  obtain ⟨b1, b2, b3⟩ := k2
  obtain ⟨c1, c2, c3⟩ := k3
  have er := own_rank (c := (0 : Int64) + 1 + 1 + 1) (n := 3) (P := p.toInt.toNat) (p := p) rfl (by decide) (by omega) (by omega)
  have em := own_mul_i (c := 3) (n := 3) rfl (by decide) hp.1 hp.2
  generalize ((((0 : Int64) + 1 + 1 + 1) * p.toInt64) + 99) / 100 = rank at er ⊢
  have ee : (own_e3 p (own_floor s1) (own_floor s2) (own_floor s3)).toInt = if 100 < 3 * p.toInt.toNat then (if 200 < 3 * p.toInt.toNat then max (max (own_V m1 j1 : Int) (own_V m2 j2)) (own_V m3 j3) else max (min (own_V m1 j1 : Int) (own_V m2 j2)) (min (max (own_V m1 j1 : Int) (own_V m2 j2)) (own_V m3 j3))) else min (min (own_V m1 j1 : Int) (own_V m2 j2)) (own_V m3 j3) := by
    unfold own_e3 own_lo own_mid own_hi
    have hi : ((100 : Int32) < 3 * p) ↔ 100 < 3 * p.toInt.toNat := by rw [Int32.lt_iff_toInt_lt, em, show (100 : Int32).toInt = 100 from rfl]; omega
    have hj : ((200 : Int32) < 3 * p) ↔ 200 < 3 * p.toInt.toNat := by rw [Int32.lt_iff_toInt_lt, em, show (200 : Int32).toInt = 200 from rfl]; omega
    by_cases q : (100 : Int32) < 3 * p
    · rw [if_pos q, if_pos (hi.mp q)]
      by_cases q2 : (200 : Int32) < 3 * p
      · rw [if_pos q2, if_pos (hj.mp q2)]; simp only [own_max_i, a3, b3, c3]
      · rw [if_neg q2, if_neg (fun w => q2 (hj.mpr w))]; simp only [own_max_i, own_min_i, a3, b3, c3]
    · rw [if_neg q, if_neg (fun w => q (hi.mpr w))]; simp only [own_min_i, a3, b3, c3]
  generalize own_e3 p (own_floor s1) (own_floor s2) (own_floor s3) = res at ee ⊢
  have go : ∀ {mr ir : Nat}, mr ≤ 38 → ir < own_len mr → res.toInt = own_V mr ir → own_inv B [(m3, j3), (m2, j2), (m1, j1)] rank res 0 0 0 := fun {mr ir} hm hi hr => by
    refine own_mk (by simp) (by intro k h; simp only [List.mem_cons, List.not_mem_nil, or_false] at h; rcases h with rfl | rfl | rfl <;> assumption) hm hi ?_ ?_ hr
    · rw [er]; simp only [own_lt, own_ltV hi a2, own_ltV hi b2, own_ltV hi c2]; rw [hr] at ee; generalize own_V m1 j1 = x at *; generalize own_V m2 j2 = y at *; generalize own_V m3 j3 = z at *; generalize own_V mr ir = w at *
      by_cases g1 : 100 < 3 * p.toInt.toNat
      · rw [if_pos g1] at ee
        by_cases g2 : 200 < 3 * p.toInt.toNat
        · rw [if_pos g2] at ee; split <;> split <;> split <;> omega
        · rw [if_neg g2] at ee; split <;> split <;> split <;> omega
      · rw [if_neg g1] at ee; split <;> split <;> split <;> omega
    · rw [er]; simp only [own_lt, own_leV hi a2, own_leV hi b2, own_leV hi c2]; rw [hr] at ee; generalize own_V m1 j1 = x at *; generalize own_V m2 j2 = y at *; generalize own_V m3 j3 = z at *; generalize own_V mr ir = w at *
      by_cases g1 : 100 < 3 * p.toInt.toNat
      · rw [if_pos g1] at ee
        by_cases g2 : 200 < 3 * p.toInt.toNat
        · rw [if_pos g2] at ee; split <;> split <;> split <;> omega
        · rw [if_neg g2] at ee; split <;> split <;> split <;> omega
      · rw [if_neg g1] at ee; split <;> split <;> split <;> omega
  have hc : res.toInt = own_V m1 j1 ∨ res.toInt = own_V m2 j2 ∨ res.toInt = own_V m3 j3 := by
    split at ee
    · split at ee <;> omega
    · omega
  rcases hc with h | h | h
  · exact go a1 a2 h
  · exact go b1 b2 h
  · exact go c1 c2 h

theorem own_lenb (m : Nat) : own_len m ≤ 65536 := by unfold own_len; split <;> decide
theorem own_costb (v : Value) (m : Nat) : own_cost v m ≤ own_len m := by unfold own_cost; split <;> omega
theorem own_r1 {sl : Nat} {v : Value} {m : Nat} (h : sl = own_cost v m) : 52 + sl ≤ 157376 := by have := own_costb v m; have := own_lenb m; omega
theorem own_len2 {m m' : Nat} (h : m ≠ m') : own_len m + own_len m' ≤ 98304 := by unfold own_len; split <;> split <;> omega
theorem own_len3 {m m' m'' : Nat} (h : m ≠ m') (h2 : m ≠ m'') (h3 : m' ≠ m'') : own_len m + own_len m' + own_len m'' ≤ 131072 := by unfold own_len; split <;> split <;> split <;> omega
theorem own_r2 {s1 s2 m1 m2 : Nat} {B0 B1 : Nat → Value} (h1 : s1 = own_cost (B0 m1) m1) (q1 : own_cost (B1 m1) m1 = 0 ∧ ∀ x, x ≠ m1 → B1 x = B0 x) (h2 : s2 = own_cost (B1 m2) m2) : 52 + s1 + s2 ≤ 157376 := by
  have b1 := own_costb (B0 m1) m1
  have b2 := own_costb (B1 m2) m2
  have c1 := own_lenb m1
  by_cases e : m2 = m1
  · subst e; omega
  · have := own_len2 e; omega
theorem own_r3 {s1 s2 s3 m1 m2 m3 : Nat} {B0 B1 B2 : Nat → Value} (h1 : s1 = own_cost (B0 m1) m1) (q1 : own_cost (B1 m1) m1 = 0 ∧ ∀ x, x ≠ m1 → B1 x = B0 x) (h2 : s2 = own_cost (B1 m2) m2) (q2 : own_cost (B2 m2) m2 = 0 ∧ ∀ x, x ≠ m2 → B2 x = B1 x) (h3 : s3 = own_cost (B2 m3) m3) : 52 + s1 + s2 + s3 ≤ 157376 := by
  have b1 := own_costb (B0 m1) m1
  have b2 := own_costb (B1 m2) m2
  have b3 := own_costb (B2 m3) m3
  have c1 := own_lenb m1
  have c2 := own_lenb m2
  by_cases e : m2 = m1
  · subst e
    by_cases e3 : m3 = m2
    · subst e3; omega
    · have := own_len2 e3; omega
  · by_cases e3 : m3 = m2
    · subst e3; have := own_len2 e; omega
    · by_cases e4 : m3 = m1
      · subst e4
        rw [q2.2 m3 e3, q1.1] at h3
        have := own_len2 e; omega
      · have := own_len3 e4 e3 (Ne.symm e); omega

theorem ef_rm0 (m : MethodId) (x0 : Int64) (x1 : Int64) (x2 : Int64) (x3 : Int32) (x4 : Int32) : entryFrame m #[(.long x0), (.long x1), (.long x2), (.int x3), (.int x4)] maxLocals = mkF m 0 #[.val (.long x0), .second, .val (.long x1), .second, .val (.long x2), .second, .val (.int x3), .val (.int x4), .unset, .unset, .unset, .unset, .unset, .unset, .unset, .unset, .unset, .unset, .unset, .unset, .unset, .unset, .unset, .unset, .unset, .unset, .unset, .unset, .unset] [] := by first | (simp [entryFrame, mkF, argsToLocals, Value.category, maxLocals]; done) | rfl
theorem pd___V : parseMethodDescriptor "()V" = some ⟨[], none⟩ := by decide +kernel
theorem pd__I_J : parseMethodDescriptor "(I)J" = some ⟨[.int], some .long⟩ := by decide +kernel
theorem pd___J : parseMethodDescriptor "()J" = some ⟨[], some .long⟩ := by decide +kernel
theorem pd__J_V : parseMethodDescriptor "(J)V" = some ⟨[.long], none⟩ := by decide +kernel
def Q0 (Z : State)  (h0 : Heap) (n0 : Nat) (v : Option Value) (h : Heap) (L : List Loc) : Prop := v = some (.int (1 : Int32)) ∧ Fr n0 L
set_option maxRecDepth 65536 in
set_option maxHeartbeats 40000000 in
theorem rm0 (l : Launch) (Z : State) (a0 : Array Value) (hw : ∀ d ∈ tables_1, d.before a0 Z = true) (ws : List Jvm.Cond) (q1 : Int64) (q2 : Int64) (q3 : Int64) (p4 : Int32) (p5 : Int32) (h0 : Heap) (n0 : Nat) (Z0 : n0 ≤ h0.size) (S_EB : Sta Z h0 "com/example/kurir/kurir/bench/Latencies" "EXACT_BITS" "I" (.int (16 : Int32))) (S_HALF : Sta Z h0 "com/example/kurir/kurir/bench/Latencies" "HALF" "I" (.int (32768 : Int32))) :
    MetFree l x (head1 (Jvm.Cond.code x code maxLocals ret :: ws) room_1) (fun a U => a = #[(.long q1), (.long q2), (.long q3), (.int p4), (.int p5)] ∧ Z.Warmed39 U.vm ∧ U.heap = h0) (fun _ _ _ _ _ => True) (fun _ U o U' => ∃ v L, o = .returned v ∧ Q0 Z  h0 n0 v U'.heap L ∧ FrameEnd U o U' L 24 157376) := by
  refine MetFree.of_bodySF (plainFor_of_name pn_com_example_kurir_kurir_bench_LatenciesPercentileMicrosPinLaw) hisR ?_
  intro p e s m args below meth c s₁ Bd hml0 hP hK
  obtain ⟨rfl, hZ, hh⟩ := hP
  have hx := Bd.exec
  have hby := Bd.bytes
  have hlk := BodyLoose.notSynchronized Bd
  have hml : c.maxLocals = 29 := hml0
  have hown : s.vm.findClass "com/example/kurir/kurir/bench/LatenciesPercentileMicrosPinLaw" = some m.cls := findClass_of_methodNamed Bd.named
  have hnm := (name_of_methodNamed Bd.named Bd.method).1
  have X0 : Stand p l e room_1 s m #[(.long q1), (.long q2), (.long q3), (.int p4), (.int p5)] below meth c s₁ [] 0 0 := Stand.of_body Bd
  have e0 : s₁.heap = h0 := by rw [← hh, Bd.state]; rfl
  have N0 := Fr.nil n0
  refine OwnR.of (s := s) (Q := Q0 Z  h0 n0) (fun t k => castTop (ef_rm0 m q1 q2 q3 p4 p5) k) ?_
  show OwnR _ _ _ _ _ _ _ (s₁.setTop (mkF m 0 #[.val (.long q1), .second, .val (.long q2), .second, .val (.long q3), .second, .val (.int p4), .val (.int p5), .unset, .unset, .unset, .unset, .unset, .unset, .unset, .unset, .unset, .unset, .unset, .unset, .unset, .unset, .unset, .unset, .unset, .unset, .unset, .unset, .unset] []))
  refine OwnR.of (fun _ hr => XS.iload X0.here hx rfl (hb hby at_0) rfl hr) ?_
  show OwnR _ _ _ _ _ _ _ (s₁.setTop (mkF m 2 #[.val (.long q1), .second, .val (.long q2), .second, .val (.long q3), .second, .val (.int p4), .val (.int p5), .unset, .unset, .unset, .unset, .unset, .unset, .unset, .unset, .unset, .unset, .unset, .unset, .unset, .unset, .unset, .unset, .unset, .unset, .unset, .unset, .unset] [(.int p5)]))
  refine OwnR.of (fun _ hr => XS.iconst X0.here hx rfl (hb hby at_2) hr) ?_
  show OwnR _ _ _ _ _ _ _ (s₁.setTop (mkF m 3 #[.val (.long q1), .second, .val (.long q2), .second, .val (.long q3), .second, .val (.int p4), .val (.int p5), .unset, .unset, .unset, .unset, .unset, .unset, .unset, .unset, .unset, .unset, .unset, .unset, .unset, .unset, .unset, .unset, .unset, .unset, .unset, .unset, .unset] [(.int (3 : Int32)), (.int p5)]))
  refine OwnR.of (fun _ hr => XS.iand X0.here hx rfl (hb hby at_3) rfl hr) ?_
  show OwnR _ _ _ _ _ _ _ (s₁.setTop (mkF m 4 #[.val (.long q1), .second, .val (.long q2), .second, .val (.long q3), .second, .val (.int p4), .val (.int p5), .unset, .unset, .unset, .unset, .unset, .unset, .unset, .unset, .unset, .unset, .unset, .unset, .unset, .unset, .unset, .unset, .unset, .unset, .unset, .unset, .unset] [(.int (p5 &&& (3 : Int32)))]))
  refine OwnR.of (fun _ hr => XS.istore X0.here hx rfl (hb hby at_4) rfl (l' := #[.val (.long q1), .second, .val (.long q2), .second, .val (.long q3), .second, .val (.int p4), .val (.int p5), .val (.int (p5 &&& (3 : Int32))), .unset, .unset, .unset, .unset, .unset, .unset, .unset, .unset, .unset, .unset, .unset, .unset, .unset, .unset, .unset, .unset, .unset, .unset, .unset, .unset]) rfl hr) ?_
  show OwnR _ _ _ _ _ _ _ (s₁.setTop (mkF m 6 #[.val (.long q1), .second, .val (.long q2), .second, .val (.long q3), .second, .val (.int p4), .val (.int p5), .val (.int (p5 &&& (3 : Int32))), .unset, .unset, .unset, .unset, .unset, .unset, .unset, .unset, .unset, .unset, .unset, .unset, .unset, .unset, .unset, .unset, .unset, .unset, .unset, .unset] []))
  obtain ⟨n, hn⟩ : ∃ z : Int32, z = (p5 &&& (3 : Int32)) := ⟨_, rfl⟩
  rw [← hn]
  show OwnR _ _ _ _ _ _ _ (s₁.setTop (mkF m 6 #[.val (.long q1), .second, .val (.long q2), .second, .val (.long q3), .second, .val (.int p4), .val (.int p5), .val (.int n), .unset, .unset, .unset, .unset, .unset, .unset, .unset, .unset, .unset, .unset, .unset, .unset, .unset, .unset, .unset, .unset, .unset, .unset, .unset, .unset] []))
  have hn4 : n = 0 ∨ n = 1 ∨ n = 2 ∨ n = 3 := by rw [hn]; exact own_four p5
  refine OwnR.of (fun _ hr => XS.iload X0.here hx rfl (hb hby at_6) rfl hr) ?_
  show OwnR _ _ _ _ _ _ _ (s₁.setTop (mkF m 8 #[.val (.long q1), .second, .val (.long q2), .second, .val (.long q3), .second, .val (.int p4), .val (.int p5), .val (.int n), .unset, .unset, .unset, .unset, .unset, .unset, .unset, .unset, .unset, .unset, .unset, .unset, .unset, .unset, .unset, .unset, .unset, .unset, .unset, .unset] [(.int p4)]))
  refine OwnR.of (X0.ldcInt hx hown (mvT hZ (hw _ (List.mem_of_getElem? (i := 0) rfl))) (g := (mkF m 8 #[.val (.long q1), .second, .val (.long q2), .second, .val (.long q3), .second, .val (.int p4), .val (.int p5), .val (.int n), .unset, .unset, .unset, .unset, .unset, .unset, .unset, .unset, .unset, .unset, .unset, .unset, .unset, .unset, .unset, .unset, .unset, .unset, .unset, .unset] [(.int p4)])) rfl (hb hby at_8)) ?_
  show OwnR _ _ _ _ _ _ _ (s₁.setTop (mkF m 10 #[.val (.long q1), .second, .val (.long q2), .second, .val (.long q3), .second, .val (.int p4), .val (.int p5), .val (.int n), .unset, .unset, .unset, .unset, .unset, .unset, .unset, .unset, .unset, .unset, .unset, .unset, .unset, .unset, .unset, .unset, .unset, .unset, .unset, .unset] [(.int (2147483647 : Int32)), (.int p4)]))
  refine OwnR.of (fun _ hr => XS.iand X0.here hx rfl (hb hby at_10) rfl hr) ?_
  show OwnR _ _ _ _ _ _ _ (s₁.setTop (mkF m 11 #[.val (.long q1), .second, .val (.long q2), .second, .val (.long q3), .second, .val (.int p4), .val (.int p5), .val (.int n), .unset, .unset, .unset, .unset, .unset, .unset, .unset, .unset, .unset, .unset, .unset, .unset, .unset, .unset, .unset, .unset, .unset, .unset, .unset, .unset] [(.int (p4 &&& (2147483647 : Int32)))]))
  refine OwnR.of (fun _ hr => XS.bipush X0.here hx rfl (hb hby at_11) hr) ?_
  show OwnR _ _ _ _ _ _ _ (s₁.setTop (mkF m 13 #[.val (.long q1), .second, .val (.long q2), .second, .val (.long q3), .second, .val (.int p4), .val (.int p5), .val (.int n), .unset, .unset, .unset, .unset, .unset, .unset, .unset, .unset, .unset, .unset, .unset, .unset, .unset, .unset, .unset, .unset, .unset, .unset, .unset, .unset] [(.int (100 : Int32)), (.int (p4 &&& (2147483647 : Int32)))]))
  refine OwnR.of (fun _ hr => iremM X0 hx rfl (hb hby at_13) rfl (by decide) hr) ?_
  show OwnR _ _ _ _ _ _ _ (s₁.setTop (mkF m 14 #[.val (.long q1), .second, .val (.long q2), .second, .val (.long q3), .second, .val (.int p4), .val (.int p5), .val (.int n), .unset, .unset, .unset, .unset, .unset, .unset, .unset, .unset, .unset, .unset, .unset, .unset, .unset, .unset, .unset, .unset, .unset, .unset, .unset, .unset] [(.int ((p4 &&& (2147483647 : Int32)) % (100 : Int32)))]))
  refine OwnR.of (fun _ hr => XS.iconst X0.here hx rfl (hb hby at_14) hr) ?_
  show OwnR _ _ _ _ _ _ _ (s₁.setTop (mkF m 15 #[.val (.long q1), .second, .val (.long q2), .second, .val (.long q3), .second, .val (.int p4), .val (.int p5), .val (.int n), .unset, .unset, .unset, .unset, .unset, .unset, .unset, .unset, .unset, .unset, .unset, .unset, .unset, .unset, .unset, .unset, .unset, .unset, .unset, .unset] [(.int (1 : Int32)), (.int ((p4 &&& (2147483647 : Int32)) % (100 : Int32)))]))
  refine OwnR.of (fun _ hr => XS.iadd X0.here hx rfl (hb hby at_15) rfl hr) ?_
  show OwnR _ _ _ _ _ _ _ (s₁.setTop (mkF m 16 #[.val (.long q1), .second, .val (.long q2), .second, .val (.long q3), .second, .val (.int p4), .val (.int p5), .val (.int n), .unset, .unset, .unset, .unset, .unset, .unset, .unset, .unset, .unset, .unset, .unset, .unset, .unset, .unset, .unset, .unset, .unset, .unset, .unset, .unset] [(.int (((p4 &&& (2147483647 : Int32)) % (100 : Int32)) + (1 : Int32)))]))
  refine OwnR.of (fun _ hr => XS.istore X0.here hx rfl (hb hby at_16) rfl (l' := #[.val (.long q1), .second, .val (.long q2), .second, .val (.long q3), .second, .val (.int p4), .val (.int p5), .val (.int n), .val (.int (((p4 &&& (2147483647 : Int32)) % (100 : Int32)) + (1 : Int32))), .unset, .unset, .unset, .unset, .unset, .unset, .unset, .unset, .unset, .unset, .unset, .unset, .unset, .unset, .unset, .unset, .unset, .unset, .unset]) rfl hr) ?_
  show OwnR _ _ _ _ _ _ _ (s₁.setTop (mkF m 18 #[.val (.long q1), .second, .val (.long q2), .second, .val (.long q3), .second, .val (.int p4), .val (.int p5), .val (.int n), .val (.int (((p4 &&& (2147483647 : Int32)) % (100 : Int32)) + (1 : Int32))), .unset, .unset, .unset, .unset, .unset, .unset, .unset, .unset, .unset, .unset, .unset, .unset, .unset, .unset, .unset, .unset, .unset, .unset, .unset] []))
  obtain ⟨pp, hpp⟩ : ∃ z : Int32, z = (((p4 &&& (2147483647 : Int32)) % (100 : Int32)) + (1 : Int32)) := ⟨_, rfl⟩
  rw [← hpp]
  show OwnR _ _ _ _ _ _ _ (s₁.setTop (mkF m 18 #[.val (.long q1), .second, .val (.long q2), .second, .val (.long q3), .second, .val (.int p4), .val (.int p5), .val (.int n), .val (.int pp), .unset, .unset, .unset, .unset, .unset, .unset, .unset, .unset, .unset, .unset, .unset, .unset, .unset, .unset, .unset, .unset, .unset, .unset, .unset] []))
  have bpp : 1 ≤ pp.toInt ∧ pp.toInt ≤ 100 := by rw [hpp]; exact own_pp p4
  refine OwnR.of (fun _ hr => XS.lloadN X0.here hx rfl (hb hby at_18) rfl hr) ?_
  show OwnR _ _ _ _ _ _ _ (s₁.setTop (mkF m 19 #[.val (.long q1), .second, .val (.long q2), .second, .val (.long q3), .second, .val (.int p4), .val (.int p5), .val (.int n), .val (.int pp), .unset, .unset, .unset, .unset, .unset, .unset, .unset, .unset, .unset, .unset, .unset, .unset, .unset, .unset, .unset, .unset, .unset, .unset, .unset] [(.long q1)]))
  obtain ⟨_, _, ⟨T1, L1, kc1, ns1⟩, -, X1, ⟨Lc1, hQ1, l1, y1, z1⟩, st1⟩ := Jvm.LawKit.callS X0 hx (y := (⟨"com/example/kurir/kurir/bench/LatenciesPercentileMicrosPinLaw", "floorOf", "(J)J"⟩ : MethodName)) hown (mvT hZ (hw _ (List.mem_of_getElem? (i := 1) rfl))) (mvT hZ (hw _ (List.mem_of_getElem? (i := 2) rfl))) (mvT hZ (hw _ (List.mem_of_getElem? (i := 3) rfl))) (mvT hZ (hw _ (List.mem_of_getElem? (i := 4) rfl))) (by decide) (backOf (W := 0) (rmFloor l Z a0 hw [] q1 h0 n0 (Nat.le_trans Z0 (Keep.refl h0 []).1) ) hZ (hw _ (List.mem_of_getElem? (i := 4) rfl)) (hw _ (List.mem_of_getElem? (i := 3) rfl)) (by decide) (by decide)) (g := (mkF m 19 #[.val (.long q1), .second, .val (.long q2), .second, .val (.long q3), .second, .val (.int p4), .val (.int p5), .val (.int n), .val (.int pp), .unset, .unset, .unset, .unset, .unset, .unset, .unset, .unset, .unset, .unset, .unset, .unset, .unset, .unset, .unset, .unset, .unset, .unset, .unset] [(.long q1)])) rfl (by rw [hml]; rfl) (argsL := [(.long q1)]) (rest := []) (lenOf pd__J_J rfl) rfl (by show 2 * 0 + _ ≤ _; exact Nat.le_of_eq rfl) (hb hby at_19) (fun _ _ => ⟨rfl, e0, (by decide : 0 + 0 ≤ _), (by decide : 0 + 0 ≤ _)⟩)
  dsimp only [Pt.U, Pt.locs, Pt.cells, Pt.slots] at X1 l1 y1 z1 st1 hQ1
  rw [l1, y1, z1] at X1
  obtain ⟨rfl, N1q, e1⟩ := hQ1
  have N1 := Fr.app N0 N1q
  refine OwnR.of (st1) ?_
  show OwnR _ _ _ _ _ _ _ (T1.setTop (mkF m 22 #[.val (.long q1), .second, .val (.long q2), .second, .val (.long q3), .second, .val (.int p4), .val (.int p5), .val (.int n), .val (.int pp), .unset, .unset, .unset, .unset, .unset, .unset, .unset, .unset, .unset, .unset, .unset, .unset, .unset, .unset, .unset, .unset, .unset, .unset, .unset] [(.long (own_floor q1))]))
  refine OwnR.of (fun _ hr => XS.lstore X1.here hx rfl (hb hby at_22) rfl (l' := #[.val (.long q1), .second, .val (.long q2), .second, .val (.long q3), .second, .val (.int p4), .val (.int p5), .val (.int n), .val (.int pp), .val (.long (own_floor q1)), .second, .unset, .unset, .unset, .unset, .unset, .unset, .unset, .unset, .unset, .unset, .unset, .unset, .unset, .unset, .unset, .unset, .unset]) rfl hr) ?_
  show OwnR _ _ _ _ _ _ _ (T1.setTop (mkF m 24 #[.val (.long q1), .second, .val (.long q2), .second, .val (.long q3), .second, .val (.int p4), .val (.int p5), .val (.int n), .val (.int pp), .val (.long (own_floor q1)), .second, .unset, .unset, .unset, .unset, .unset, .unset, .unset, .unset, .unset, .unset, .unset, .unset, .unset, .unset, .unset, .unset, .unset] []))
  refine OwnR.of (fun _ hr => XS.lloadN X1.here hx rfl (hb hby at_24) rfl hr) ?_
  show OwnR _ _ _ _ _ _ _ (T1.setTop (mkF m 25 #[.val (.long q1), .second, .val (.long q2), .second, .val (.long q3), .second, .val (.int p4), .val (.int p5), .val (.int n), .val (.int pp), .val (.long (own_floor q1)), .second, .unset, .unset, .unset, .unset, .unset, .unset, .unset, .unset, .unset, .unset, .unset, .unset, .unset, .unset, .unset, .unset, .unset] [(.long q2)]))
  obtain ⟨_, _, ⟨T2, L2, kc2, ns2⟩, -, X2, ⟨Lc2, hQ2, l2, y2, z2⟩, st2⟩ := Jvm.LawKit.callS X1 hx (y := (⟨"com/example/kurir/kurir/bench/LatenciesPercentileMicrosPinLaw", "floorOf", "(J)J"⟩ : MethodName)) hown (mvT hZ (hw _ (List.mem_of_getElem? (i := 1) rfl))) (mvT hZ (hw _ (List.mem_of_getElem? (i := 2) rfl))) (mvT hZ (hw _ (List.mem_of_getElem? (i := 3) rfl))) (mvT hZ (hw _ (List.mem_of_getElem? (i := 4) rfl))) (by decide) (backOf (W := 0) (rmFloor l Z a0 hw [] q2 h0 n0 (Nat.le_trans Z0 (Keep.refl h0 []).1) ) hZ (hw _ (List.mem_of_getElem? (i := 4) rfl)) (hw _ (List.mem_of_getElem? (i := 3) rfl)) (by decide) (by decide)) (g := (mkF m 25 #[.val (.long q1), .second, .val (.long q2), .second, .val (.long q3), .second, .val (.int p4), .val (.int p5), .val (.int n), .val (.int pp), .val (.long (own_floor q1)), .second, .unset, .unset, .unset, .unset, .unset, .unset, .unset, .unset, .unset, .unset, .unset, .unset, .unset, .unset, .unset, .unset, .unset] [(.long q2)])) rfl (by rw [hml]; rfl) (argsL := [(.long q2)]) (rest := []) (lenOf pd__J_J rfl) rfl (by show 2 * 0 + _ ≤ _; exact Nat.le_of_eq rfl) (hb hby at_25) (fun _ _ => ⟨rfl, e1, (by decide : 0 + 0 ≤ _), (by decide : 0 + 0 ≤ _)⟩)
  dsimp only [Pt.U, Pt.locs, Pt.cells, Pt.slots] at X2 l2 y2 z2 st2 hQ2
  rw [l2, y2, z2] at X2
  obtain ⟨rfl, N2q, e2⟩ := hQ2
  have N2 := Fr.app N1 N2q
  refine OwnR.of (st2) ?_
  show OwnR _ _ _ _ _ _ _ (T2.setTop (mkF m 28 #[.val (.long q1), .second, .val (.long q2), .second, .val (.long q3), .second, .val (.int p4), .val (.int p5), .val (.int n), .val (.int pp), .val (.long (own_floor q1)), .second, .unset, .unset, .unset, .unset, .unset, .unset, .unset, .unset, .unset, .unset, .unset, .unset, .unset, .unset, .unset, .unset, .unset] [(.long (own_floor q2))]))
  refine OwnR.of (fun _ hr => XS.lstore X2.here hx rfl (hb hby at_28) rfl (l' := #[.val (.long q1), .second, .val (.long q2), .second, .val (.long q3), .second, .val (.int p4), .val (.int p5), .val (.int n), .val (.int pp), .val (.long (own_floor q1)), .second, .val (.long (own_floor q2)), .second, .unset, .unset, .unset, .unset, .unset, .unset, .unset, .unset, .unset, .unset, .unset, .unset, .unset, .unset, .unset]) rfl hr) ?_
  show OwnR _ _ _ _ _ _ _ (T2.setTop (mkF m 30 #[.val (.long q1), .second, .val (.long q2), .second, .val (.long q3), .second, .val (.int p4), .val (.int p5), .val (.int n), .val (.int pp), .val (.long (own_floor q1)), .second, .val (.long (own_floor q2)), .second, .unset, .unset, .unset, .unset, .unset, .unset, .unset, .unset, .unset, .unset, .unset, .unset, .unset, .unset, .unset] []))
  refine OwnR.of (fun _ hr => XS.lload X2.here hx rfl (hb hby at_30) rfl hr) ?_
  show OwnR _ _ _ _ _ _ _ (T2.setTop (mkF m 32 #[.val (.long q1), .second, .val (.long q2), .second, .val (.long q3), .second, .val (.int p4), .val (.int p5), .val (.int n), .val (.int pp), .val (.long (own_floor q1)), .second, .val (.long (own_floor q2)), .second, .unset, .unset, .unset, .unset, .unset, .unset, .unset, .unset, .unset, .unset, .unset, .unset, .unset, .unset, .unset] [(.long q3)]))
  obtain ⟨_, _, ⟨T3, L3, kc3, ns3⟩, -, X3, ⟨Lc3, hQ3, l3, y3, z3⟩, st3⟩ := Jvm.LawKit.callS X2 hx (y := (⟨"com/example/kurir/kurir/bench/LatenciesPercentileMicrosPinLaw", "floorOf", "(J)J"⟩ : MethodName)) hown (mvT hZ (hw _ (List.mem_of_getElem? (i := 1) rfl))) (mvT hZ (hw _ (List.mem_of_getElem? (i := 2) rfl))) (mvT hZ (hw _ (List.mem_of_getElem? (i := 3) rfl))) (mvT hZ (hw _ (List.mem_of_getElem? (i := 4) rfl))) (by decide) (backOf (W := 0) (rmFloor l Z a0 hw [] q3 h0 n0 (Nat.le_trans Z0 (Keep.refl h0 []).1) ) hZ (hw _ (List.mem_of_getElem? (i := 4) rfl)) (hw _ (List.mem_of_getElem? (i := 3) rfl)) (by decide) (by decide)) (g := (mkF m 32 #[.val (.long q1), .second, .val (.long q2), .second, .val (.long q3), .second, .val (.int p4), .val (.int p5), .val (.int n), .val (.int pp), .val (.long (own_floor q1)), .second, .val (.long (own_floor q2)), .second, .unset, .unset, .unset, .unset, .unset, .unset, .unset, .unset, .unset, .unset, .unset, .unset, .unset, .unset, .unset] [(.long q3)])) rfl (by rw [hml]; rfl) (argsL := [(.long q3)]) (rest := []) (lenOf pd__J_J rfl) rfl (by show 2 * 0 + _ ≤ _; exact Nat.le_of_eq rfl) (hb hby at_32) (fun _ _ => ⟨rfl, e2, (by decide : 0 + 0 ≤ _), (by decide : 0 + 0 ≤ _)⟩)
  dsimp only [Pt.U, Pt.locs, Pt.cells, Pt.slots] at X3 l3 y3 z3 st3 hQ3
  rw [l3, y3, z3] at X3
  obtain ⟨rfl, N3q, e3⟩ := hQ3
  have N3 := Fr.app N2 N3q
  refine OwnR.of (st3) ?_
  show OwnR _ _ _ _ _ _ _ (T3.setTop (mkF m 35 #[.val (.long q1), .second, .val (.long q2), .second, .val (.long q3), .second, .val (.int p4), .val (.int p5), .val (.int n), .val (.int pp), .val (.long (own_floor q1)), .second, .val (.long (own_floor q2)), .second, .unset, .unset, .unset, .unset, .unset, .unset, .unset, .unset, .unset, .unset, .unset, .unset, .unset, .unset, .unset] [(.long (own_floor q3))]))
  refine OwnR.of (fun _ hr => XS.lstore X3.here hx rfl (hb hby at_35) rfl (l' := #[.val (.long q1), .second, .val (.long q2), .second, .val (.long q3), .second, .val (.int p4), .val (.int p5), .val (.int n), .val (.int pp), .val (.long (own_floor q1)), .second, .val (.long (own_floor q2)), .second, .val (.long (own_floor q3)), .second, .unset, .unset, .unset, .unset, .unset, .unset, .unset, .unset, .unset, .unset, .unset, .unset, .unset]) rfl hr) ?_
  show OwnR _ _ _ _ _ _ _ (T3.setTop (mkF m 37 #[.val (.long q1), .second, .val (.long q2), .second, .val (.long q3), .second, .val (.int p4), .val (.int p5), .val (.int n), .val (.int pp), .val (.long (own_floor q1)), .second, .val (.long (own_floor q2)), .second, .val (.long (own_floor q3)), .second, .unset, .unset, .unset, .unset, .unset, .unset, .unset, .unset, .unset, .unset, .unset, .unset, .unset] []))
  obtain ⟨T4, h4, X4, e4, E4, A4, D4, -, st4⟩ := newO X3 hx hZ hown (hw _ (List.mem_of_getElem? (i := 14) rfl)) (hw _ (List.mem_of_getElem? (i := 15) rfl)) (hw _ (List.mem_of_getElem? (i := 16) rfl)) e3 (g := (mkF m 37 #[.val (.long q1), .second, .val (.long q2), .second, .val (.long q3), .second, .val (.int p4), .val (.int p5), .val (.int n), .val (.int pp), .val (.long (own_floor q1)), .second, .val (.long (own_floor q2)), .second, .val (.long (own_floor q3)), .second, .unset, .unset, .unset, .unset, .unset, .unset, .unset, .unset, .unset, .unset, .unset, .unset, .unset] [])) rfl (hb hby at_37) (by decide) (by decide)
  obtain ⟨b4, g4⟩ : ∃ z, z = h0.size := ⟨_, rfl⟩
  rw [← g4] at A4 D4 st4
  refine OwnR.of (st4) ?_
  have gn_b4 : n0 ≤ b4 := Nat.le_trans (Nat.le_trans Z0 (Keep.refl h0 []).1) (Nat.le_of_eq g4.symm)
  have sz_b4 : h0.size ≤ b4 := Nat.le_trans (Keep.refl h0 []).1 (Nat.le_of_eq g4.symm)
  have K4 : h0.size ≤ h4.size ∧ True := ⟨Nat.le_trans (Keep.refl h0 []).1 E4.1, trivial⟩
  have F_counts_b4 : Fld Z h4 b4 "com/example/kurir/kurir/bench/Latencies" "counts" "[[J" .null := D4 (Or.inr (hw _ (List.mem_of_getElem? (i := 28) rfl))) (ty := (.array (.array .long))) (by decide)
  have F_count_b4 : Fld Z h4 b4 "com/example/kurir/kurir/bench/Latencies" "count" "J" (.long (0 : Int64)) := D4 (Or.inl (hw _ (List.mem_of_getElem? (i := 67) rfl))) (ty := .long) (by decide)
  have F_maxMicros_b4 : Fld Z h4 b4 "com/example/kurir/kurir/bench/Latencies" "maxMicros" "J" (.long (0 : Int64)) := D4 (Or.inl (hw _ (List.mem_of_getElem? (i := 69) rfl))) (ty := .long) (by decide)
  show OwnR _ _ _ _ _ _ _ (T4.setTop (mkF m 40 #[.val (.long q1), .second, .val (.long q2), .second, .val (.long q3), .second, .val (.int p4), .val (.int p5), .val (.int n), .val (.int pp), .val (.long (own_floor q1)), .second, .val (.long (own_floor q2)), .second, .val (.long (own_floor q3)), .second, .unset, .unset, .unset, .unset, .unset, .unset, .unset, .unset, .unset, .unset, .unset, .unset, .unset] [(.ref b4)]))
  refine OwnR.of (fun _ hr => XS.dup X4.here hx rfl (hb hby at_40) rfl rfl hr) ?_
  show OwnR _ _ _ _ _ _ _ (T4.setTop (mkF m 41 #[.val (.long q1), .second, .val (.long q2), .second, .val (.long q3), .second, .val (.int p4), .val (.int p5), .val (.int n), .val (.int pp), .val (.long (own_floor q1)), .second, .val (.long (own_floor q2)), .second, .val (.long (own_floor q3)), .second, .unset, .unset, .unset, .unset, .unset, .unset, .unset, .unset, .unset, .unset, .unset, .unset, .unset] [(.ref b4), (.ref b4)]))
  obtain ⟨_, _, ⟨T5, L5, kc5, ns5⟩, -, X5, ⟨Lc5, hQ5, l5, y5, z5⟩, st5⟩ := X4.specialBack hx (y := (⟨"com/example/kurir/kurir/bench/Latencies", "<init>", "()V"⟩ : MethodName)) rfl hown (mvT hZ (hw _ (List.mem_of_getElem? (i := 17) rfl))) (mvT hZ (hw _ (List.mem_of_getElem? (i := 18) rfl))) (mvT hZ (hw _ (List.mem_of_getElem? (i := 19) rfl))) (by decide) (backOf (W := 1) (rmInit l Z a0 hw [] b4 h4 n0 (Nat.le_trans Z0 K4.1) A4 F_counts_b4 F_count_b4 F_maxMicros_b4 (S_EB.ext E4) (S_HALF.ext E4) gn_b4) hZ (hw _ (List.mem_of_getElem? (i := 19) rfl)) (hw _ (List.mem_of_getElem? (i := 16) rfl)) (by decide) (by decide)) (g := (mkF m 41 #[.val (.long q1), .second, .val (.long q2), .second, .val (.long q3), .second, .val (.int p4), .val (.int p5), .val (.int n), .val (.int pp), .val (.long (own_floor q1)), .second, .val (.long (own_floor q2)), .second, .val (.long (own_floor q3)), .second, .unset, .unset, .unset, .unset, .unset, .unset, .unset, .unset, .unset, .unset, .unset, .unset, .unset] [(.ref b4), (.ref b4)])) rfl (by rw [hml]; rfl) (Steps.refl _) (a := b4) (argsL := []) (rest := [(.ref b4)]) (lenOf pd___V rfl) rfl (by show 2 * 0 + _ ≤ _; exact Nat.le_of_eq rfl) (hb hby at_41) (fun _ _ => ⟨rfl, e4, (by decide : 1 + 1 ≤ _), (by decide : 3 + 49 ≤ _)⟩)
  dsimp only [Pt.U, Pt.locs, Pt.cells, Pt.slots] at X5 l5 y5 z5 st5 hQ5
  rw [l5, y5, z5] at X5
  obtain ⟨A_5, kA_5, rfl, N5q, P5_0, P5_1, P5_2, P5_3, P5_4, P5_5, P5_6, P5_7, P5_8, P5_9, P5_10⟩ := hQ5
  have K5 : h0.size ≤ T5.heap.size ∧ True := ⟨Nat.le_trans K4.1 P5_0.1, trivial⟩
  have sz_A_5 : h0.size ≤ A_5 := Nat.le_trans K4.1 P5_9
  have N5 := Fr.app N3 N5q
  refine OwnR.of (fun _ hr => st5.trans hr) ?_
  show OwnR _ _ _ _ _ _ _ (T5.setTop (mkF m 44 #[.val (.long q1), .second, .val (.long q2), .second, .val (.long q3), .second, .val (.int p4), .val (.int p5), .val (.int n), .val (.int pp), .val (.long (own_floor q1)), .second, .val (.long (own_floor q2)), .second, .val (.long (own_floor q3)), .second, .unset, .unset, .unset, .unset, .unset, .unset, .unset, .unset, .unset, .unset, .unset, .unset, .unset] [(.ref b4)]))
  refine OwnR.of (fun _ hr => XS.astore X5.here hx rfl (hb hby at_44) rfl rfl (l' := #[.val (.long q1), .second, .val (.long q2), .second, .val (.long q3), .second, .val (.int p4), .val (.int p5), .val (.int n), .val (.int pp), .val (.long (own_floor q1)), .second, .val (.long (own_floor q2)), .second, .val (.long (own_floor q3)), .second, .val (.ref b4), .unset, .unset, .unset, .unset, .unset, .unset, .unset, .unset, .unset, .unset, .unset, .unset]) rfl hr) ?_
  show OwnR _ _ _ _ _ _ _ (T5.setTop (mkF m 46 #[.val (.long q1), .second, .val (.long q2), .second, .val (.long q3), .second, .val (.int p4), .val (.int p5), .val (.int n), .val (.int pp), .val (.long (own_floor q1)), .second, .val (.long (own_floor q2)), .second, .val (.long (own_floor q3)), .second, .val (.ref b4), .unset, .unset, .unset, .unset, .unset, .unset, .unset, .unset, .unset, .unset, .unset, .unset] []))
  obtain ⟨m1, j1, mc1, mI1, iI1, ky1, hmc1, hm1, hmn1, hm01, hm491, hi1, hjn1, hi01, hil1⟩ := own_samp q1
  obtain ⟨m2, j2, mc2, mI2, iI2, ky2, hmc2, hm2, hmn2, hm02, hm492, hi2, hjn2, hi02, hil2⟩ := own_samp q2
  obtain ⟨m3, j3, mc3, mI3, iI3, ky3, hmc3, hm3, hmn3, hm03, hm493, hi3, hjn3, hi03, hil3⟩ := own_samp q3
  rcases hn4 with rfl | rfl | rfl | rfl
  · skip
    show OwnR _ _ _ _ _ _ _ (T5.setTop (mkF m 46 #[.val (.long q1), .second, .val (.long q2), .second, .val (.long q3), .second, .val (.int p4), .val (.int p5), .val (.int (0 : Int32)), .val (.int pp), .val (.long (own_floor q1)), .second, .val (.long (own_floor q2)), .second, .val (.long (own_floor q3)), .second, .val (.ref b4), .unset, .unset, .unset, .unset, .unset, .unset, .unset, .unset, .unset, .unset, .unset, .unset] []))
    refine OwnR.of (fun _ hr => XS.iload X5.here hx rfl (hb hby at_46) rfl hr) ?_
    show OwnR _ _ _ _ _ _ _ (T5.setTop (mkF m 48 #[.val (.long q1), .second, .val (.long q2), .second, .val (.long q3), .second, .val (.int p4), .val (.int p5), .val (.int (0 : Int32)), .val (.int pp), .val (.long (own_floor q1)), .second, .val (.long (own_floor q2)), .second, .val (.long (own_floor q3)), .second, .val (.ref b4), .unset, .unset, .unset, .unset, .unset, .unset, .unset, .unset, .unset, .unset, .unset, .unset] [(.int (0 : Int32))]))
    refine OwnR.of (fun _ hr => XS.iconst X5.here hx rfl (hb hby at_48) hr) ?_
    show OwnR _ _ _ _ _ _ _ (T5.setTop (mkF m 49 #[.val (.long q1), .second, .val (.long q2), .second, .val (.long q3), .second, .val (.int p4), .val (.int p5), .val (.int (0 : Int32)), .val (.int pp), .val (.long (own_floor q1)), .second, .val (.long (own_floor q2)), .second, .val (.long (own_floor q3)), .second, .val (.ref b4), .unset, .unset, .unset, .unset, .unset, .unset, .unset, .unset, .unset, .unset, .unset, .unset] [(.int (1 : Int32)), (.int (0 : Int32))]))
    refine OwnR.of (fun _ hr => XS.icmpYes X5.here hx rfl (pc0 := 49) (pc' := 61) rfl (hb hby at_49) rfl (tlt (by decide : (0 : Int32) < (1 : Int32))).1 (by decide) (by decide) hr) ?_
    show OwnR _ _ _ _ _ _ _ (T5.setTop (mkF m 61 #[.val (.long q1), .second, .val (.long q2), .second, .val (.long q3), .second, .val (.int p4), .val (.int p5), .val (.int (0 : Int32)), .val (.int pp), .val (.long (own_floor q1)), .second, .val (.long (own_floor q2)), .second, .val (.long (own_floor q3)), .second, .val (.ref b4), .unset, .unset, .unset, .unset, .unset, .unset, .unset, .unset, .unset, .unset, .unset, .unset] []))
    refine OwnR.of (fun _ hr => XS.iload X5.here hx rfl (hb hby at_61) rfl hr) ?_
    show OwnR _ _ _ _ _ _ _ (T5.setTop (mkF m 63 #[.val (.long q1), .second, .val (.long q2), .second, .val (.long q3), .second, .val (.int p4), .val (.int p5), .val (.int (0 : Int32)), .val (.int pp), .val (.long (own_floor q1)), .second, .val (.long (own_floor q2)), .second, .val (.long (own_floor q3)), .second, .val (.ref b4), .unset, .unset, .unset, .unset, .unset, .unset, .unset, .unset, .unset, .unset, .unset, .unset] [(.int (0 : Int32))]))
    refine OwnR.of (fun _ hr => XS.iconst X5.here hx rfl (hb hby at_63) hr) ?_
    show OwnR _ _ _ _ _ _ _ (T5.setTop (mkF m 64 #[.val (.long q1), .second, .val (.long q2), .second, .val (.long q3), .second, .val (.int p4), .val (.int p5), .val (.int (0 : Int32)), .val (.int pp), .val (.long (own_floor q1)), .second, .val (.long (own_floor q2)), .second, .val (.long (own_floor q3)), .second, .val (.ref b4), .unset, .unset, .unset, .unset, .unset, .unset, .unset, .unset, .unset, .unset, .unset, .unset] [(.int (2 : Int32)), (.int (0 : Int32))]))
    refine OwnR.of (fun _ hr => XS.icmpYes X5.here hx rfl (pc0 := 64) (pc' := 76) rfl (hb hby at_64) rfl (tlt (by decide : (0 : Int32) < (2 : Int32))).1 (by decide) (by decide) hr) ?_
    show OwnR _ _ _ _ _ _ _ (T5.setTop (mkF m 76 #[.val (.long q1), .second, .val (.long q2), .second, .val (.long q3), .second, .val (.int p4), .val (.int p5), .val (.int (0 : Int32)), .val (.int pp), .val (.long (own_floor q1)), .second, .val (.long (own_floor q2)), .second, .val (.long (own_floor q3)), .second, .val (.ref b4), .unset, .unset, .unset, .unset, .unset, .unset, .unset, .unset, .unset, .unset, .unset, .unset] []))
    refine OwnR.of (fun _ hr => XS.iload X5.here hx rfl (hb hby at_76) rfl hr) ?_
    show OwnR _ _ _ _ _ _ _ (T5.setTop (mkF m 78 #[.val (.long q1), .second, .val (.long q2), .second, .val (.long q3), .second, .val (.int p4), .val (.int p5), .val (.int (0 : Int32)), .val (.int pp), .val (.long (own_floor q1)), .second, .val (.long (own_floor q2)), .second, .val (.long (own_floor q3)), .second, .val (.ref b4), .unset, .unset, .unset, .unset, .unset, .unset, .unset, .unset, .unset, .unset, .unset, .unset] [(.int (0 : Int32))]))
    refine OwnR.of (fun _ hr => XS.iconst X5.here hx rfl (hb hby at_78) hr) ?_
    show OwnR _ _ _ _ _ _ _ (T5.setTop (mkF m 79 #[.val (.long q1), .second, .val (.long q2), .second, .val (.long q3), .second, .val (.int p4), .val (.int p5), .val (.int (0 : Int32)), .val (.int pp), .val (.long (own_floor q1)), .second, .val (.long (own_floor q2)), .second, .val (.long (own_floor q3)), .second, .val (.ref b4), .unset, .unset, .unset, .unset, .unset, .unset, .unset, .unset, .unset, .unset, .unset, .unset] [(.int (3 : Int32)), (.int (0 : Int32))]))
    refine OwnR.of (fun _ hr => XS.icmpYes X5.here hx rfl (pc0 := 79) (pc' := 92) rfl (hb hby at_79) rfl (tlt (by decide : (0 : Int32) < (3 : Int32))).1 (by decide) (by decide) hr) ?_
    show OwnR _ _ _ _ _ _ _ (T5.setTop (mkF m 92 #[.val (.long q1), .second, .val (.long q2), .second, .val (.long q3), .second, .val (.int p4), .val (.int p5), .val (.int (0 : Int32)), .val (.int pp), .val (.long (own_floor q1)), .second, .val (.long (own_floor q2)), .second, .val (.long (own_floor q3)), .second, .val (.ref b4), .unset, .unset, .unset, .unset, .unset, .unset, .unset, .unset, .unset, .unset, .unset, .unset] []))
    refine OwnR.of (fun _ hr => XS.aload X5.here hx rfl (hb hby at_92) rfl rfl hr) ?_
    show OwnR _ _ _ _ _ _ _ (T5.setTop (mkF m 94 #[.val (.long q1), .second, .val (.long q2), .second, .val (.long q3), .second, .val (.int p4), .val (.int p5), .val (.int (0 : Int32)), .val (.int pp), .val (.long (own_floor q1)), .second, .val (.long (own_floor q2)), .second, .val (.long (own_floor q3)), .second, .val (.ref b4), .unset, .unset, .unset, .unset, .unset, .unset, .unset, .unset, .unset, .unset, .unset, .unset] [(.ref b4)]))
    refine OwnR.of (fun _ hr => XS.iload X5.here hx rfl (hb hby at_94) rfl hr) ?_
    show OwnR _ _ _ _ _ _ _ (T5.setTop (mkF m 96 #[.val (.long q1), .second, .val (.long q2), .second, .val (.long q3), .second, .val (.int p4), .val (.int p5), .val (.int (0 : Int32)), .val (.int pp), .val (.long (own_floor q1)), .second, .val (.long (own_floor q2)), .second, .val (.long (own_floor q3)), .second, .val (.ref b4), .unset, .unset, .unset, .unset, .unset, .unset, .unset, .unset, .unset, .unset, .unset, .unset] [(.int pp), (.ref b4)]))
    obtain ⟨cq6, kq6, q6a, q6b, q6c⟩ := isOf hZ rfl P5_1
    obtain ⟨_, _, ⟨T6, L6, kc6, ns6⟩, -, X6, ⟨Lc6, hQ6, l6, y6, z6⟩, st6⟩ := X5.virtualBack hx (y := (⟨"com/example/kurir/kurir/bench/Latencies", "percentileMicros", "(I)J"⟩ : MethodName)) (z := (⟨"com/example/kurir/kurir/bench/Latencies", "percentileMicros", "(I)J"⟩ : MethodName)) hown (mvT hZ (hw _ (List.mem_of_getElem? (i := 70) rfl))) (mvT hZ (hw _ (List.mem_of_getElem? (i := 71) rfl))) (notFace_of_selects (args := #[]) (mvT hZ (hw _ (List.mem_of_getElem? (i := 73) rfl)))) (mvT hZ (hw _ (List.mem_of_getElem? (i := 73) rfl))) (mvT hZ (hw _ (List.mem_of_getElem? (i := 72) rfl))) (by decide) (backOf (W := 0) (rmPct l Z a0 hw [] b4 pp A_5 kA_5 n0 (fun _ => Value.null) ([]) (0 : Int64) (0 : Int64) ((((0 : Int64) * pp.toInt64) + (99 : Int64)) / (100 : Int64)) (0 : Int64) (T5.heap) n0 (Nat.le_trans Z0 K5.1) P5_1 P5_2 P5_3 P5_4 P5_7 P5_8 (OwnHi.start P5_5) rfl (own_I0 _)) hZ (hw _ (List.mem_of_getElem? (i := 74) rfl)) (hw _ (List.mem_of_getElem? (i := 16) rfl)) (by decide) (by decide)) q6a q6c (g := (mkF m 96 #[.val (.long q1), .second, .val (.long q2), .second, .val (.long q3), .second, .val (.int p4), .val (.int p5), .val (.int (0 : Int32)), .val (.int pp), .val (.long (own_floor q1)), .second, .val (.long (own_floor q2)), .second, .val (.long (own_floor q3)), .second, .val (.ref b4), .unset, .unset, .unset, .unset, .unset, .unset, .unset, .unset, .unset, .unset, .unset, .unset] [(.int pp), (.ref b4)])) rfl (by rw [hml]; rfl) (Steps.refl _) (argsL := [(.int pp)]) (rest := []) (lenOf pd__I_J rfl) rfl (by show 2 * 0 + _ ≤ _; exact Nat.le_of_eq rfl) (hb hby at_96) (fun _ _ => ⟨rfl, rfl, (by decide : 2 + 0 ≤ _), (show 52 + 0 ≤ 157376 from (by decide))⟩)
    dsimp only [Pt.U, Pt.locs, Pt.cells, Pt.slots] at X6 l6 y6 z6 st6 hQ6
    rw [l6, y6, z6] at X6
    obtain ⟨rfl, N6q, e6⟩ := hQ6
    have N6 := Fr.app N5 N6q
    refine OwnR.of (fun _ hr => st6.trans hr) ?_
    show OwnR _ _ _ _ _ _ _ (T6.setTop (mkF m 99 #[.val (.long q1), .second, .val (.long q2), .second, .val (.long q3), .second, .val (.int p4), .val (.int p5), .val (.int (0 : Int32)), .val (.int pp), .val (.long (own_floor q1)), .second, .val (.long (own_floor q2)), .second, .val (.long (own_floor q3)), .second, .val (.ref b4), .unset, .unset, .unset, .unset, .unset, .unset, .unset, .unset, .unset, .unset, .unset, .unset] [(.long (0 : Int64))]))
    refine OwnR.of (fun _ hr => XS.lstore X6.here hx rfl (hb hby at_99) rfl (l' := #[.val (.long q1), .second, .val (.long q2), .second, .val (.long q3), .second, .val (.int p4), .val (.int p5), .val (.int (0 : Int32)), .val (.int pp), .val (.long (own_floor q1)), .second, .val (.long (own_floor q2)), .second, .val (.long (own_floor q3)), .second, .val (.ref b4), .val (.long (0 : Int64)), .second, .unset, .unset, .unset, .unset, .unset, .unset, .unset, .unset, .unset, .unset]) rfl hr) ?_
    show OwnR _ _ _ _ _ _ _ (T6.setTop (mkF m 101 #[.val (.long q1), .second, .val (.long q2), .second, .val (.long q3), .second, .val (.int p4), .val (.int p5), .val (.int (0 : Int32)), .val (.int pp), .val (.long (own_floor q1)), .second, .val (.long (own_floor q2)), .second, .val (.long (own_floor q3)), .second, .val (.ref b4), .val (.long (0 : Int64)), .second, .unset, .unset, .unset, .unset, .unset, .unset, .unset, .unset, .unset, .unset] []))
    refine OwnR.of (fun _ hr => XS.iload X6.here hx rfl (hb hby at_101) rfl hr) ?_
    show OwnR _ _ _ _ _ _ _ (T6.setTop (mkF m 103 #[.val (.long q1), .second, .val (.long q2), .second, .val (.long q3), .second, .val (.int p4), .val (.int p5), .val (.int (0 : Int32)), .val (.int pp), .val (.long (own_floor q1)), .second, .val (.long (own_floor q2)), .second, .val (.long (own_floor q3)), .second, .val (.ref b4), .val (.long (0 : Int64)), .second, .unset, .unset, .unset, .unset, .unset, .unset, .unset, .unset, .unset, .unset] [(.int (0 : Int32))]))
    refine OwnR.of (fun _ hr => XS.ifNo X6.here hx rfl (hb hby at_103) rfl ((if0 _ _).trans (teq (by decide : (0 : Int32) = (0 : Int32))).2) hr) ?_
    show OwnR _ _ _ _ _ _ _ (T6.setTop (mkF m 106 #[.val (.long q1), .second, .val (.long q2), .second, .val (.long q3), .second, .val (.int p4), .val (.int p5), .val (.int (0 : Int32)), .val (.int pp), .val (.long (own_floor q1)), .second, .val (.long (own_floor q2)), .second, .val (.long (own_floor q3)), .second, .val (.ref b4), .val (.long (0 : Int64)), .second, .unset, .unset, .unset, .unset, .unset, .unset, .unset, .unset, .unset, .unset] []))
    refine OwnR.of (fun _ hr => XS.lconst X6.here hx rfl (hb hby at_106) hr) ?_
    show OwnR _ _ _ _ _ _ _ (T6.setTop (mkF m 107 #[.val (.long q1), .second, .val (.long q2), .second, .val (.long q3), .second, .val (.int p4), .val (.int p5), .val (.int (0 : Int32)), .val (.int pp), .val (.long (own_floor q1)), .second, .val (.long (own_floor q2)), .second, .val (.long (own_floor q3)), .second, .val (.ref b4), .val (.long (0 : Int64)), .second, .unset, .unset, .unset, .unset, .unset, .unset, .unset, .unset, .unset, .unset] [(.long (0 : Int64))]))
    refine OwnR.of (fun _ hr => XS.lstore X6.here hx rfl (hb hby at_107) rfl (l' := #[.val (.long q1), .second, .val (.long q2), .second, .val (.long q3), .second, .val (.int p4), .val (.int p5), .val (.int (0 : Int32)), .val (.int pp), .val (.long (own_floor q1)), .second, .val (.long (own_floor q2)), .second, .val (.long (own_floor q3)), .second, .val (.ref b4), .val (.long (0 : Int64)), .second, .val (.long (0 : Int64)), .second, .unset, .unset, .unset, .unset, .unset, .unset, .unset, .unset]) rfl hr) ?_
    show OwnR _ _ _ _ _ _ _ (T6.setTop (mkF m 109 #[.val (.long q1), .second, .val (.long q2), .second, .val (.long q3), .second, .val (.int p4), .val (.int p5), .val (.int (0 : Int32)), .val (.int pp), .val (.long (own_floor q1)), .second, .val (.long (own_floor q2)), .second, .val (.long (own_floor q3)), .second, .val (.ref b4), .val (.long (0 : Int64)), .second, .val (.long (0 : Int64)), .second, .unset, .unset, .unset, .unset, .unset, .unset, .unset, .unset] []))
    refine OwnR.of (fun _ hr => XS.goto X6.here hx rfl (pc0 := 109) (pc' := 270) rfl (hb hby at_109) (by decide) (by decide) hr) ?_
    show OwnR _ _ _ _ _ _ _ (T6.setTop (mkF m 270 #[.val (.long q1), .second, .val (.long q2), .second, .val (.long q3), .second, .val (.int p4), .val (.int p5), .val (.int (0 : Int32)), .val (.int pp), .val (.long (own_floor q1)), .second, .val (.long (own_floor q2)), .second, .val (.long (own_floor q3)), .second, .val (.ref b4), .val (.long (0 : Int64)), .second, .val (.long (0 : Int64)), .second, .unset, .unset, .unset, .unset, .unset, .unset, .unset, .unset] []))
    refine OwnR.of (fun _ hr => XS.lload X6.here hx rfl (hb hby at_270) rfl hr) ?_
    show OwnR _ _ _ _ _ _ _ (T6.setTop (mkF m 272 #[.val (.long q1), .second, .val (.long q2), .second, .val (.long q3), .second, .val (.int p4), .val (.int p5), .val (.int (0 : Int32)), .val (.int pp), .val (.long (own_floor q1)), .second, .val (.long (own_floor q2)), .second, .val (.long (own_floor q3)), .second, .val (.ref b4), .val (.long (0 : Int64)), .second, .val (.long (0 : Int64)), .second, .unset, .unset, .unset, .unset, .unset, .unset, .unset, .unset] [(.long (0 : Int64))]))
    refine OwnR.of (fun _ hr => XS.lload X6.here hx rfl (hb hby at_272) rfl hr) ?_
    show OwnR _ _ _ _ _ _ _ (T6.setTop (mkF m 274 #[.val (.long q1), .second, .val (.long q2), .second, .val (.long q3), .second, .val (.int p4), .val (.int p5), .val (.int (0 : Int32)), .val (.int pp), .val (.long (own_floor q1)), .second, .val (.long (own_floor q2)), .second, .val (.long (own_floor q3)), .second, .val (.ref b4), .val (.long (0 : Int64)), .second, .val (.long (0 : Int64)), .second, .unset, .unset, .unset, .unset, .unset, .unset, .unset, .unset] [(.long (0 : Int64)), (.long (0 : Int64))]))
    refine OwnR.of (fun _ hr => XS.lcmp X6.here hx rfl (hb hby at_274) rfl hr) ?_
    show OwnR _ _ _ _ _ _ _ (T6.setTop (mkF m 275 #[.val (.long q1), .second, .val (.long q2), .second, .val (.long q3), .second, .val (.int p4), .val (.int p5), .val (.int (0 : Int32)), .val (.int pp), .val (.long (own_floor q1)), .second, .val (.long (own_floor q2)), .second, .val (.long (own_floor q3)), .second, .val (.ref b4), .val (.long (0 : Int64)), .second, .val (.long (0 : Int64)), .second, .unset, .unset, .unset, .unset, .unset, .unset, .unset, .unset] [(.int (lcmpW (0 : Int64) (0 : Int64)))]))
    refine OwnR.of (fun _ hr => XS.ifNo X6.here hx rfl (hb hby at_275) rfl ((if0 _ _).trans (teq ((own_lceq _ _).mpr (by decide : (0 : Int64) = (0 : Int64)))).2) hr) ?_
    show OwnR _ _ _ _ _ _ _ (T6.setTop (mkF m 278 #[.val (.long q1), .second, .val (.long q2), .second, .val (.long q3), .second, .val (.int p4), .val (.int p5), .val (.int (0 : Int32)), .val (.int pp), .val (.long (own_floor q1)), .second, .val (.long (own_floor q2)), .second, .val (.long (own_floor q3)), .second, .val (.ref b4), .val (.long (0 : Int64)), .second, .val (.long (0 : Int64)), .second, .unset, .unset, .unset, .unset, .unset, .unset, .unset, .unset] []))
    refine OwnR.of (fun _ hr => XS.aload X6.here hx rfl (hb hby at_278) rfl rfl hr) ?_
    show OwnR _ _ _ _ _ _ _ (T6.setTop (mkF m 280 #[.val (.long q1), .second, .val (.long q2), .second, .val (.long q3), .second, .val (.int p4), .val (.int p5), .val (.int (0 : Int32)), .val (.int pp), .val (.long (own_floor q1)), .second, .val (.long (own_floor q2)), .second, .val (.long (own_floor q3)), .second, .val (.ref b4), .val (.long (0 : Int64)), .second, .val (.long (0 : Int64)), .second, .unset, .unset, .unset, .unset, .unset, .unset, .unset, .unset] [(.ref b4)]))
    obtain ⟨cq7, kq7, q7a, q7b, q7c⟩ := isOf hZ e6 P5_1
    obtain ⟨_, _, ⟨T7, L7, kc7, ns7⟩, -, X7, ⟨Lc7, hQ7, l7, y7, z7⟩, st7⟩ := X6.virtualBack hx (y := (⟨"com/example/kurir/kurir/bench/Latencies", "count", "()J"⟩ : MethodName)) (z := (⟨"com/example/kurir/kurir/bench/Latencies", "count", "()J"⟩ : MethodName)) hown (mvT hZ (hw _ (List.mem_of_getElem? (i := 81) rfl))) (mvT hZ (hw _ (List.mem_of_getElem? (i := 82) rfl))) (notFace_of_selects (args := #[]) (mvT hZ (hw _ (List.mem_of_getElem? (i := 84) rfl)))) (mvT hZ (hw _ (List.mem_of_getElem? (i := 84) rfl))) (mvT hZ (hw _ (List.mem_of_getElem? (i := 83) rfl))) (by decide) (backOf (W := 0) (rmCount l Z a0 hw [] b4 (0 : Int64) (T5.heap) n0 (Nat.le_trans Z0 K5.1) P5_1 P5_3) hZ (hw _ (List.mem_of_getElem? (i := 85) rfl)) (hw _ (List.mem_of_getElem? (i := 16) rfl)) (by decide) (by decide)) q7a q7c (g := (mkF m 280 #[.val (.long q1), .second, .val (.long q2), .second, .val (.long q3), .second, .val (.int p4), .val (.int p5), .val (.int (0 : Int32)), .val (.int pp), .val (.long (own_floor q1)), .second, .val (.long (own_floor q2)), .second, .val (.long (own_floor q3)), .second, .val (.ref b4), .val (.long (0 : Int64)), .second, .val (.long (0 : Int64)), .second, .unset, .unset, .unset, .unset, .unset, .unset, .unset, .unset] [(.ref b4)])) rfl (by rw [hml]; rfl) (Steps.refl _) (argsL := []) (rest := []) (lenOf pd___J rfl) rfl (by show 2 * 0 + _ ≤ _; exact Nat.le_of_eq rfl) (hb hby at_280) (fun _ _ => ⟨rfl, e6, (by decide : 2 + 0 ≤ _), (show 52 + 0 ≤ 157376 from (by decide))⟩)
    dsimp only [Pt.U, Pt.locs, Pt.cells, Pt.slots] at X7 l7 y7 z7 st7 hQ7
    rw [l7, y7, z7] at X7
    obtain ⟨rfl, N7q, e7⟩ := hQ7
    have N7 := Fr.app N6 N7q
    refine OwnR.of (fun _ hr => st7.trans hr) ?_
    show OwnR _ _ _ _ _ _ _ (T7.setTop (mkF m 283 #[.val (.long q1), .second, .val (.long q2), .second, .val (.long q3), .second, .val (.int p4), .val (.int p5), .val (.int (0 : Int32)), .val (.int pp), .val (.long (own_floor q1)), .second, .val (.long (own_floor q2)), .second, .val (.long (own_floor q3)), .second, .val (.ref b4), .val (.long (0 : Int64)), .second, .val (.long (0 : Int64)), .second, .unset, .unset, .unset, .unset, .unset, .unset, .unset, .unset] [(.long (0 : Int64))]))
    refine OwnR.of (fun _ hr => XS.iload X7.here hx rfl (hb hby at_283) rfl hr) ?_
    show OwnR _ _ _ _ _ _ _ (T7.setTop (mkF m 285 #[.val (.long q1), .second, .val (.long q2), .second, .val (.long q3), .second, .val (.int p4), .val (.int p5), .val (.int (0 : Int32)), .val (.int pp), .val (.long (own_floor q1)), .second, .val (.long (own_floor q2)), .second, .val (.long (own_floor q3)), .second, .val (.ref b4), .val (.long (0 : Int64)), .second, .val (.long (0 : Int64)), .second, .unset, .unset, .unset, .unset, .unset, .unset, .unset, .unset] [(.int (0 : Int32)), (.long (0 : Int64))]))
    refine OwnR.of (fun _ hr => XS.i2l X7.here hx rfl (hb hby at_285) rfl hr) ?_
    show OwnR _ _ _ _ _ _ _ (T7.setTop (mkF m 286 #[.val (.long q1), .second, .val (.long q2), .second, .val (.long q3), .second, .val (.int p4), .val (.int p5), .val (.int (0 : Int32)), .val (.int pp), .val (.long (own_floor q1)), .second, .val (.long (own_floor q2)), .second, .val (.long (own_floor q3)), .second, .val (.ref b4), .val (.long (0 : Int64)), .second, .val (.long (0 : Int64)), .second, .unset, .unset, .unset, .unset, .unset, .unset, .unset, .unset] [(.long ((0 : Int32).toInt64)), (.long (0 : Int64))]))
    rw [(by decide : ((0 : Int32).toInt64) = (0 : Int64))]
    show OwnR _ _ _ _ _ _ _ (T7.setTop (mkF m 286 #[.val (.long q1), .second, .val (.long q2), .second, .val (.long q3), .second, .val (.int p4), .val (.int p5), .val (.int (0 : Int32)), .val (.int pp), .val (.long (own_floor q1)), .second, .val (.long (own_floor q2)), .second, .val (.long (own_floor q3)), .second, .val (.ref b4), .val (.long (0 : Int64)), .second, .val (.long (0 : Int64)), .second, .unset, .unset, .unset, .unset, .unset, .unset, .unset, .unset] [(.long (0 : Int64)), (.long (0 : Int64))]))
    refine OwnR.of (fun _ hr => XS.lcmp X7.here hx rfl (hb hby at_286) rfl hr) ?_
    show OwnR _ _ _ _ _ _ _ (T7.setTop (mkF m 287 #[.val (.long q1), .second, .val (.long q2), .second, .val (.long q3), .second, .val (.int p4), .val (.int p5), .val (.int (0 : Int32)), .val (.int pp), .val (.long (own_floor q1)), .second, .val (.long (own_floor q2)), .second, .val (.long (own_floor q3)), .second, .val (.ref b4), .val (.long (0 : Int64)), .second, .val (.long (0 : Int64)), .second, .unset, .unset, .unset, .unset, .unset, .unset, .unset, .unset] [(.int (lcmpW (0 : Int64) (0 : Int64)))]))
    refine OwnR.of (fun _ hr => XS.ifNo X7.here hx rfl (hb hby at_287) rfl ((if0 _ _).trans (teq ((own_lceq _ _).mpr (by decide : (0 : Int64) = (0 : Int64)))).2) hr) ?_
    show OwnR _ _ _ _ _ _ _ (T7.setTop (mkF m 290 #[.val (.long q1), .second, .val (.long q2), .second, .val (.long q3), .second, .val (.int p4), .val (.int p5), .val (.int (0 : Int32)), .val (.int pp), .val (.long (own_floor q1)), .second, .val (.long (own_floor q2)), .second, .val (.long (own_floor q3)), .second, .val (.ref b4), .val (.long (0 : Int64)), .second, .val (.long (0 : Int64)), .second, .unset, .unset, .unset, .unset, .unset, .unset, .unset, .unset] []))
    refine OwnR.of (fun _ hr => XS.iconst X7.here hx rfl (hb hby at_290) hr) ?_
    show OwnR _ _ _ _ _ _ _ (T7.setTop (mkF m 291 #[.val (.long q1), .second, .val (.long q2), .second, .val (.long q3), .second, .val (.int p4), .val (.int p5), .val (.int (0 : Int32)), .val (.int pp), .val (.long (own_floor q1)), .second, .val (.long (own_floor q2)), .second, .val (.long (own_floor q3)), .second, .val (.ref b4), .val (.long (0 : Int64)), .second, .val (.long (0 : Int64)), .second, .unset, .unset, .unset, .unset, .unset, .unset, .unset, .unset] [(.int (1 : Int32))]))
    refine OwnR.of (fun _ hr => XS.goto X7.here hx rfl (pc0 := 291) (pc' := 295) rfl (hb hby at_291) (by decide) (by decide) hr) ?_
    show OwnR _ _ _ _ _ _ _ (T7.setTop (mkF m 295 #[.val (.long q1), .second, .val (.long q2), .second, .val (.long q3), .second, .val (.int p4), .val (.int p5), .val (.int (0 : Int32)), .val (.int pp), .val (.long (own_floor q1)), .second, .val (.long (own_floor q2)), .second, .val (.long (own_floor q3)), .second, .val (.ref b4), .val (.long (0 : Int64)), .second, .val (.long (0 : Int64)), .second, .unset, .unset, .unset, .unset, .unset, .unset, .unset, .unset] [(.int (1 : Int32))]))
    refine own_leafN X7 hx hlk (t := .boolean) Bd.returns (by simp) (hb hby at_295) (z' := (1 : Int32)) rfl (by decide) (show 52 ≤ 157376 from (by decide)) ?_
    show Q0 Z  h0 n0 _ T7.heap _
    rw [show T7.heap = T5.heap from e7]
    refine ⟨?_, N7⟩
    show (some (.int (1 : Int32)) : Option Value) = some (.int (1 : Int32))
    rfl
  · skip
    show OwnR _ _ _ _ _ _ _ (T5.setTop (mkF m 46 #[.val (.long q1), .second, .val (.long q2), .second, .val (.long q3), .second, .val (.int p4), .val (.int p5), .val (.int (1 : Int32)), .val (.int pp), .val (.long (own_floor q1)), .second, .val (.long (own_floor q2)), .second, .val (.long (own_floor q3)), .second, .val (.ref b4), .unset, .unset, .unset, .unset, .unset, .unset, .unset, .unset, .unset, .unset, .unset, .unset] []))
    refine OwnR.of (fun _ hr => XS.iload X5.here hx rfl (hb hby at_46) rfl hr) ?_
    show OwnR _ _ _ _ _ _ _ (T5.setTop (mkF m 48 #[.val (.long q1), .second, .val (.long q2), .second, .val (.long q3), .second, .val (.int p4), .val (.int p5), .val (.int (1 : Int32)), .val (.int pp), .val (.long (own_floor q1)), .second, .val (.long (own_floor q2)), .second, .val (.long (own_floor q3)), .second, .val (.ref b4), .unset, .unset, .unset, .unset, .unset, .unset, .unset, .unset, .unset, .unset, .unset, .unset] [(.int (1 : Int32))]))
    refine OwnR.of (fun _ hr => XS.iconst X5.here hx rfl (hb hby at_48) hr) ?_
    show OwnR _ _ _ _ _ _ _ (T5.setTop (mkF m 49 #[.val (.long q1), .second, .val (.long q2), .second, .val (.long q3), .second, .val (.int p4), .val (.int p5), .val (.int (1 : Int32)), .val (.int pp), .val (.long (own_floor q1)), .second, .val (.long (own_floor q2)), .second, .val (.long (own_floor q3)), .second, .val (.ref b4), .unset, .unset, .unset, .unset, .unset, .unset, .unset, .unset, .unset, .unset, .unset, .unset] [(.int (1 : Int32)), (.int (1 : Int32))]))
    refine OwnR.of (fun _ hr => XS.icmpNo X5.here hx rfl (hb hby at_49) rfl (flt (by decide : ¬ ((1 : Int32) < (1 : Int32)))).1 hr) ?_
    show OwnR _ _ _ _ _ _ _ (T5.setTop (mkF m 52 #[.val (.long q1), .second, .val (.long q2), .second, .val (.long q3), .second, .val (.int p4), .val (.int p5), .val (.int (1 : Int32)), .val (.int pp), .val (.long (own_floor q1)), .second, .val (.long (own_floor q2)), .second, .val (.long (own_floor q3)), .second, .val (.ref b4), .unset, .unset, .unset, .unset, .unset, .unset, .unset, .unset, .unset, .unset, .unset, .unset] []))
    refine OwnR.of (fun _ hr => XS.aload X5.here hx rfl (hb hby at_52) rfl rfl hr) ?_
    show OwnR _ _ _ _ _ _ _ (T5.setTop (mkF m 54 #[.val (.long q1), .second, .val (.long q2), .second, .val (.long q3), .second, .val (.int p4), .val (.int p5), .val (.int (1 : Int32)), .val (.int pp), .val (.long (own_floor q1)), .second, .val (.long (own_floor q2)), .second, .val (.long (own_floor q3)), .second, .val (.ref b4), .unset, .unset, .unset, .unset, .unset, .unset, .unset, .unset, .unset, .unset, .unset, .unset] [(.ref b4)]))
    refine OwnR.of (fun _ hr => XS.lloadN X5.here hx rfl (hb hby at_54) rfl hr) ?_
    show OwnR _ _ _ _ _ _ _ (T5.setTop (mkF m 55 #[.val (.long q1), .second, .val (.long q2), .second, .val (.long q3), .second, .val (.int p4), .val (.int p5), .val (.int (1 : Int32)), .val (.int pp), .val (.long (own_floor q1)), .second, .val (.long (own_floor q2)), .second, .val (.long (own_floor q3)), .second, .val (.ref b4), .unset, .unset, .unset, .unset, .unset, .unset, .unset, .unset, .unset, .unset, .unset, .unset] [(.long q1), (.ref b4)]))
    obtain ⟨_, _, ⟨T8, L8, kc8, ns8⟩, -, X8, ⟨Lc8, hQ8, l8, y8, z8⟩, st8⟩ := Jvm.LawKit.callS X5 hx (y := (⟨"com/example/kurir/kurir/bench/LatenciesPercentileMicrosPinLaw", "nanosOf", "(J)J"⟩ : MethodName)) hown (mvT hZ (hw _ (List.mem_of_getElem? (i := 29) rfl))) (mvT hZ (hw _ (List.mem_of_getElem? (i := 30) rfl))) (mvT hZ (hw _ (List.mem_of_getElem? (i := 3) rfl))) (mvT hZ (hw _ (List.mem_of_getElem? (i := 31) rfl))) (by decide) (backOf (W := 1) (rmNanos l Z a0 hw [] q1 (T5.heap) n0 (Nat.le_trans Z0 K5.1) ) hZ (hw _ (List.mem_of_getElem? (i := 31) rfl)) (hw _ (List.mem_of_getElem? (i := 3) rfl)) (by decide) (by decide)) (g := (mkF m 55 #[.val (.long q1), .second, .val (.long q2), .second, .val (.long q3), .second, .val (.int p4), .val (.int p5), .val (.int (1 : Int32)), .val (.int pp), .val (.long (own_floor q1)), .second, .val (.long (own_floor q2)), .second, .val (.long (own_floor q3)), .second, .val (.ref b4), .unset, .unset, .unset, .unset, .unset, .unset, .unset, .unset, .unset, .unset, .unset, .unset] [(.long q1), (.ref b4)])) rfl (by rw [hml]; rfl) (argsL := [(.long q1)]) (rest := [(.ref b4)]) (lenOf pd__J_J rfl) rfl (by show 2 * 0 + _ ≤ _; exact Nat.le_of_eq rfl) (hb hby at_55) (fun _ _ => ⟨rfl, rfl, (by decide : 2 + 0 ≤ _), (show 52 + 0 ≤ 157376 from (by decide))⟩)
    dsimp only [Pt.U, Pt.locs, Pt.cells, Pt.slots] at X8 l8 y8 z8 st8 hQ8
    rw [l8, y8, z8] at X8
    obtain ⟨rfl, N8q, e8⟩ := hQ8
    have N8 := Fr.app N5 N8q
    refine OwnR.of (st8) ?_
    show OwnR _ _ _ _ _ _ _ (T8.setTop (mkF m 58 #[.val (.long q1), .second, .val (.long q2), .second, .val (.long q3), .second, .val (.int p4), .val (.int p5), .val (.int (1 : Int32)), .val (.int pp), .val (.long (own_floor q1)), .second, .val (.long (own_floor q2)), .second, .val (.long (own_floor q3)), .second, .val (.ref b4), .unset, .unset, .unset, .unset, .unset, .unset, .unset, .unset, .unset, .unset, .unset, .unset] [(.long (own_nanos q1)), (.ref b4)]))
    obtain ⟨sl1, hsl1⟩ : ∃ z, z = own_cost ((fun _ => Value.null) m1) m1 := ⟨_, rfl⟩
    have hr1 := own_r1 hsl1
    obtain ⟨cq9, kq9, q9a, q9b, q9c⟩ := isOf hZ e8 P5_1
    obtain ⟨_, _, ⟨T9, L9, kc9, ns9⟩, -, X9, ⟨Lc9, hQ9, l9, y9, z9⟩, st9⟩ := X8.virtualBack hx (y := (⟨"com/example/kurir/kurir/bench/Latencies", "add", "(J)V"⟩ : MethodName)) (z := (⟨"com/example/kurir/kurir/bench/Latencies", "add", "(J)V"⟩ : MethodName)) hown (mvT hZ (hw _ (List.mem_of_getElem? (i := 34) rfl))) (mvT hZ (hw _ (List.mem_of_getElem? (i := 35) rfl))) (notFace_of_selects (args := #[]) (mvT hZ (hw _ (List.mem_of_getElem? (i := 37) rfl)))) (mvT hZ (hw _ (List.mem_of_getElem? (i := 37) rfl))) (mvT hZ (hw _ (List.mem_of_getElem? (i := 36) rfl))) (by decide) (backOf (W := 0) (rmAdd l Z a0 hw [] b4 (own_nanos q1) A_5 kA_5 n0 (fun _ => Value.null) ([]) (0 : Int64) (0 : Int64) mc1 mI1 iI1 m1 j1 sl1 (T5.heap) n0 (Nat.le_trans Z0 K5.1) P5_1 P5_2 P5_3 P5_4 P5_7 P5_8 (OwnHi.start P5_5) P5_6 (Nat.le_refl n0) (Nat.le_trans Z0 K5.1) gn_b4 P5_10 (Nat.ne_of_lt (Nat.lt_of_lt_of_le A4.lt P5_9)) hmc1 hm1 hmn1 hm01 hm491 hi1 hjn1 hi01 hil1 hsl1) hZ (hw _ (List.mem_of_getElem? (i := 38) rfl)) (hw _ (List.mem_of_getElem? (i := 16) rfl)) (Nat.le_of_ble_eq_true rfl) (Nat.le_of_ble_eq_true rfl)) q9a q9c (g := (mkF m 58 #[.val (.long q1), .second, .val (.long q2), .second, .val (.long q3), .second, .val (.int p4), .val (.int p5), .val (.int (1 : Int32)), .val (.int pp), .val (.long (own_floor q1)), .second, .val (.long (own_floor q2)), .second, .val (.long (own_floor q3)), .second, .val (.ref b4), .unset, .unset, .unset, .unset, .unset, .unset, .unset, .unset, .unset, .unset, .unset, .unset] [(.long (own_nanos q1)), (.ref b4)])) rfl (by rw [hml]; rfl) (Steps.refl _) (argsL := [(.long (own_nanos q1))]) (rest := []) (lenOf pd__J_V rfl) rfl (by show 2 * 0 + _ ≤ _; exact Nat.le_of_eq rfl) (hb hby at_58) (fun _ _ => ⟨rfl, e8, (by decide : 2 + 1 ≤ _), (show 52 + sl1 ≤ 157376 from hr1)⟩)
    dsimp only [Pt.U, Pt.locs, Pt.cells, Pt.slots] at X9 l9 y9 z9 st9 hQ9
    rw [l9, y9, z9] at X9
    obtain ⟨B2_9, rfl, N9q, P9_0, P9_1, P9_2, P9_3, P9_4, P9_5, P9_6, P9_7, P9_8⟩ := hQ9
    have K9 : h0.size ≤ T9.heap.size ∧ True := ⟨Nat.le_trans K5.1 P9_8, trivial⟩
    have N9 := Fr.app N8 N9q
    refine OwnR.of (fun _ hr => st9.trans hr) ?_
    show OwnR _ _ _ _ _ _ _ (T9.setTop (mkF m 61 #[.val (.long q1), .second, .val (.long q2), .second, .val (.long q3), .second, .val (.int p4), .val (.int p5), .val (.int (1 : Int32)), .val (.int pp), .val (.long (own_floor q1)), .second, .val (.long (own_floor q2)), .second, .val (.long (own_floor q3)), .second, .val (.ref b4), .unset, .unset, .unset, .unset, .unset, .unset, .unset, .unset, .unset, .unset, .unset, .unset] []))
    have Bp1 := P9_5
    refine OwnR.of (fun _ hr => XS.iload X9.here hx rfl (hb hby at_61) rfl hr) ?_
    show OwnR _ _ _ _ _ _ _ (T9.setTop (mkF m 63 #[.val (.long q1), .second, .val (.long q2), .second, .val (.long q3), .second, .val (.int p4), .val (.int p5), .val (.int (1 : Int32)), .val (.int pp), .val (.long (own_floor q1)), .second, .val (.long (own_floor q2)), .second, .val (.long (own_floor q3)), .second, .val (.ref b4), .unset, .unset, .unset, .unset, .unset, .unset, .unset, .unset, .unset, .unset, .unset, .unset] [(.int (1 : Int32))]))
    refine OwnR.of (fun _ hr => XS.iconst X9.here hx rfl (hb hby at_63) hr) ?_
    show OwnR _ _ _ _ _ _ _ (T9.setTop (mkF m 64 #[.val (.long q1), .second, .val (.long q2), .second, .val (.long q3), .second, .val (.int p4), .val (.int p5), .val (.int (1 : Int32)), .val (.int pp), .val (.long (own_floor q1)), .second, .val (.long (own_floor q2)), .second, .val (.long (own_floor q3)), .second, .val (.ref b4), .unset, .unset, .unset, .unset, .unset, .unset, .unset, .unset, .unset, .unset, .unset, .unset] [(.int (2 : Int32)), (.int (1 : Int32))]))
    refine OwnR.of (fun _ hr => XS.icmpYes X9.here hx rfl (pc0 := 64) (pc' := 76) rfl (hb hby at_64) rfl (tlt (by decide : (1 : Int32) < (2 : Int32))).1 (by decide) (by decide) hr) ?_
    show OwnR _ _ _ _ _ _ _ (T9.setTop (mkF m 76 #[.val (.long q1), .second, .val (.long q2), .second, .val (.long q3), .second, .val (.int p4), .val (.int p5), .val (.int (1 : Int32)), .val (.int pp), .val (.long (own_floor q1)), .second, .val (.long (own_floor q2)), .second, .val (.long (own_floor q3)), .second, .val (.ref b4), .unset, .unset, .unset, .unset, .unset, .unset, .unset, .unset, .unset, .unset, .unset, .unset] []))
    refine OwnR.of (fun _ hr => XS.iload X9.here hx rfl (hb hby at_76) rfl hr) ?_
    show OwnR _ _ _ _ _ _ _ (T9.setTop (mkF m 78 #[.val (.long q1), .second, .val (.long q2), .second, .val (.long q3), .second, .val (.int p4), .val (.int p5), .val (.int (1 : Int32)), .val (.int pp), .val (.long (own_floor q1)), .second, .val (.long (own_floor q2)), .second, .val (.long (own_floor q3)), .second, .val (.ref b4), .unset, .unset, .unset, .unset, .unset, .unset, .unset, .unset, .unset, .unset, .unset, .unset] [(.int (1 : Int32))]))
    refine OwnR.of (fun _ hr => XS.iconst X9.here hx rfl (hb hby at_78) hr) ?_
    show OwnR _ _ _ _ _ _ _ (T9.setTop (mkF m 79 #[.val (.long q1), .second, .val (.long q2), .second, .val (.long q3), .second, .val (.int p4), .val (.int p5), .val (.int (1 : Int32)), .val (.int pp), .val (.long (own_floor q1)), .second, .val (.long (own_floor q2)), .second, .val (.long (own_floor q3)), .second, .val (.ref b4), .unset, .unset, .unset, .unset, .unset, .unset, .unset, .unset, .unset, .unset, .unset, .unset] [(.int (3 : Int32)), (.int (1 : Int32))]))
    refine OwnR.of (fun _ hr => XS.icmpYes X9.here hx rfl (pc0 := 79) (pc' := 92) rfl (hb hby at_79) rfl (tlt (by decide : (1 : Int32) < (3 : Int32))).1 (by decide) (by decide) hr) ?_
    show OwnR _ _ _ _ _ _ _ (T9.setTop (mkF m 92 #[.val (.long q1), .second, .val (.long q2), .second, .val (.long q3), .second, .val (.int p4), .val (.int p5), .val (.int (1 : Int32)), .val (.int pp), .val (.long (own_floor q1)), .second, .val (.long (own_floor q2)), .second, .val (.long (own_floor q3)), .second, .val (.ref b4), .unset, .unset, .unset, .unset, .unset, .unset, .unset, .unset, .unset, .unset, .unset, .unset] []))
    refine OwnR.of (fun _ hr => XS.aload X9.here hx rfl (hb hby at_92) rfl rfl hr) ?_
    show OwnR _ _ _ _ _ _ _ (T9.setTop (mkF m 94 #[.val (.long q1), .second, .val (.long q2), .second, .val (.long q3), .second, .val (.int p4), .val (.int p5), .val (.int (1 : Int32)), .val (.int pp), .val (.long (own_floor q1)), .second, .val (.long (own_floor q2)), .second, .val (.long (own_floor q3)), .second, .val (.ref b4), .unset, .unset, .unset, .unset, .unset, .unset, .unset, .unset, .unset, .unset, .unset, .unset] [(.ref b4)]))
    refine OwnR.of (fun _ hr => XS.iload X9.here hx rfl (hb hby at_94) rfl hr) ?_
    show OwnR _ _ _ _ _ _ _ (T9.setTop (mkF m 96 #[.val (.long q1), .second, .val (.long q2), .second, .val (.long q3), .second, .val (.int p4), .val (.int p5), .val (.int (1 : Int32)), .val (.int pp), .val (.long (own_floor q1)), .second, .val (.long (own_floor q2)), .second, .val (.long (own_floor q3)), .second, .val (.ref b4), .unset, .unset, .unset, .unset, .unset, .unset, .unset, .unset, .unset, .unset, .unset, .unset] [(.int pp), (.ref b4)]))
    obtain ⟨cq10, kq10, q10a, q10b, q10c⟩ := isOf hZ rfl P9_0
    obtain ⟨_, _, ⟨T10, L10, kc10, ns10⟩, -, X10, ⟨Lc10, hQ10, l10, y10, z10⟩, st10⟩ := X9.virtualBack hx (y := (⟨"com/example/kurir/kurir/bench/Latencies", "percentileMicros", "(I)J"⟩ : MethodName)) (z := (⟨"com/example/kurir/kurir/bench/Latencies", "percentileMicros", "(I)J"⟩ : MethodName)) hown (mvT hZ (hw _ (List.mem_of_getElem? (i := 70) rfl))) (mvT hZ (hw _ (List.mem_of_getElem? (i := 71) rfl))) (notFace_of_selects (args := #[]) (mvT hZ (hw _ (List.mem_of_getElem? (i := 73) rfl)))) (mvT hZ (hw _ (List.mem_of_getElem? (i := 73) rfl))) (mvT hZ (hw _ (List.mem_of_getElem? (i := 72) rfl))) (by decide) (backOf (W := 0) (rmPct l Z a0 hw [] b4 pp A_5 kA_5 n0 B2_9 ([(m1, j1)]) ((0 : Int64) + (1 : Int64)) (own_max (0 : Int64) mc1) (((((0 : Int64) + (1 : Int64)) * pp.toInt64) + (99 : Int64)) / (100 : Int64)) (own_floor q1) (T9.heap) n0 (Nat.le_trans Z0 K9.1) P9_0 P9_1 P9_2 P9_3 P9_6 P9_7 P9_4 rfl (own_I1 ky1 bpp)) hZ (hw _ (List.mem_of_getElem? (i := 74) rfl)) (hw _ (List.mem_of_getElem? (i := 16) rfl)) (by decide) (by decide)) q10a q10c (g := (mkF m 96 #[.val (.long q1), .second, .val (.long q2), .second, .val (.long q3), .second, .val (.int p4), .val (.int p5), .val (.int (1 : Int32)), .val (.int pp), .val (.long (own_floor q1)), .second, .val (.long (own_floor q2)), .second, .val (.long (own_floor q3)), .second, .val (.ref b4), .unset, .unset, .unset, .unset, .unset, .unset, .unset, .unset, .unset, .unset, .unset, .unset] [(.int pp), (.ref b4)])) rfl (by rw [hml]; rfl) (Steps.refl _) (argsL := [(.int pp)]) (rest := []) (lenOf pd__I_J rfl) rfl (by show 2 * 0 + _ ≤ _; exact Nat.le_of_eq rfl) (hb hby at_96) (fun _ _ => ⟨rfl, rfl, (by decide : 3 + 0 ≤ _), (show 52 + sl1 + 0 ≤ 157376 from hr1)⟩)
    dsimp only [Pt.U, Pt.locs, Pt.cells, Pt.slots] at X10 l10 y10 z10 st10 hQ10
    rw [l10, y10, z10] at X10
    obtain ⟨rfl, N10q, e10⟩ := hQ10
    have N10 := Fr.app N9 N10q
    refine OwnR.of (fun _ hr => st10.trans hr) ?_
    show OwnR _ _ _ _ _ _ _ (T10.setTop (mkF m 99 #[.val (.long q1), .second, .val (.long q2), .second, .val (.long q3), .second, .val (.int p4), .val (.int p5), .val (.int (1 : Int32)), .val (.int pp), .val (.long (own_floor q1)), .second, .val (.long (own_floor q2)), .second, .val (.long (own_floor q3)), .second, .val (.ref b4), .unset, .unset, .unset, .unset, .unset, .unset, .unset, .unset, .unset, .unset, .unset, .unset] [(.long (own_floor q1))]))
    refine OwnR.of (fun _ hr => XS.lstore X10.here hx rfl (hb hby at_99) rfl (l' := #[.val (.long q1), .second, .val (.long q2), .second, .val (.long q3), .second, .val (.int p4), .val (.int p5), .val (.int (1 : Int32)), .val (.int pp), .val (.long (own_floor q1)), .second, .val (.long (own_floor q2)), .second, .val (.long (own_floor q3)), .second, .val (.ref b4), .val (.long (own_floor q1)), .second, .unset, .unset, .unset, .unset, .unset, .unset, .unset, .unset, .unset, .unset]) rfl hr) ?_
    show OwnR _ _ _ _ _ _ _ (T10.setTop (mkF m 101 #[.val (.long q1), .second, .val (.long q2), .second, .val (.long q3), .second, .val (.int p4), .val (.int p5), .val (.int (1 : Int32)), .val (.int pp), .val (.long (own_floor q1)), .second, .val (.long (own_floor q2)), .second, .val (.long (own_floor q3)), .second, .val (.ref b4), .val (.long (own_floor q1)), .second, .unset, .unset, .unset, .unset, .unset, .unset, .unset, .unset, .unset, .unset] []))
    refine OwnR.of (fun _ hr => XS.iload X10.here hx rfl (hb hby at_101) rfl hr) ?_
    show OwnR _ _ _ _ _ _ _ (T10.setTop (mkF m 103 #[.val (.long q1), .second, .val (.long q2), .second, .val (.long q3), .second, .val (.int p4), .val (.int p5), .val (.int (1 : Int32)), .val (.int pp), .val (.long (own_floor q1)), .second, .val (.long (own_floor q2)), .second, .val (.long (own_floor q3)), .second, .val (.ref b4), .val (.long (own_floor q1)), .second, .unset, .unset, .unset, .unset, .unset, .unset, .unset, .unset, .unset, .unset] [(.int (1 : Int32))]))
    refine OwnR.of (fun _ hr => XS.ifYes X10.here hx rfl (pc0 := 103) (pc' := 112) rfl (hb hby at_103) rfl ((if0 _ _).trans (feq (by decide : ¬ ((1 : Int32) = (0 : Int32)))).2) (by decide) (by decide) hr) ?_
    show OwnR _ _ _ _ _ _ _ (T10.setTop (mkF m 112 #[.val (.long q1), .second, .val (.long q2), .second, .val (.long q3), .second, .val (.int p4), .val (.int p5), .val (.int (1 : Int32)), .val (.int pp), .val (.long (own_floor q1)), .second, .val (.long (own_floor q2)), .second, .val (.long (own_floor q3)), .second, .val (.ref b4), .val (.long (own_floor q1)), .second, .unset, .unset, .unset, .unset, .unset, .unset, .unset, .unset, .unset, .unset] []))
    refine OwnR.of (fun _ hr => XS.iload X10.here hx rfl (hb hby at_112) rfl hr) ?_
    show OwnR _ _ _ _ _ _ _ (T10.setTop (mkF m 114 #[.val (.long q1), .second, .val (.long q2), .second, .val (.long q3), .second, .val (.int p4), .val (.int p5), .val (.int (1 : Int32)), .val (.int pp), .val (.long (own_floor q1)), .second, .val (.long (own_floor q2)), .second, .val (.long (own_floor q3)), .second, .val (.ref b4), .val (.long (own_floor q1)), .second, .unset, .unset, .unset, .unset, .unset, .unset, .unset, .unset, .unset, .unset] [(.int (1 : Int32))]))
    refine OwnR.of (fun _ hr => XS.iload X10.here hx rfl (hb hby at_114) rfl hr) ?_
    show OwnR _ _ _ _ _ _ _ (T10.setTop (mkF m 116 #[.val (.long q1), .second, .val (.long q2), .second, .val (.long q3), .second, .val (.int p4), .val (.int p5), .val (.int (1 : Int32)), .val (.int pp), .val (.long (own_floor q1)), .second, .val (.long (own_floor q2)), .second, .val (.long (own_floor q3)), .second, .val (.ref b4), .val (.long (own_floor q1)), .second, .unset, .unset, .unset, .unset, .unset, .unset, .unset, .unset, .unset, .unset] [(.int pp), (.int (1 : Int32))]))
    refine OwnR.of (fun _ hr => XS.imul X10.here hx rfl (hb hby at_116) rfl hr) ?_
    show OwnR _ _ _ _ _ _ _ (T10.setTop (mkF m 117 #[.val (.long q1), .second, .val (.long q2), .second, .val (.long q3), .second, .val (.int p4), .val (.int p5), .val (.int (1 : Int32)), .val (.int pp), .val (.long (own_floor q1)), .second, .val (.long (own_floor q2)), .second, .val (.long (own_floor q3)), .second, .val (.ref b4), .val (.long (own_floor q1)), .second, .unset, .unset, .unset, .unset, .unset, .unset, .unset, .unset, .unset, .unset] [(.int ((1 : Int32) * pp))]))
    refine OwnR.of (fun _ hr => XS.istore X10.here hx rfl (hb hby at_117) rfl (l' := #[.val (.long q1), .second, .val (.long q2), .second, .val (.long q3), .second, .val (.int p4), .val (.int p5), .val (.int (1 : Int32)), .val (.int pp), .val (.long (own_floor q1)), .second, .val (.long (own_floor q2)), .second, .val (.long (own_floor q3)), .second, .val (.ref b4), .val (.long (own_floor q1)), .second, .unset, .unset, .val (.int ((1 : Int32) * pp)), .unset, .unset, .unset, .unset, .unset, .unset, .unset]) rfl hr) ?_
    show OwnR _ _ _ _ _ _ _ (T10.setTop (mkF m 119 #[.val (.long q1), .second, .val (.long q2), .second, .val (.long q3), .second, .val (.int p4), .val (.int p5), .val (.int (1 : Int32)), .val (.int pp), .val (.long (own_floor q1)), .second, .val (.long (own_floor q2)), .second, .val (.long (own_floor q3)), .second, .val (.ref b4), .val (.long (own_floor q1)), .second, .unset, .unset, .val (.int ((1 : Int32) * pp)), .unset, .unset, .unset, .unset, .unset, .unset, .unset] []))
    refine OwnR.of (fun _ hr => XS.iload X10.here hx rfl (hb hby at_119) rfl hr) ?_
    show OwnR _ _ _ _ _ _ _ (T10.setTop (mkF m 121 #[.val (.long q1), .second, .val (.long q2), .second, .val (.long q3), .second, .val (.int p4), .val (.int p5), .val (.int (1 : Int32)), .val (.int pp), .val (.long (own_floor q1)), .second, .val (.long (own_floor q2)), .second, .val (.long (own_floor q3)), .second, .val (.ref b4), .val (.long (own_floor q1)), .second, .unset, .unset, .val (.int ((1 : Int32) * pp)), .unset, .unset, .unset, .unset, .unset, .unset, .unset] [(.int ((1 : Int32) * pp))]))
    refine OwnR.of (fun _ hr => XS.bipush X10.here hx rfl (hb hby at_121) hr) ?_
    show OwnR _ _ _ _ _ _ _ (T10.setTop (mkF m 123 #[.val (.long q1), .second, .val (.long q2), .second, .val (.long q3), .second, .val (.int p4), .val (.int p5), .val (.int (1 : Int32)), .val (.int pp), .val (.long (own_floor q1)), .second, .val (.long (own_floor q2)), .second, .val (.long (own_floor q3)), .second, .val (.ref b4), .val (.long (own_floor q1)), .second, .unset, .unset, .val (.int ((1 : Int32) * pp)), .unset, .unset, .unset, .unset, .unset, .unset, .unset] [(.int (100 : Int32)), (.int ((1 : Int32) * pp))]))
    by_cases hc123_11 : (100 : Int32) < ((1 : Int32) * pp)
    · skip
      refine OwnR.of (fun _ hr => XS.icmpYes X10.here hx rfl (pc0 := 123) (pc' := 130) rfl (hb hby at_123) rfl (tlt hc123_11).2.2.1 (by decide) (by decide) hr) ?_
      show OwnR _ _ _ _ _ _ _ (T10.setTop (mkF m 130 #[.val (.long q1), .second, .val (.long q2), .second, .val (.long q3), .second, .val (.int p4), .val (.int p5), .val (.int (1 : Int32)), .val (.int pp), .val (.long (own_floor q1)), .second, .val (.long (own_floor q2)), .second, .val (.long (own_floor q3)), .second, .val (.ref b4), .val (.long (own_floor q1)), .second, .unset, .unset, .val (.int ((1 : Int32) * pp)), .unset, .unset, .unset, .unset, .unset, .unset, .unset] []))
      refine OwnR.of (fun _ hr => XS.iload X10.here hx rfl (hb hby at_130) rfl hr) ?_
      show OwnR _ _ _ _ _ _ _ (T10.setTop (mkF m 132 #[.val (.long q1), .second, .val (.long q2), .second, .val (.long q3), .second, .val (.int p4), .val (.int p5), .val (.int (1 : Int32)), .val (.int pp), .val (.long (own_floor q1)), .second, .val (.long (own_floor q2)), .second, .val (.long (own_floor q3)), .second, .val (.ref b4), .val (.long (own_floor q1)), .second, .unset, .unset, .val (.int ((1 : Int32) * pp)), .unset, .unset, .unset, .unset, .unset, .unset, .unset] [(.int ((1 : Int32) * pp))]))
      refine OwnR.of (fun _ hr => XS.sipush X10.here hx rfl (hb hby at_132) hr) ?_
      show OwnR _ _ _ _ _ _ _ (T10.setTop (mkF m 135 #[.val (.long q1), .second, .val (.long q2), .second, .val (.long q3), .second, .val (.int p4), .val (.int p5), .val (.int (1 : Int32)), .val (.int pp), .val (.long (own_floor q1)), .second, .val (.long (own_floor q2)), .second, .val (.long (own_floor q3)), .second, .val (.ref b4), .val (.long (own_floor q1)), .second, .unset, .unset, .val (.int ((1 : Int32) * pp)), .unset, .unset, .unset, .unset, .unset, .unset, .unset] [(.int (200 : Int32)), (.int ((1 : Int32) * pp))]))
      by_cases hc135_12 : (200 : Int32) < ((1 : Int32) * pp)
      · skip
        refine OwnR.of (fun _ hr => XS.icmpYes X10.here hx rfl (pc0 := 135) (pc' := 142) rfl (hb hby at_135) rfl (tlt hc135_12).2.2.1 (by decide) (by decide) hr) ?_
        show OwnR _ _ _ _ _ _ _ (T10.setTop (mkF m 142 #[.val (.long q1), .second, .val (.long q2), .second, .val (.long q3), .second, .val (.int p4), .val (.int p5), .val (.int (1 : Int32)), .val (.int pp), .val (.long (own_floor q1)), .second, .val (.long (own_floor q2)), .second, .val (.long (own_floor q3)), .second, .val (.ref b4), .val (.long (own_floor q1)), .second, .unset, .unset, .val (.int ((1 : Int32) * pp)), .unset, .unset, .unset, .unset, .unset, .unset, .unset] []))
        refine OwnR.of (fun _ hr => XS.iconst X10.here hx rfl (hb hby at_142) hr) ?_
        show OwnR _ _ _ _ _ _ _ (T10.setTop (mkF m 143 #[.val (.long q1), .second, .val (.long q2), .second, .val (.long q3), .second, .val (.int p4), .val (.int p5), .val (.int (1 : Int32)), .val (.int pp), .val (.long (own_floor q1)), .second, .val (.long (own_floor q2)), .second, .val (.long (own_floor q3)), .second, .val (.ref b4), .val (.long (own_floor q1)), .second, .unset, .unset, .val (.int ((1 : Int32) * pp)), .unset, .unset, .unset, .unset, .unset, .unset, .unset] [(.int (3 : Int32))]))
        refine OwnR.of (fun _ hr => XS.istore X10.here hx rfl (hb hby at_143) rfl (l' := #[.val (.long q1), .second, .val (.long q2), .second, .val (.long q3), .second, .val (.int p4), .val (.int p5), .val (.int (1 : Int32)), .val (.int pp), .val (.long (own_floor q1)), .second, .val (.long (own_floor q2)), .second, .val (.long (own_floor q3)), .second, .val (.ref b4), .val (.long (own_floor q1)), .second, .unset, .unset, .val (.int ((1 : Int32) * pp)), .val (.int (3 : Int32)), .unset, .unset, .unset, .unset, .unset, .unset]) rfl hr) ?_
        show OwnR _ _ _ _ _ _ _ (T10.setTop (mkF m 145 #[.val (.long q1), .second, .val (.long q2), .second, .val (.long q3), .second, .val (.int p4), .val (.int p5), .val (.int (1 : Int32)), .val (.int pp), .val (.long (own_floor q1)), .second, .val (.long (own_floor q2)), .second, .val (.long (own_floor q3)), .second, .val (.ref b4), .val (.long (own_floor q1)), .second, .unset, .unset, .val (.int ((1 : Int32) * pp)), .val (.int (3 : Int32)), .unset, .unset, .unset, .unset, .unset, .unset] []))
        refine OwnR.of (fun _ hr => XS.iload X10.here hx rfl (hb hby at_145) rfl hr) ?_
        show OwnR _ _ _ _ _ _ _ (T10.setTop (mkF m 147 #[.val (.long q1), .second, .val (.long q2), .second, .val (.long q3), .second, .val (.int p4), .val (.int p5), .val (.int (1 : Int32)), .val (.int pp), .val (.long (own_floor q1)), .second, .val (.long (own_floor q2)), .second, .val (.long (own_floor q3)), .second, .val (.ref b4), .val (.long (own_floor q1)), .second, .unset, .unset, .val (.int ((1 : Int32) * pp)), .val (.int (3 : Int32)), .unset, .unset, .unset, .unset, .unset, .unset] [(.int (1 : Int32))]))
        refine OwnR.of (fun _ hr => XS.iconst X10.here hx rfl (hb hby at_147) hr) ?_
        show OwnR _ _ _ _ _ _ _ (T10.setTop (mkF m 148 #[.val (.long q1), .second, .val (.long q2), .second, .val (.long q3), .second, .val (.int p4), .val (.int p5), .val (.int (1 : Int32)), .val (.int pp), .val (.long (own_floor q1)), .second, .val (.long (own_floor q2)), .second, .val (.long (own_floor q3)), .second, .val (.ref b4), .val (.long (own_floor q1)), .second, .unset, .unset, .val (.int ((1 : Int32) * pp)), .val (.int (3 : Int32)), .unset, .unset, .unset, .unset, .unset, .unset] [(.int (1 : Int32)), (.int (1 : Int32))]))
        refine OwnR.of (fun _ hr => XS.icmpNo X10.here hx rfl (hb hby at_148) rfl (teq (by decide : (1 : Int32) = (1 : Int32))).2 hr) ?_
        show OwnR _ _ _ _ _ _ _ (T10.setTop (mkF m 151 #[.val (.long q1), .second, .val (.long q2), .second, .val (.long q3), .second, .val (.int p4), .val (.int p5), .val (.int (1 : Int32)), .val (.int pp), .val (.long (own_floor q1)), .second, .val (.long (own_floor q2)), .second, .val (.long (own_floor q3)), .second, .val (.ref b4), .val (.long (own_floor q1)), .second, .unset, .unset, .val (.int ((1 : Int32) * pp)), .val (.int (3 : Int32)), .unset, .unset, .unset, .unset, .unset, .unset] []))
        refine OwnR.of (fun _ hr => XS.lload X10.here hx rfl (hb hby at_151) rfl hr) ?_
        show OwnR _ _ _ _ _ _ _ (T10.setTop (mkF m 153 #[.val (.long q1), .second, .val (.long q2), .second, .val (.long q3), .second, .val (.int p4), .val (.int p5), .val (.int (1 : Int32)), .val (.int pp), .val (.long (own_floor q1)), .second, .val (.long (own_floor q2)), .second, .val (.long (own_floor q3)), .second, .val (.ref b4), .val (.long (own_floor q1)), .second, .unset, .unset, .val (.int ((1 : Int32) * pp)), .val (.int (3 : Int32)), .unset, .unset, .unset, .unset, .unset, .unset] [(.long (own_floor q1))]))
        refine OwnR.of (fun _ hr => XS.lstore X10.here hx rfl (hb hby at_153) rfl (l' := #[.val (.long q1), .second, .val (.long q2), .second, .val (.long q3), .second, .val (.int p4), .val (.int p5), .val (.int (1 : Int32)), .val (.int pp), .val (.long (own_floor q1)), .second, .val (.long (own_floor q2)), .second, .val (.long (own_floor q3)), .second, .val (.ref b4), .val (.long (own_floor q1)), .second, .val (.long (own_floor q1)), .second, .val (.int ((1 : Int32) * pp)), .val (.int (3 : Int32)), .unset, .unset, .unset, .unset, .unset, .unset]) rfl hr) ?_
        show OwnR _ _ _ _ _ _ _ (T10.setTop (mkF m 155 #[.val (.long q1), .second, .val (.long q2), .second, .val (.long q3), .second, .val (.int p4), .val (.int p5), .val (.int (1 : Int32)), .val (.int pp), .val (.long (own_floor q1)), .second, .val (.long (own_floor q2)), .second, .val (.long (own_floor q3)), .second, .val (.ref b4), .val (.long (own_floor q1)), .second, .val (.long (own_floor q1)), .second, .val (.int ((1 : Int32) * pp)), .val (.int (3 : Int32)), .unset, .unset, .unset, .unset, .unset, .unset] []))
        refine OwnR.of (fun _ hr => XS.goto X10.here hx rfl (pc0 := 155) (pc' := 270) rfl (hb hby at_155) (by decide) (by decide) hr) ?_
        show OwnR _ _ _ _ _ _ _ (T10.setTop (mkF m 270 #[.val (.long q1), .second, .val (.long q2), .second, .val (.long q3), .second, .val (.int p4), .val (.int p5), .val (.int (1 : Int32)), .val (.int pp), .val (.long (own_floor q1)), .second, .val (.long (own_floor q2)), .second, .val (.long (own_floor q3)), .second, .val (.ref b4), .val (.long (own_floor q1)), .second, .val (.long (own_floor q1)), .second, .val (.int ((1 : Int32) * pp)), .val (.int (3 : Int32)), .unset, .unset, .unset, .unset, .unset, .unset] []))
        refine OwnR.of (fun _ hr => XS.lload X10.here hx rfl (hb hby at_270) rfl hr) ?_
        show OwnR _ _ _ _ _ _ _ (T10.setTop (mkF m 272 #[.val (.long q1), .second, .val (.long q2), .second, .val (.long q3), .second, .val (.int p4), .val (.int p5), .val (.int (1 : Int32)), .val (.int pp), .val (.long (own_floor q1)), .second, .val (.long (own_floor q2)), .second, .val (.long (own_floor q3)), .second, .val (.ref b4), .val (.long (own_floor q1)), .second, .val (.long (own_floor q1)), .second, .val (.int ((1 : Int32) * pp)), .val (.int (3 : Int32)), .unset, .unset, .unset, .unset, .unset, .unset] [(.long (own_floor q1))]))
        refine OwnR.of (fun _ hr => XS.lload X10.here hx rfl (hb hby at_272) rfl hr) ?_
        show OwnR _ _ _ _ _ _ _ (T10.setTop (mkF m 274 #[.val (.long q1), .second, .val (.long q2), .second, .val (.long q3), .second, .val (.int p4), .val (.int p5), .val (.int (1 : Int32)), .val (.int pp), .val (.long (own_floor q1)), .second, .val (.long (own_floor q2)), .second, .val (.long (own_floor q3)), .second, .val (.ref b4), .val (.long (own_floor q1)), .second, .val (.long (own_floor q1)), .second, .val (.int ((1 : Int32) * pp)), .val (.int (3 : Int32)), .unset, .unset, .unset, .unset, .unset, .unset] [(.long (own_floor q1)), (.long (own_floor q1))]))
        refine OwnR.of (fun _ hr => XS.lcmp X10.here hx rfl (hb hby at_274) rfl hr) ?_
        show OwnR _ _ _ _ _ _ _ (T10.setTop (mkF m 275 #[.val (.long q1), .second, .val (.long q2), .second, .val (.long q3), .second, .val (.int p4), .val (.int p5), .val (.int (1 : Int32)), .val (.int pp), .val (.long (own_floor q1)), .second, .val (.long (own_floor q2)), .second, .val (.long (own_floor q3)), .second, .val (.ref b4), .val (.long (own_floor q1)), .second, .val (.long (own_floor q1)), .second, .val (.int ((1 : Int32) * pp)), .val (.int (3 : Int32)), .unset, .unset, .unset, .unset, .unset, .unset] [(.int (lcmpW (own_floor q1) (own_floor q1)))]))
        refine OwnR.of (fun _ hr => XS.ifNo X10.here hx rfl (hb hby at_275) rfl ((if0 _ _).trans (teq ((own_lceq _ _).mpr rfl)).2) hr) ?_
        show OwnR _ _ _ _ _ _ _ (T10.setTop (mkF m 278 #[.val (.long q1), .second, .val (.long q2), .second, .val (.long q3), .second, .val (.int p4), .val (.int p5), .val (.int (1 : Int32)), .val (.int pp), .val (.long (own_floor q1)), .second, .val (.long (own_floor q2)), .second, .val (.long (own_floor q3)), .second, .val (.ref b4), .val (.long (own_floor q1)), .second, .val (.long (own_floor q1)), .second, .val (.int ((1 : Int32) * pp)), .val (.int (3 : Int32)), .unset, .unset, .unset, .unset, .unset, .unset] []))
        refine OwnR.of (fun _ hr => XS.aload X10.here hx rfl (hb hby at_278) rfl rfl hr) ?_
        show OwnR _ _ _ _ _ _ _ (T10.setTop (mkF m 280 #[.val (.long q1), .second, .val (.long q2), .second, .val (.long q3), .second, .val (.int p4), .val (.int p5), .val (.int (1 : Int32)), .val (.int pp), .val (.long (own_floor q1)), .second, .val (.long (own_floor q2)), .second, .val (.long (own_floor q3)), .second, .val (.ref b4), .val (.long (own_floor q1)), .second, .val (.long (own_floor q1)), .second, .val (.int ((1 : Int32) * pp)), .val (.int (3 : Int32)), .unset, .unset, .unset, .unset, .unset, .unset] [(.ref b4)]))
        obtain ⟨cq13, kq13, q13a, q13b, q13c⟩ := isOf hZ e10 P9_0
        obtain ⟨_, _, ⟨T13, L13, kc13, ns13⟩, -, X13, ⟨Lc13, hQ13, l13, y13, z13⟩, st13⟩ := X10.virtualBack hx (y := (⟨"com/example/kurir/kurir/bench/Latencies", "count", "()J"⟩ : MethodName)) (z := (⟨"com/example/kurir/kurir/bench/Latencies", "count", "()J"⟩ : MethodName)) hown (mvT hZ (hw _ (List.mem_of_getElem? (i := 81) rfl))) (mvT hZ (hw _ (List.mem_of_getElem? (i := 82) rfl))) (notFace_of_selects (args := #[]) (mvT hZ (hw _ (List.mem_of_getElem? (i := 84) rfl)))) (mvT hZ (hw _ (List.mem_of_getElem? (i := 84) rfl))) (mvT hZ (hw _ (List.mem_of_getElem? (i := 83) rfl))) (by decide) (backOf (W := 0) (rmCount l Z a0 hw [] b4 ((0 : Int64) + (1 : Int64)) (T9.heap) n0 (Nat.le_trans Z0 K9.1) P9_0 P9_2) hZ (hw _ (List.mem_of_getElem? (i := 85) rfl)) (hw _ (List.mem_of_getElem? (i := 16) rfl)) (by decide) (by decide)) q13a q13c (g := (mkF m 280 #[.val (.long q1), .second, .val (.long q2), .second, .val (.long q3), .second, .val (.int p4), .val (.int p5), .val (.int (1 : Int32)), .val (.int pp), .val (.long (own_floor q1)), .second, .val (.long (own_floor q2)), .second, .val (.long (own_floor q3)), .second, .val (.ref b4), .val (.long (own_floor q1)), .second, .val (.long (own_floor q1)), .second, .val (.int ((1 : Int32) * pp)), .val (.int (3 : Int32)), .unset, .unset, .unset, .unset, .unset, .unset] [(.ref b4)])) rfl (by rw [hml]; rfl) (Steps.refl _) (argsL := []) (rest := []) (lenOf pd___J rfl) rfl (by show 2 * 0 + _ ≤ _; exact Nat.le_of_eq rfl) (hb hby at_280) (fun _ _ => ⟨rfl, e10, (by decide : 3 + 0 ≤ _), (show 52 + sl1 + 0 ≤ 157376 from hr1)⟩)
        dsimp only [Pt.U, Pt.locs, Pt.cells, Pt.slots] at X13 l13 y13 z13 st13 hQ13
        rw [l13, y13, z13] at X13
        obtain ⟨rfl, N13q, e13⟩ := hQ13
        have N13 := Fr.app N10 N13q
        refine OwnR.of (fun _ hr => st13.trans hr) ?_
        show OwnR _ _ _ _ _ _ _ (T13.setTop (mkF m 283 #[.val (.long q1), .second, .val (.long q2), .second, .val (.long q3), .second, .val (.int p4), .val (.int p5), .val (.int (1 : Int32)), .val (.int pp), .val (.long (own_floor q1)), .second, .val (.long (own_floor q2)), .second, .val (.long (own_floor q3)), .second, .val (.ref b4), .val (.long (own_floor q1)), .second, .val (.long (own_floor q1)), .second, .val (.int ((1 : Int32) * pp)), .val (.int (3 : Int32)), .unset, .unset, .unset, .unset, .unset, .unset] [(.long ((0 : Int64) + (1 : Int64)))]))
        refine OwnR.of (fun _ hr => XS.iload X13.here hx rfl (hb hby at_283) rfl hr) ?_
        show OwnR _ _ _ _ _ _ _ (T13.setTop (mkF m 285 #[.val (.long q1), .second, .val (.long q2), .second, .val (.long q3), .second, .val (.int p4), .val (.int p5), .val (.int (1 : Int32)), .val (.int pp), .val (.long (own_floor q1)), .second, .val (.long (own_floor q2)), .second, .val (.long (own_floor q3)), .second, .val (.ref b4), .val (.long (own_floor q1)), .second, .val (.long (own_floor q1)), .second, .val (.int ((1 : Int32) * pp)), .val (.int (3 : Int32)), .unset, .unset, .unset, .unset, .unset, .unset] [(.int (1 : Int32)), (.long ((0 : Int64) + (1 : Int64)))]))
        refine OwnR.of (fun _ hr => XS.i2l X13.here hx rfl (hb hby at_285) rfl hr) ?_
        show OwnR _ _ _ _ _ _ _ (T13.setTop (mkF m 286 #[.val (.long q1), .second, .val (.long q2), .second, .val (.long q3), .second, .val (.int p4), .val (.int p5), .val (.int (1 : Int32)), .val (.int pp), .val (.long (own_floor q1)), .second, .val (.long (own_floor q2)), .second, .val (.long (own_floor q3)), .second, .val (.ref b4), .val (.long (own_floor q1)), .second, .val (.long (own_floor q1)), .second, .val (.int ((1 : Int32) * pp)), .val (.int (3 : Int32)), .unset, .unset, .unset, .unset, .unset, .unset] [(.long ((1 : Int32).toInt64)), (.long ((0 : Int64) + (1 : Int64)))]))
        rw [(by decide : ((1 : Int32).toInt64) = (1 : Int64))]
        show OwnR _ _ _ _ _ _ _ (T13.setTop (mkF m 286 #[.val (.long q1), .second, .val (.long q2), .second, .val (.long q3), .second, .val (.int p4), .val (.int p5), .val (.int (1 : Int32)), .val (.int pp), .val (.long (own_floor q1)), .second, .val (.long (own_floor q2)), .second, .val (.long (own_floor q3)), .second, .val (.ref b4), .val (.long (own_floor q1)), .second, .val (.long (own_floor q1)), .second, .val (.int ((1 : Int32) * pp)), .val (.int (3 : Int32)), .unset, .unset, .unset, .unset, .unset, .unset] [(.long (1 : Int64)), (.long ((0 : Int64) + (1 : Int64)))]))
        refine OwnR.of (fun _ hr => XS.lcmp X13.here hx rfl (hb hby at_286) rfl hr) ?_
        show OwnR _ _ _ _ _ _ _ (T13.setTop (mkF m 287 #[.val (.long q1), .second, .val (.long q2), .second, .val (.long q3), .second, .val (.int p4), .val (.int p5), .val (.int (1 : Int32)), .val (.int pp), .val (.long (own_floor q1)), .second, .val (.long (own_floor q2)), .second, .val (.long (own_floor q3)), .second, .val (.ref b4), .val (.long (own_floor q1)), .second, .val (.long (own_floor q1)), .second, .val (.int ((1 : Int32) * pp)), .val (.int (3 : Int32)), .unset, .unset, .unset, .unset, .unset, .unset] [(.int (lcmpW ((0 : Int64) + (1 : Int64)) (1 : Int64)))]))
        have hc287_14 : ((0 : Int64) + (1 : Int64)) = (1 : Int64) := by
          refine Classical.byContradiction fun hbad => ?_
          exact hbad (by decide)
        refine OwnR.of (fun _ hr => XS.ifNo X13.here hx rfl (hb hby at_287) rfl ((if0 _ _).trans (teq ((own_lceq _ _).mpr hc287_14)).2) hr) ?_
        show OwnR _ _ _ _ _ _ _ (T13.setTop (mkF m 290 #[.val (.long q1), .second, .val (.long q2), .second, .val (.long q3), .second, .val (.int p4), .val (.int p5), .val (.int (1 : Int32)), .val (.int pp), .val (.long (own_floor q1)), .second, .val (.long (own_floor q2)), .second, .val (.long (own_floor q3)), .second, .val (.ref b4), .val (.long (own_floor q1)), .second, .val (.long (own_floor q1)), .second, .val (.int ((1 : Int32) * pp)), .val (.int (3 : Int32)), .unset, .unset, .unset, .unset, .unset, .unset] []))
        refine OwnR.of (fun _ hr => XS.iconst X13.here hx rfl (hb hby at_290) hr) ?_
        show OwnR _ _ _ _ _ _ _ (T13.setTop (mkF m 291 #[.val (.long q1), .second, .val (.long q2), .second, .val (.long q3), .second, .val (.int p4), .val (.int p5), .val (.int (1 : Int32)), .val (.int pp), .val (.long (own_floor q1)), .second, .val (.long (own_floor q2)), .second, .val (.long (own_floor q3)), .second, .val (.ref b4), .val (.long (own_floor q1)), .second, .val (.long (own_floor q1)), .second, .val (.int ((1 : Int32) * pp)), .val (.int (3 : Int32)), .unset, .unset, .unset, .unset, .unset, .unset] [(.int (1 : Int32))]))
        refine OwnR.of (fun _ hr => XS.goto X13.here hx rfl (pc0 := 291) (pc' := 295) rfl (hb hby at_291) (by decide) (by decide) hr) ?_
        show OwnR _ _ _ _ _ _ _ (T13.setTop (mkF m 295 #[.val (.long q1), .second, .val (.long q2), .second, .val (.long q3), .second, .val (.int p4), .val (.int p5), .val (.int (1 : Int32)), .val (.int pp), .val (.long (own_floor q1)), .second, .val (.long (own_floor q2)), .second, .val (.long (own_floor q3)), .second, .val (.ref b4), .val (.long (own_floor q1)), .second, .val (.long (own_floor q1)), .second, .val (.int ((1 : Int32) * pp)), .val (.int (3 : Int32)), .unset, .unset, .unset, .unset, .unset, .unset] [(.int (1 : Int32))]))
        refine own_leafN X13 hx hlk (t := .boolean) Bd.returns (by simp) (hb hby at_295) (z' := (1 : Int32)) rfl (by decide) (show 52 + sl1 ≤ 157376 from hr1) ?_
        show Q0 Z  h0 n0 _ T13.heap _
        rw [show T13.heap = T9.heap from e13]
        refine ⟨?_, N13⟩
        show (some (.int (1 : Int32)) : Option Value) = some (.int (1 : Int32))
        rfl
      · skip
        refine OwnR.of (fun _ hr => XS.icmpNo X10.here hx rfl (hb hby at_135) rfl (flt hc135_12).2.2.1 hr) ?_
        show OwnR _ _ _ _ _ _ _ (T10.setTop (mkF m 138 #[.val (.long q1), .second, .val (.long q2), .second, .val (.long q3), .second, .val (.int p4), .val (.int p5), .val (.int (1 : Int32)), .val (.int pp), .val (.long (own_floor q1)), .second, .val (.long (own_floor q2)), .second, .val (.long (own_floor q3)), .second, .val (.ref b4), .val (.long (own_floor q1)), .second, .unset, .unset, .val (.int ((1 : Int32) * pp)), .unset, .unset, .unset, .unset, .unset, .unset, .unset] []))
        refine OwnR.of (fun _ hr => XS.iconst X10.here hx rfl (hb hby at_138) hr) ?_
        show OwnR _ _ _ _ _ _ _ (T10.setTop (mkF m 139 #[.val (.long q1), .second, .val (.long q2), .second, .val (.long q3), .second, .val (.int p4), .val (.int p5), .val (.int (1 : Int32)), .val (.int pp), .val (.long (own_floor q1)), .second, .val (.long (own_floor q2)), .second, .val (.long (own_floor q3)), .second, .val (.ref b4), .val (.long (own_floor q1)), .second, .unset, .unset, .val (.int ((1 : Int32) * pp)), .unset, .unset, .unset, .unset, .unset, .unset, .unset] [(.int (2 : Int32))]))
        refine OwnR.of (fun _ hr => XS.goto X10.here hx rfl (pc0 := 139) (pc' := 143) rfl (hb hby at_139) (by decide) (by decide) hr) ?_
        show OwnR _ _ _ _ _ _ _ (T10.setTop (mkF m 143 #[.val (.long q1), .second, .val (.long q2), .second, .val (.long q3), .second, .val (.int p4), .val (.int p5), .val (.int (1 : Int32)), .val (.int pp), .val (.long (own_floor q1)), .second, .val (.long (own_floor q2)), .second, .val (.long (own_floor q3)), .second, .val (.ref b4), .val (.long (own_floor q1)), .second, .unset, .unset, .val (.int ((1 : Int32) * pp)), .unset, .unset, .unset, .unset, .unset, .unset, .unset] [(.int (2 : Int32))]))
        refine OwnR.of (fun _ hr => XS.istore X10.here hx rfl (hb hby at_143) rfl (l' := #[.val (.long q1), .second, .val (.long q2), .second, .val (.long q3), .second, .val (.int p4), .val (.int p5), .val (.int (1 : Int32)), .val (.int pp), .val (.long (own_floor q1)), .second, .val (.long (own_floor q2)), .second, .val (.long (own_floor q3)), .second, .val (.ref b4), .val (.long (own_floor q1)), .second, .unset, .unset, .val (.int ((1 : Int32) * pp)), .val (.int (2 : Int32)), .unset, .unset, .unset, .unset, .unset, .unset]) rfl hr) ?_
        show OwnR _ _ _ _ _ _ _ (T10.setTop (mkF m 145 #[.val (.long q1), .second, .val (.long q2), .second, .val (.long q3), .second, .val (.int p4), .val (.int p5), .val (.int (1 : Int32)), .val (.int pp), .val (.long (own_floor q1)), .second, .val (.long (own_floor q2)), .second, .val (.long (own_floor q3)), .second, .val (.ref b4), .val (.long (own_floor q1)), .second, .unset, .unset, .val (.int ((1 : Int32) * pp)), .val (.int (2 : Int32)), .unset, .unset, .unset, .unset, .unset, .unset] []))
        refine OwnR.of (fun _ hr => XS.iload X10.here hx rfl (hb hby at_145) rfl hr) ?_
        show OwnR _ _ _ _ _ _ _ (T10.setTop (mkF m 147 #[.val (.long q1), .second, .val (.long q2), .second, .val (.long q3), .second, .val (.int p4), .val (.int p5), .val (.int (1 : Int32)), .val (.int pp), .val (.long (own_floor q1)), .second, .val (.long (own_floor q2)), .second, .val (.long (own_floor q3)), .second, .val (.ref b4), .val (.long (own_floor q1)), .second, .unset, .unset, .val (.int ((1 : Int32) * pp)), .val (.int (2 : Int32)), .unset, .unset, .unset, .unset, .unset, .unset] [(.int (1 : Int32))]))
        refine OwnR.of (fun _ hr => XS.iconst X10.here hx rfl (hb hby at_147) hr) ?_
        show OwnR _ _ _ _ _ _ _ (T10.setTop (mkF m 148 #[.val (.long q1), .second, .val (.long q2), .second, .val (.long q3), .second, .val (.int p4), .val (.int p5), .val (.int (1 : Int32)), .val (.int pp), .val (.long (own_floor q1)), .second, .val (.long (own_floor q2)), .second, .val (.long (own_floor q3)), .second, .val (.ref b4), .val (.long (own_floor q1)), .second, .unset, .unset, .val (.int ((1 : Int32) * pp)), .val (.int (2 : Int32)), .unset, .unset, .unset, .unset, .unset, .unset] [(.int (1 : Int32)), (.int (1 : Int32))]))
        refine OwnR.of (fun _ hr => XS.icmpNo X10.here hx rfl (hb hby at_148) rfl (teq (by decide : (1 : Int32) = (1 : Int32))).2 hr) ?_
        show OwnR _ _ _ _ _ _ _ (T10.setTop (mkF m 151 #[.val (.long q1), .second, .val (.long q2), .second, .val (.long q3), .second, .val (.int p4), .val (.int p5), .val (.int (1 : Int32)), .val (.int pp), .val (.long (own_floor q1)), .second, .val (.long (own_floor q2)), .second, .val (.long (own_floor q3)), .second, .val (.ref b4), .val (.long (own_floor q1)), .second, .unset, .unset, .val (.int ((1 : Int32) * pp)), .val (.int (2 : Int32)), .unset, .unset, .unset, .unset, .unset, .unset] []))
        refine OwnR.of (fun _ hr => XS.lload X10.here hx rfl (hb hby at_151) rfl hr) ?_
        show OwnR _ _ _ _ _ _ _ (T10.setTop (mkF m 153 #[.val (.long q1), .second, .val (.long q2), .second, .val (.long q3), .second, .val (.int p4), .val (.int p5), .val (.int (1 : Int32)), .val (.int pp), .val (.long (own_floor q1)), .second, .val (.long (own_floor q2)), .second, .val (.long (own_floor q3)), .second, .val (.ref b4), .val (.long (own_floor q1)), .second, .unset, .unset, .val (.int ((1 : Int32) * pp)), .val (.int (2 : Int32)), .unset, .unset, .unset, .unset, .unset, .unset] [(.long (own_floor q1))]))
        refine OwnR.of (fun _ hr => XS.lstore X10.here hx rfl (hb hby at_153) rfl (l' := #[.val (.long q1), .second, .val (.long q2), .second, .val (.long q3), .second, .val (.int p4), .val (.int p5), .val (.int (1 : Int32)), .val (.int pp), .val (.long (own_floor q1)), .second, .val (.long (own_floor q2)), .second, .val (.long (own_floor q3)), .second, .val (.ref b4), .val (.long (own_floor q1)), .second, .val (.long (own_floor q1)), .second, .val (.int ((1 : Int32) * pp)), .val (.int (2 : Int32)), .unset, .unset, .unset, .unset, .unset, .unset]) rfl hr) ?_
        show OwnR _ _ _ _ _ _ _ (T10.setTop (mkF m 155 #[.val (.long q1), .second, .val (.long q2), .second, .val (.long q3), .second, .val (.int p4), .val (.int p5), .val (.int (1 : Int32)), .val (.int pp), .val (.long (own_floor q1)), .second, .val (.long (own_floor q2)), .second, .val (.long (own_floor q3)), .second, .val (.ref b4), .val (.long (own_floor q1)), .second, .val (.long (own_floor q1)), .second, .val (.int ((1 : Int32) * pp)), .val (.int (2 : Int32)), .unset, .unset, .unset, .unset, .unset, .unset] []))
        refine OwnR.of (fun _ hr => XS.goto X10.here hx rfl (pc0 := 155) (pc' := 270) rfl (hb hby at_155) (by decide) (by decide) hr) ?_
        show OwnR _ _ _ _ _ _ _ (T10.setTop (mkF m 270 #[.val (.long q1), .second, .val (.long q2), .second, .val (.long q3), .second, .val (.int p4), .val (.int p5), .val (.int (1 : Int32)), .val (.int pp), .val (.long (own_floor q1)), .second, .val (.long (own_floor q2)), .second, .val (.long (own_floor q3)), .second, .val (.ref b4), .val (.long (own_floor q1)), .second, .val (.long (own_floor q1)), .second, .val (.int ((1 : Int32) * pp)), .val (.int (2 : Int32)), .unset, .unset, .unset, .unset, .unset, .unset] []))
        refine OwnR.of (fun _ hr => XS.lload X10.here hx rfl (hb hby at_270) rfl hr) ?_
        show OwnR _ _ _ _ _ _ _ (T10.setTop (mkF m 272 #[.val (.long q1), .second, .val (.long q2), .second, .val (.long q3), .second, .val (.int p4), .val (.int p5), .val (.int (1 : Int32)), .val (.int pp), .val (.long (own_floor q1)), .second, .val (.long (own_floor q2)), .second, .val (.long (own_floor q3)), .second, .val (.ref b4), .val (.long (own_floor q1)), .second, .val (.long (own_floor q1)), .second, .val (.int ((1 : Int32) * pp)), .val (.int (2 : Int32)), .unset, .unset, .unset, .unset, .unset, .unset] [(.long (own_floor q1))]))
        refine OwnR.of (fun _ hr => XS.lload X10.here hx rfl (hb hby at_272) rfl hr) ?_
        show OwnR _ _ _ _ _ _ _ (T10.setTop (mkF m 274 #[.val (.long q1), .second, .val (.long q2), .second, .val (.long q3), .second, .val (.int p4), .val (.int p5), .val (.int (1 : Int32)), .val (.int pp), .val (.long (own_floor q1)), .second, .val (.long (own_floor q2)), .second, .val (.long (own_floor q3)), .second, .val (.ref b4), .val (.long (own_floor q1)), .second, .val (.long (own_floor q1)), .second, .val (.int ((1 : Int32) * pp)), .val (.int (2 : Int32)), .unset, .unset, .unset, .unset, .unset, .unset] [(.long (own_floor q1)), (.long (own_floor q1))]))
        refine OwnR.of (fun _ hr => XS.lcmp X10.here hx rfl (hb hby at_274) rfl hr) ?_
        show OwnR _ _ _ _ _ _ _ (T10.setTop (mkF m 275 #[.val (.long q1), .second, .val (.long q2), .second, .val (.long q3), .second, .val (.int p4), .val (.int p5), .val (.int (1 : Int32)), .val (.int pp), .val (.long (own_floor q1)), .second, .val (.long (own_floor q2)), .second, .val (.long (own_floor q3)), .second, .val (.ref b4), .val (.long (own_floor q1)), .second, .val (.long (own_floor q1)), .second, .val (.int ((1 : Int32) * pp)), .val (.int (2 : Int32)), .unset, .unset, .unset, .unset, .unset, .unset] [(.int (lcmpW (own_floor q1) (own_floor q1)))]))
        refine OwnR.of (fun _ hr => XS.ifNo X10.here hx rfl (hb hby at_275) rfl ((if0 _ _).trans (teq ((own_lceq _ _).mpr rfl)).2) hr) ?_
        show OwnR _ _ _ _ _ _ _ (T10.setTop (mkF m 278 #[.val (.long q1), .second, .val (.long q2), .second, .val (.long q3), .second, .val (.int p4), .val (.int p5), .val (.int (1 : Int32)), .val (.int pp), .val (.long (own_floor q1)), .second, .val (.long (own_floor q2)), .second, .val (.long (own_floor q3)), .second, .val (.ref b4), .val (.long (own_floor q1)), .second, .val (.long (own_floor q1)), .second, .val (.int ((1 : Int32) * pp)), .val (.int (2 : Int32)), .unset, .unset, .unset, .unset, .unset, .unset] []))
        refine OwnR.of (fun _ hr => XS.aload X10.here hx rfl (hb hby at_278) rfl rfl hr) ?_
        show OwnR _ _ _ _ _ _ _ (T10.setTop (mkF m 280 #[.val (.long q1), .second, .val (.long q2), .second, .val (.long q3), .second, .val (.int p4), .val (.int p5), .val (.int (1 : Int32)), .val (.int pp), .val (.long (own_floor q1)), .second, .val (.long (own_floor q2)), .second, .val (.long (own_floor q3)), .second, .val (.ref b4), .val (.long (own_floor q1)), .second, .val (.long (own_floor q1)), .second, .val (.int ((1 : Int32) * pp)), .val (.int (2 : Int32)), .unset, .unset, .unset, .unset, .unset, .unset] [(.ref b4)]))
        obtain ⟨cq15, kq15, q15a, q15b, q15c⟩ := isOf hZ e10 P9_0
        obtain ⟨_, _, ⟨T15, L15, kc15, ns15⟩, -, X15, ⟨Lc15, hQ15, l15, y15, z15⟩, st15⟩ := X10.virtualBack hx (y := (⟨"com/example/kurir/kurir/bench/Latencies", "count", "()J"⟩ : MethodName)) (z := (⟨"com/example/kurir/kurir/bench/Latencies", "count", "()J"⟩ : MethodName)) hown (mvT hZ (hw _ (List.mem_of_getElem? (i := 81) rfl))) (mvT hZ (hw _ (List.mem_of_getElem? (i := 82) rfl))) (notFace_of_selects (args := #[]) (mvT hZ (hw _ (List.mem_of_getElem? (i := 84) rfl)))) (mvT hZ (hw _ (List.mem_of_getElem? (i := 84) rfl))) (mvT hZ (hw _ (List.mem_of_getElem? (i := 83) rfl))) (by decide) (backOf (W := 0) (rmCount l Z a0 hw [] b4 ((0 : Int64) + (1 : Int64)) (T9.heap) n0 (Nat.le_trans Z0 K9.1) P9_0 P9_2) hZ (hw _ (List.mem_of_getElem? (i := 85) rfl)) (hw _ (List.mem_of_getElem? (i := 16) rfl)) (by decide) (by decide)) q15a q15c (g := (mkF m 280 #[.val (.long q1), .second, .val (.long q2), .second, .val (.long q3), .second, .val (.int p4), .val (.int p5), .val (.int (1 : Int32)), .val (.int pp), .val (.long (own_floor q1)), .second, .val (.long (own_floor q2)), .second, .val (.long (own_floor q3)), .second, .val (.ref b4), .val (.long (own_floor q1)), .second, .val (.long (own_floor q1)), .second, .val (.int ((1 : Int32) * pp)), .val (.int (2 : Int32)), .unset, .unset, .unset, .unset, .unset, .unset] [(.ref b4)])) rfl (by rw [hml]; rfl) (Steps.refl _) (argsL := []) (rest := []) (lenOf pd___J rfl) rfl (by show 2 * 0 + _ ≤ _; exact Nat.le_of_eq rfl) (hb hby at_280) (fun _ _ => ⟨rfl, e10, (by decide : 3 + 0 ≤ _), (show 52 + sl1 + 0 ≤ 157376 from hr1)⟩)
        dsimp only [Pt.U, Pt.locs, Pt.cells, Pt.slots] at X15 l15 y15 z15 st15 hQ15
        rw [l15, y15, z15] at X15
        obtain ⟨rfl, N15q, e15⟩ := hQ15
        have N15 := Fr.app N10 N15q
        refine OwnR.of (fun _ hr => st15.trans hr) ?_
        show OwnR _ _ _ _ _ _ _ (T15.setTop (mkF m 283 #[.val (.long q1), .second, .val (.long q2), .second, .val (.long q3), .second, .val (.int p4), .val (.int p5), .val (.int (1 : Int32)), .val (.int pp), .val (.long (own_floor q1)), .second, .val (.long (own_floor q2)), .second, .val (.long (own_floor q3)), .second, .val (.ref b4), .val (.long (own_floor q1)), .second, .val (.long (own_floor q1)), .second, .val (.int ((1 : Int32) * pp)), .val (.int (2 : Int32)), .unset, .unset, .unset, .unset, .unset, .unset] [(.long ((0 : Int64) + (1 : Int64)))]))
        refine OwnR.of (fun _ hr => XS.iload X15.here hx rfl (hb hby at_283) rfl hr) ?_
        show OwnR _ _ _ _ _ _ _ (T15.setTop (mkF m 285 #[.val (.long q1), .second, .val (.long q2), .second, .val (.long q3), .second, .val (.int p4), .val (.int p5), .val (.int (1 : Int32)), .val (.int pp), .val (.long (own_floor q1)), .second, .val (.long (own_floor q2)), .second, .val (.long (own_floor q3)), .second, .val (.ref b4), .val (.long (own_floor q1)), .second, .val (.long (own_floor q1)), .second, .val (.int ((1 : Int32) * pp)), .val (.int (2 : Int32)), .unset, .unset, .unset, .unset, .unset, .unset] [(.int (1 : Int32)), (.long ((0 : Int64) + (1 : Int64)))]))
        refine OwnR.of (fun _ hr => XS.i2l X15.here hx rfl (hb hby at_285) rfl hr) ?_
        show OwnR _ _ _ _ _ _ _ (T15.setTop (mkF m 286 #[.val (.long q1), .second, .val (.long q2), .second, .val (.long q3), .second, .val (.int p4), .val (.int p5), .val (.int (1 : Int32)), .val (.int pp), .val (.long (own_floor q1)), .second, .val (.long (own_floor q2)), .second, .val (.long (own_floor q3)), .second, .val (.ref b4), .val (.long (own_floor q1)), .second, .val (.long (own_floor q1)), .second, .val (.int ((1 : Int32) * pp)), .val (.int (2 : Int32)), .unset, .unset, .unset, .unset, .unset, .unset] [(.long ((1 : Int32).toInt64)), (.long ((0 : Int64) + (1 : Int64)))]))
        rw [(by decide : ((1 : Int32).toInt64) = (1 : Int64))]
        show OwnR _ _ _ _ _ _ _ (T15.setTop (mkF m 286 #[.val (.long q1), .second, .val (.long q2), .second, .val (.long q3), .second, .val (.int p4), .val (.int p5), .val (.int (1 : Int32)), .val (.int pp), .val (.long (own_floor q1)), .second, .val (.long (own_floor q2)), .second, .val (.long (own_floor q3)), .second, .val (.ref b4), .val (.long (own_floor q1)), .second, .val (.long (own_floor q1)), .second, .val (.int ((1 : Int32) * pp)), .val (.int (2 : Int32)), .unset, .unset, .unset, .unset, .unset, .unset] [(.long (1 : Int64)), (.long ((0 : Int64) + (1 : Int64)))]))
        refine OwnR.of (fun _ hr => XS.lcmp X15.here hx rfl (hb hby at_286) rfl hr) ?_
        show OwnR _ _ _ _ _ _ _ (T15.setTop (mkF m 287 #[.val (.long q1), .second, .val (.long q2), .second, .val (.long q3), .second, .val (.int p4), .val (.int p5), .val (.int (1 : Int32)), .val (.int pp), .val (.long (own_floor q1)), .second, .val (.long (own_floor q2)), .second, .val (.long (own_floor q3)), .second, .val (.ref b4), .val (.long (own_floor q1)), .second, .val (.long (own_floor q1)), .second, .val (.int ((1 : Int32) * pp)), .val (.int (2 : Int32)), .unset, .unset, .unset, .unset, .unset, .unset] [(.int (lcmpW ((0 : Int64) + (1 : Int64)) (1 : Int64)))]))
        have hc287_16 : ((0 : Int64) + (1 : Int64)) = (1 : Int64) := by
          refine Classical.byContradiction fun hbad => ?_
          exact hbad (by decide)
        refine OwnR.of (fun _ hr => XS.ifNo X15.here hx rfl (hb hby at_287) rfl ((if0 _ _).trans (teq ((own_lceq _ _).mpr hc287_16)).2) hr) ?_
        show OwnR _ _ _ _ _ _ _ (T15.setTop (mkF m 290 #[.val (.long q1), .second, .val (.long q2), .second, .val (.long q3), .second, .val (.int p4), .val (.int p5), .val (.int (1 : Int32)), .val (.int pp), .val (.long (own_floor q1)), .second, .val (.long (own_floor q2)), .second, .val (.long (own_floor q3)), .second, .val (.ref b4), .val (.long (own_floor q1)), .second, .val (.long (own_floor q1)), .second, .val (.int ((1 : Int32) * pp)), .val (.int (2 : Int32)), .unset, .unset, .unset, .unset, .unset, .unset] []))
        refine OwnR.of (fun _ hr => XS.iconst X15.here hx rfl (hb hby at_290) hr) ?_
        show OwnR _ _ _ _ _ _ _ (T15.setTop (mkF m 291 #[.val (.long q1), .second, .val (.long q2), .second, .val (.long q3), .second, .val (.int p4), .val (.int p5), .val (.int (1 : Int32)), .val (.int pp), .val (.long (own_floor q1)), .second, .val (.long (own_floor q2)), .second, .val (.long (own_floor q3)), .second, .val (.ref b4), .val (.long (own_floor q1)), .second, .val (.long (own_floor q1)), .second, .val (.int ((1 : Int32) * pp)), .val (.int (2 : Int32)), .unset, .unset, .unset, .unset, .unset, .unset] [(.int (1 : Int32))]))
        refine OwnR.of (fun _ hr => XS.goto X15.here hx rfl (pc0 := 291) (pc' := 295) rfl (hb hby at_291) (by decide) (by decide) hr) ?_
        show OwnR _ _ _ _ _ _ _ (T15.setTop (mkF m 295 #[.val (.long q1), .second, .val (.long q2), .second, .val (.long q3), .second, .val (.int p4), .val (.int p5), .val (.int (1 : Int32)), .val (.int pp), .val (.long (own_floor q1)), .second, .val (.long (own_floor q2)), .second, .val (.long (own_floor q3)), .second, .val (.ref b4), .val (.long (own_floor q1)), .second, .val (.long (own_floor q1)), .second, .val (.int ((1 : Int32) * pp)), .val (.int (2 : Int32)), .unset, .unset, .unset, .unset, .unset, .unset] [(.int (1 : Int32))]))
        refine own_leafN X15 hx hlk (t := .boolean) Bd.returns (by simp) (hb hby at_295) (z' := (1 : Int32)) rfl (by decide) (show 52 + sl1 ≤ 157376 from hr1) ?_
        show Q0 Z  h0 n0 _ T15.heap _
        rw [show T15.heap = T9.heap from e15]
        refine ⟨?_, N15⟩
        show (some (.int (1 : Int32)) : Option Value) = some (.int (1 : Int32))
        rfl
    · skip
      refine OwnR.of (fun _ hr => XS.icmpNo X10.here hx rfl (hb hby at_123) rfl (flt hc123_11).2.2.1 hr) ?_
      show OwnR _ _ _ _ _ _ _ (T10.setTop (mkF m 126 #[.val (.long q1), .second, .val (.long q2), .second, .val (.long q3), .second, .val (.int p4), .val (.int p5), .val (.int (1 : Int32)), .val (.int pp), .val (.long (own_floor q1)), .second, .val (.long (own_floor q2)), .second, .val (.long (own_floor q3)), .second, .val (.ref b4), .val (.long (own_floor q1)), .second, .unset, .unset, .val (.int ((1 : Int32) * pp)), .unset, .unset, .unset, .unset, .unset, .unset, .unset] []))
      refine OwnR.of (fun _ hr => XS.iconst X10.here hx rfl (hb hby at_126) hr) ?_
      show OwnR _ _ _ _ _ _ _ (T10.setTop (mkF m 127 #[.val (.long q1), .second, .val (.long q2), .second, .val (.long q3), .second, .val (.int p4), .val (.int p5), .val (.int (1 : Int32)), .val (.int pp), .val (.long (own_floor q1)), .second, .val (.long (own_floor q2)), .second, .val (.long (own_floor q3)), .second, .val (.ref b4), .val (.long (own_floor q1)), .second, .unset, .unset, .val (.int ((1 : Int32) * pp)), .unset, .unset, .unset, .unset, .unset, .unset, .unset] [(.int (1 : Int32))]))
      refine OwnR.of (fun _ hr => XS.goto X10.here hx rfl (pc0 := 127) (pc' := 143) rfl (hb hby at_127) (by decide) (by decide) hr) ?_
      show OwnR _ _ _ _ _ _ _ (T10.setTop (mkF m 143 #[.val (.long q1), .second, .val (.long q2), .second, .val (.long q3), .second, .val (.int p4), .val (.int p5), .val (.int (1 : Int32)), .val (.int pp), .val (.long (own_floor q1)), .second, .val (.long (own_floor q2)), .second, .val (.long (own_floor q3)), .second, .val (.ref b4), .val (.long (own_floor q1)), .second, .unset, .unset, .val (.int ((1 : Int32) * pp)), .unset, .unset, .unset, .unset, .unset, .unset, .unset] [(.int (1 : Int32))]))
      refine OwnR.of (fun _ hr => XS.istore X10.here hx rfl (hb hby at_143) rfl (l' := #[.val (.long q1), .second, .val (.long q2), .second, .val (.long q3), .second, .val (.int p4), .val (.int p5), .val (.int (1 : Int32)), .val (.int pp), .val (.long (own_floor q1)), .second, .val (.long (own_floor q2)), .second, .val (.long (own_floor q3)), .second, .val (.ref b4), .val (.long (own_floor q1)), .second, .unset, .unset, .val (.int ((1 : Int32) * pp)), .val (.int (1 : Int32)), .unset, .unset, .unset, .unset, .unset, .unset]) rfl hr) ?_
      show OwnR _ _ _ _ _ _ _ (T10.setTop (mkF m 145 #[.val (.long q1), .second, .val (.long q2), .second, .val (.long q3), .second, .val (.int p4), .val (.int p5), .val (.int (1 : Int32)), .val (.int pp), .val (.long (own_floor q1)), .second, .val (.long (own_floor q2)), .second, .val (.long (own_floor q3)), .second, .val (.ref b4), .val (.long (own_floor q1)), .second, .unset, .unset, .val (.int ((1 : Int32) * pp)), .val (.int (1 : Int32)), .unset, .unset, .unset, .unset, .unset, .unset] []))
      refine OwnR.of (fun _ hr => XS.iload X10.here hx rfl (hb hby at_145) rfl hr) ?_
      show OwnR _ _ _ _ _ _ _ (T10.setTop (mkF m 147 #[.val (.long q1), .second, .val (.long q2), .second, .val (.long q3), .second, .val (.int p4), .val (.int p5), .val (.int (1 : Int32)), .val (.int pp), .val (.long (own_floor q1)), .second, .val (.long (own_floor q2)), .second, .val (.long (own_floor q3)), .second, .val (.ref b4), .val (.long (own_floor q1)), .second, .unset, .unset, .val (.int ((1 : Int32) * pp)), .val (.int (1 : Int32)), .unset, .unset, .unset, .unset, .unset, .unset] [(.int (1 : Int32))]))
      refine OwnR.of (fun _ hr => XS.iconst X10.here hx rfl (hb hby at_147) hr) ?_
      show OwnR _ _ _ _ _ _ _ (T10.setTop (mkF m 148 #[.val (.long q1), .second, .val (.long q2), .second, .val (.long q3), .second, .val (.int p4), .val (.int p5), .val (.int (1 : Int32)), .val (.int pp), .val (.long (own_floor q1)), .second, .val (.long (own_floor q2)), .second, .val (.long (own_floor q3)), .second, .val (.ref b4), .val (.long (own_floor q1)), .second, .unset, .unset, .val (.int ((1 : Int32) * pp)), .val (.int (1 : Int32)), .unset, .unset, .unset, .unset, .unset, .unset] [(.int (1 : Int32)), (.int (1 : Int32))]))
      refine OwnR.of (fun _ hr => XS.icmpNo X10.here hx rfl (hb hby at_148) rfl (teq (by decide : (1 : Int32) = (1 : Int32))).2 hr) ?_
      show OwnR _ _ _ _ _ _ _ (T10.setTop (mkF m 151 #[.val (.long q1), .second, .val (.long q2), .second, .val (.long q3), .second, .val (.int p4), .val (.int p5), .val (.int (1 : Int32)), .val (.int pp), .val (.long (own_floor q1)), .second, .val (.long (own_floor q2)), .second, .val (.long (own_floor q3)), .second, .val (.ref b4), .val (.long (own_floor q1)), .second, .unset, .unset, .val (.int ((1 : Int32) * pp)), .val (.int (1 : Int32)), .unset, .unset, .unset, .unset, .unset, .unset] []))
      refine OwnR.of (fun _ hr => XS.lload X10.here hx rfl (hb hby at_151) rfl hr) ?_
      show OwnR _ _ _ _ _ _ _ (T10.setTop (mkF m 153 #[.val (.long q1), .second, .val (.long q2), .second, .val (.long q3), .second, .val (.int p4), .val (.int p5), .val (.int (1 : Int32)), .val (.int pp), .val (.long (own_floor q1)), .second, .val (.long (own_floor q2)), .second, .val (.long (own_floor q3)), .second, .val (.ref b4), .val (.long (own_floor q1)), .second, .unset, .unset, .val (.int ((1 : Int32) * pp)), .val (.int (1 : Int32)), .unset, .unset, .unset, .unset, .unset, .unset] [(.long (own_floor q1))]))
      refine OwnR.of (fun _ hr => XS.lstore X10.here hx rfl (hb hby at_153) rfl (l' := #[.val (.long q1), .second, .val (.long q2), .second, .val (.long q3), .second, .val (.int p4), .val (.int p5), .val (.int (1 : Int32)), .val (.int pp), .val (.long (own_floor q1)), .second, .val (.long (own_floor q2)), .second, .val (.long (own_floor q3)), .second, .val (.ref b4), .val (.long (own_floor q1)), .second, .val (.long (own_floor q1)), .second, .val (.int ((1 : Int32) * pp)), .val (.int (1 : Int32)), .unset, .unset, .unset, .unset, .unset, .unset]) rfl hr) ?_
      show OwnR _ _ _ _ _ _ _ (T10.setTop (mkF m 155 #[.val (.long q1), .second, .val (.long q2), .second, .val (.long q3), .second, .val (.int p4), .val (.int p5), .val (.int (1 : Int32)), .val (.int pp), .val (.long (own_floor q1)), .second, .val (.long (own_floor q2)), .second, .val (.long (own_floor q3)), .second, .val (.ref b4), .val (.long (own_floor q1)), .second, .val (.long (own_floor q1)), .second, .val (.int ((1 : Int32) * pp)), .val (.int (1 : Int32)), .unset, .unset, .unset, .unset, .unset, .unset] []))
      refine OwnR.of (fun _ hr => XS.goto X10.here hx rfl (pc0 := 155) (pc' := 270) rfl (hb hby at_155) (by decide) (by decide) hr) ?_
      show OwnR _ _ _ _ _ _ _ (T10.setTop (mkF m 270 #[.val (.long q1), .second, .val (.long q2), .second, .val (.long q3), .second, .val (.int p4), .val (.int p5), .val (.int (1 : Int32)), .val (.int pp), .val (.long (own_floor q1)), .second, .val (.long (own_floor q2)), .second, .val (.long (own_floor q3)), .second, .val (.ref b4), .val (.long (own_floor q1)), .second, .val (.long (own_floor q1)), .second, .val (.int ((1 : Int32) * pp)), .val (.int (1 : Int32)), .unset, .unset, .unset, .unset, .unset, .unset] []))
      refine OwnR.of (fun _ hr => XS.lload X10.here hx rfl (hb hby at_270) rfl hr) ?_
      show OwnR _ _ _ _ _ _ _ (T10.setTop (mkF m 272 #[.val (.long q1), .second, .val (.long q2), .second, .val (.long q3), .second, .val (.int p4), .val (.int p5), .val (.int (1 : Int32)), .val (.int pp), .val (.long (own_floor q1)), .second, .val (.long (own_floor q2)), .second, .val (.long (own_floor q3)), .second, .val (.ref b4), .val (.long (own_floor q1)), .second, .val (.long (own_floor q1)), .second, .val (.int ((1 : Int32) * pp)), .val (.int (1 : Int32)), .unset, .unset, .unset, .unset, .unset, .unset] [(.long (own_floor q1))]))
      refine OwnR.of (fun _ hr => XS.lload X10.here hx rfl (hb hby at_272) rfl hr) ?_
      show OwnR _ _ _ _ _ _ _ (T10.setTop (mkF m 274 #[.val (.long q1), .second, .val (.long q2), .second, .val (.long q3), .second, .val (.int p4), .val (.int p5), .val (.int (1 : Int32)), .val (.int pp), .val (.long (own_floor q1)), .second, .val (.long (own_floor q2)), .second, .val (.long (own_floor q3)), .second, .val (.ref b4), .val (.long (own_floor q1)), .second, .val (.long (own_floor q1)), .second, .val (.int ((1 : Int32) * pp)), .val (.int (1 : Int32)), .unset, .unset, .unset, .unset, .unset, .unset] [(.long (own_floor q1)), (.long (own_floor q1))]))
      refine OwnR.of (fun _ hr => XS.lcmp X10.here hx rfl (hb hby at_274) rfl hr) ?_
      show OwnR _ _ _ _ _ _ _ (T10.setTop (mkF m 275 #[.val (.long q1), .second, .val (.long q2), .second, .val (.long q3), .second, .val (.int p4), .val (.int p5), .val (.int (1 : Int32)), .val (.int pp), .val (.long (own_floor q1)), .second, .val (.long (own_floor q2)), .second, .val (.long (own_floor q3)), .second, .val (.ref b4), .val (.long (own_floor q1)), .second, .val (.long (own_floor q1)), .second, .val (.int ((1 : Int32) * pp)), .val (.int (1 : Int32)), .unset, .unset, .unset, .unset, .unset, .unset] [(.int (lcmpW (own_floor q1) (own_floor q1)))]))
      refine OwnR.of (fun _ hr => XS.ifNo X10.here hx rfl (hb hby at_275) rfl ((if0 _ _).trans (teq ((own_lceq _ _).mpr rfl)).2) hr) ?_
      show OwnR _ _ _ _ _ _ _ (T10.setTop (mkF m 278 #[.val (.long q1), .second, .val (.long q2), .second, .val (.long q3), .second, .val (.int p4), .val (.int p5), .val (.int (1 : Int32)), .val (.int pp), .val (.long (own_floor q1)), .second, .val (.long (own_floor q2)), .second, .val (.long (own_floor q3)), .second, .val (.ref b4), .val (.long (own_floor q1)), .second, .val (.long (own_floor q1)), .second, .val (.int ((1 : Int32) * pp)), .val (.int (1 : Int32)), .unset, .unset, .unset, .unset, .unset, .unset] []))
      refine OwnR.of (fun _ hr => XS.aload X10.here hx rfl (hb hby at_278) rfl rfl hr) ?_
      show OwnR _ _ _ _ _ _ _ (T10.setTop (mkF m 280 #[.val (.long q1), .second, .val (.long q2), .second, .val (.long q3), .second, .val (.int p4), .val (.int p5), .val (.int (1 : Int32)), .val (.int pp), .val (.long (own_floor q1)), .second, .val (.long (own_floor q2)), .second, .val (.long (own_floor q3)), .second, .val (.ref b4), .val (.long (own_floor q1)), .second, .val (.long (own_floor q1)), .second, .val (.int ((1 : Int32) * pp)), .val (.int (1 : Int32)), .unset, .unset, .unset, .unset, .unset, .unset] [(.ref b4)]))
      obtain ⟨cq17, kq17, q17a, q17b, q17c⟩ := isOf hZ e10 P9_0
      obtain ⟨_, _, ⟨T17, L17, kc17, ns17⟩, -, X17, ⟨Lc17, hQ17, l17, y17, z17⟩, st17⟩ := X10.virtualBack hx (y := (⟨"com/example/kurir/kurir/bench/Latencies", "count", "()J"⟩ : MethodName)) (z := (⟨"com/example/kurir/kurir/bench/Latencies", "count", "()J"⟩ : MethodName)) hown (mvT hZ (hw _ (List.mem_of_getElem? (i := 81) rfl))) (mvT hZ (hw _ (List.mem_of_getElem? (i := 82) rfl))) (notFace_of_selects (args := #[]) (mvT hZ (hw _ (List.mem_of_getElem? (i := 84) rfl)))) (mvT hZ (hw _ (List.mem_of_getElem? (i := 84) rfl))) (mvT hZ (hw _ (List.mem_of_getElem? (i := 83) rfl))) (by decide) (backOf (W := 0) (rmCount l Z a0 hw [] b4 ((0 : Int64) + (1 : Int64)) (T9.heap) n0 (Nat.le_trans Z0 K9.1) P9_0 P9_2) hZ (hw _ (List.mem_of_getElem? (i := 85) rfl)) (hw _ (List.mem_of_getElem? (i := 16) rfl)) (by decide) (by decide)) q17a q17c (g := (mkF m 280 #[.val (.long q1), .second, .val (.long q2), .second, .val (.long q3), .second, .val (.int p4), .val (.int p5), .val (.int (1 : Int32)), .val (.int pp), .val (.long (own_floor q1)), .second, .val (.long (own_floor q2)), .second, .val (.long (own_floor q3)), .second, .val (.ref b4), .val (.long (own_floor q1)), .second, .val (.long (own_floor q1)), .second, .val (.int ((1 : Int32) * pp)), .val (.int (1 : Int32)), .unset, .unset, .unset, .unset, .unset, .unset] [(.ref b4)])) rfl (by rw [hml]; rfl) (Steps.refl _) (argsL := []) (rest := []) (lenOf pd___J rfl) rfl (by show 2 * 0 + _ ≤ _; exact Nat.le_of_eq rfl) (hb hby at_280) (fun _ _ => ⟨rfl, e10, (by decide : 3 + 0 ≤ _), (show 52 + sl1 + 0 ≤ 157376 from hr1)⟩)
      dsimp only [Pt.U, Pt.locs, Pt.cells, Pt.slots] at X17 l17 y17 z17 st17 hQ17
      rw [l17, y17, z17] at X17
      obtain ⟨rfl, N17q, e17⟩ := hQ17
      have N17 := Fr.app N10 N17q
      refine OwnR.of (fun _ hr => st17.trans hr) ?_
      show OwnR _ _ _ _ _ _ _ (T17.setTop (mkF m 283 #[.val (.long q1), .second, .val (.long q2), .second, .val (.long q3), .second, .val (.int p4), .val (.int p5), .val (.int (1 : Int32)), .val (.int pp), .val (.long (own_floor q1)), .second, .val (.long (own_floor q2)), .second, .val (.long (own_floor q3)), .second, .val (.ref b4), .val (.long (own_floor q1)), .second, .val (.long (own_floor q1)), .second, .val (.int ((1 : Int32) * pp)), .val (.int (1 : Int32)), .unset, .unset, .unset, .unset, .unset, .unset] [(.long ((0 : Int64) + (1 : Int64)))]))
      refine OwnR.of (fun _ hr => XS.iload X17.here hx rfl (hb hby at_283) rfl hr) ?_
      show OwnR _ _ _ _ _ _ _ (T17.setTop (mkF m 285 #[.val (.long q1), .second, .val (.long q2), .second, .val (.long q3), .second, .val (.int p4), .val (.int p5), .val (.int (1 : Int32)), .val (.int pp), .val (.long (own_floor q1)), .second, .val (.long (own_floor q2)), .second, .val (.long (own_floor q3)), .second, .val (.ref b4), .val (.long (own_floor q1)), .second, .val (.long (own_floor q1)), .second, .val (.int ((1 : Int32) * pp)), .val (.int (1 : Int32)), .unset, .unset, .unset, .unset, .unset, .unset] [(.int (1 : Int32)), (.long ((0 : Int64) + (1 : Int64)))]))
      refine OwnR.of (fun _ hr => XS.i2l X17.here hx rfl (hb hby at_285) rfl hr) ?_
      show OwnR _ _ _ _ _ _ _ (T17.setTop (mkF m 286 #[.val (.long q1), .second, .val (.long q2), .second, .val (.long q3), .second, .val (.int p4), .val (.int p5), .val (.int (1 : Int32)), .val (.int pp), .val (.long (own_floor q1)), .second, .val (.long (own_floor q2)), .second, .val (.long (own_floor q3)), .second, .val (.ref b4), .val (.long (own_floor q1)), .second, .val (.long (own_floor q1)), .second, .val (.int ((1 : Int32) * pp)), .val (.int (1 : Int32)), .unset, .unset, .unset, .unset, .unset, .unset] [(.long ((1 : Int32).toInt64)), (.long ((0 : Int64) + (1 : Int64)))]))
      rw [(by decide : ((1 : Int32).toInt64) = (1 : Int64))]
      show OwnR _ _ _ _ _ _ _ (T17.setTop (mkF m 286 #[.val (.long q1), .second, .val (.long q2), .second, .val (.long q3), .second, .val (.int p4), .val (.int p5), .val (.int (1 : Int32)), .val (.int pp), .val (.long (own_floor q1)), .second, .val (.long (own_floor q2)), .second, .val (.long (own_floor q3)), .second, .val (.ref b4), .val (.long (own_floor q1)), .second, .val (.long (own_floor q1)), .second, .val (.int ((1 : Int32) * pp)), .val (.int (1 : Int32)), .unset, .unset, .unset, .unset, .unset, .unset] [(.long (1 : Int64)), (.long ((0 : Int64) + (1 : Int64)))]))
      refine OwnR.of (fun _ hr => XS.lcmp X17.here hx rfl (hb hby at_286) rfl hr) ?_
      show OwnR _ _ _ _ _ _ _ (T17.setTop (mkF m 287 #[.val (.long q1), .second, .val (.long q2), .second, .val (.long q3), .second, .val (.int p4), .val (.int p5), .val (.int (1 : Int32)), .val (.int pp), .val (.long (own_floor q1)), .second, .val (.long (own_floor q2)), .second, .val (.long (own_floor q3)), .second, .val (.ref b4), .val (.long (own_floor q1)), .second, .val (.long (own_floor q1)), .second, .val (.int ((1 : Int32) * pp)), .val (.int (1 : Int32)), .unset, .unset, .unset, .unset, .unset, .unset] [(.int (lcmpW ((0 : Int64) + (1 : Int64)) (1 : Int64)))]))
      have hc287_18 : ((0 : Int64) + (1 : Int64)) = (1 : Int64) := by
        refine Classical.byContradiction fun hbad => ?_
        exact hbad (by decide)
      refine OwnR.of (fun _ hr => XS.ifNo X17.here hx rfl (hb hby at_287) rfl ((if0 _ _).trans (teq ((own_lceq _ _).mpr hc287_18)).2) hr) ?_
      show OwnR _ _ _ _ _ _ _ (T17.setTop (mkF m 290 #[.val (.long q1), .second, .val (.long q2), .second, .val (.long q3), .second, .val (.int p4), .val (.int p5), .val (.int (1 : Int32)), .val (.int pp), .val (.long (own_floor q1)), .second, .val (.long (own_floor q2)), .second, .val (.long (own_floor q3)), .second, .val (.ref b4), .val (.long (own_floor q1)), .second, .val (.long (own_floor q1)), .second, .val (.int ((1 : Int32) * pp)), .val (.int (1 : Int32)), .unset, .unset, .unset, .unset, .unset, .unset] []))
      refine OwnR.of (fun _ hr => XS.iconst X17.here hx rfl (hb hby at_290) hr) ?_
      show OwnR _ _ _ _ _ _ _ (T17.setTop (mkF m 291 #[.val (.long q1), .second, .val (.long q2), .second, .val (.long q3), .second, .val (.int p4), .val (.int p5), .val (.int (1 : Int32)), .val (.int pp), .val (.long (own_floor q1)), .second, .val (.long (own_floor q2)), .second, .val (.long (own_floor q3)), .second, .val (.ref b4), .val (.long (own_floor q1)), .second, .val (.long (own_floor q1)), .second, .val (.int ((1 : Int32) * pp)), .val (.int (1 : Int32)), .unset, .unset, .unset, .unset, .unset, .unset] [(.int (1 : Int32))]))
      refine OwnR.of (fun _ hr => XS.goto X17.here hx rfl (pc0 := 291) (pc' := 295) rfl (hb hby at_291) (by decide) (by decide) hr) ?_
      show OwnR _ _ _ _ _ _ _ (T17.setTop (mkF m 295 #[.val (.long q1), .second, .val (.long q2), .second, .val (.long q3), .second, .val (.int p4), .val (.int p5), .val (.int (1 : Int32)), .val (.int pp), .val (.long (own_floor q1)), .second, .val (.long (own_floor q2)), .second, .val (.long (own_floor q3)), .second, .val (.ref b4), .val (.long (own_floor q1)), .second, .val (.long (own_floor q1)), .second, .val (.int ((1 : Int32) * pp)), .val (.int (1 : Int32)), .unset, .unset, .unset, .unset, .unset, .unset] [(.int (1 : Int32))]))
      refine own_leafN X17 hx hlk (t := .boolean) Bd.returns (by simp) (hb hby at_295) (z' := (1 : Int32)) rfl (by decide) (show 52 + sl1 ≤ 157376 from hr1) ?_
      show Q0 Z  h0 n0 _ T17.heap _
      rw [show T17.heap = T9.heap from e17]
      refine ⟨?_, N17⟩
      show (some (.int (1 : Int32)) : Option Value) = some (.int (1 : Int32))
      rfl
  · skip
    show OwnR _ _ _ _ _ _ _ (T5.setTop (mkF m 46 #[.val (.long q1), .second, .val (.long q2), .second, .val (.long q3), .second, .val (.int p4), .val (.int p5), .val (.int (2 : Int32)), .val (.int pp), .val (.long (own_floor q1)), .second, .val (.long (own_floor q2)), .second, .val (.long (own_floor q3)), .second, .val (.ref b4), .unset, .unset, .unset, .unset, .unset, .unset, .unset, .unset, .unset, .unset, .unset, .unset] []))
    refine OwnR.of (fun _ hr => XS.iload X5.here hx rfl (hb hby at_46) rfl hr) ?_
    show OwnR _ _ _ _ _ _ _ (T5.setTop (mkF m 48 #[.val (.long q1), .second, .val (.long q2), .second, .val (.long q3), .second, .val (.int p4), .val (.int p5), .val (.int (2 : Int32)), .val (.int pp), .val (.long (own_floor q1)), .second, .val (.long (own_floor q2)), .second, .val (.long (own_floor q3)), .second, .val (.ref b4), .unset, .unset, .unset, .unset, .unset, .unset, .unset, .unset, .unset, .unset, .unset, .unset] [(.int (2 : Int32))]))
    refine OwnR.of (fun _ hr => XS.iconst X5.here hx rfl (hb hby at_48) hr) ?_
    show OwnR _ _ _ _ _ _ _ (T5.setTop (mkF m 49 #[.val (.long q1), .second, .val (.long q2), .second, .val (.long q3), .second, .val (.int p4), .val (.int p5), .val (.int (2 : Int32)), .val (.int pp), .val (.long (own_floor q1)), .second, .val (.long (own_floor q2)), .second, .val (.long (own_floor q3)), .second, .val (.ref b4), .unset, .unset, .unset, .unset, .unset, .unset, .unset, .unset, .unset, .unset, .unset, .unset] [(.int (1 : Int32)), (.int (2 : Int32))]))
    refine OwnR.of (fun _ hr => XS.icmpNo X5.here hx rfl (hb hby at_49) rfl (flt (by decide : ¬ ((2 : Int32) < (1 : Int32)))).1 hr) ?_
    show OwnR _ _ _ _ _ _ _ (T5.setTop (mkF m 52 #[.val (.long q1), .second, .val (.long q2), .second, .val (.long q3), .second, .val (.int p4), .val (.int p5), .val (.int (2 : Int32)), .val (.int pp), .val (.long (own_floor q1)), .second, .val (.long (own_floor q2)), .second, .val (.long (own_floor q3)), .second, .val (.ref b4), .unset, .unset, .unset, .unset, .unset, .unset, .unset, .unset, .unset, .unset, .unset, .unset] []))
    refine OwnR.of (fun _ hr => XS.aload X5.here hx rfl (hb hby at_52) rfl rfl hr) ?_
    show OwnR _ _ _ _ _ _ _ (T5.setTop (mkF m 54 #[.val (.long q1), .second, .val (.long q2), .second, .val (.long q3), .second, .val (.int p4), .val (.int p5), .val (.int (2 : Int32)), .val (.int pp), .val (.long (own_floor q1)), .second, .val (.long (own_floor q2)), .second, .val (.long (own_floor q3)), .second, .val (.ref b4), .unset, .unset, .unset, .unset, .unset, .unset, .unset, .unset, .unset, .unset, .unset, .unset] [(.ref b4)]))
    refine OwnR.of (fun _ hr => XS.lloadN X5.here hx rfl (hb hby at_54) rfl hr) ?_
    show OwnR _ _ _ _ _ _ _ (T5.setTop (mkF m 55 #[.val (.long q1), .second, .val (.long q2), .second, .val (.long q3), .second, .val (.int p4), .val (.int p5), .val (.int (2 : Int32)), .val (.int pp), .val (.long (own_floor q1)), .second, .val (.long (own_floor q2)), .second, .val (.long (own_floor q3)), .second, .val (.ref b4), .unset, .unset, .unset, .unset, .unset, .unset, .unset, .unset, .unset, .unset, .unset, .unset] [(.long q1), (.ref b4)]))
    obtain ⟨_, _, ⟨T19, L19, kc19, ns19⟩, -, X19, ⟨Lc19, hQ19, l19, y19, z19⟩, st19⟩ := Jvm.LawKit.callS X5 hx (y := (⟨"com/example/kurir/kurir/bench/LatenciesPercentileMicrosPinLaw", "nanosOf", "(J)J"⟩ : MethodName)) hown (mvT hZ (hw _ (List.mem_of_getElem? (i := 29) rfl))) (mvT hZ (hw _ (List.mem_of_getElem? (i := 30) rfl))) (mvT hZ (hw _ (List.mem_of_getElem? (i := 3) rfl))) (mvT hZ (hw _ (List.mem_of_getElem? (i := 31) rfl))) (by decide) (backOf (W := 1) (rmNanos l Z a0 hw [] q1 (T5.heap) n0 (Nat.le_trans Z0 K5.1) ) hZ (hw _ (List.mem_of_getElem? (i := 31) rfl)) (hw _ (List.mem_of_getElem? (i := 3) rfl)) (by decide) (by decide)) (g := (mkF m 55 #[.val (.long q1), .second, .val (.long q2), .second, .val (.long q3), .second, .val (.int p4), .val (.int p5), .val (.int (2 : Int32)), .val (.int pp), .val (.long (own_floor q1)), .second, .val (.long (own_floor q2)), .second, .val (.long (own_floor q3)), .second, .val (.ref b4), .unset, .unset, .unset, .unset, .unset, .unset, .unset, .unset, .unset, .unset, .unset, .unset] [(.long q1), (.ref b4)])) rfl (by rw [hml]; rfl) (argsL := [(.long q1)]) (rest := [(.ref b4)]) (lenOf pd__J_J rfl) rfl (by show 2 * 0 + _ ≤ _; exact Nat.le_of_eq rfl) (hb hby at_55) (fun _ _ => ⟨rfl, rfl, (by decide : 2 + 0 ≤ _), (show 52 + 0 ≤ 157376 from (by decide))⟩)
    dsimp only [Pt.U, Pt.locs, Pt.cells, Pt.slots] at X19 l19 y19 z19 st19 hQ19
    rw [l19, y19, z19] at X19
    obtain ⟨rfl, N19q, e19⟩ := hQ19
    have N19 := Fr.app N5 N19q
    refine OwnR.of (st19) ?_
    show OwnR _ _ _ _ _ _ _ (T19.setTop (mkF m 58 #[.val (.long q1), .second, .val (.long q2), .second, .val (.long q3), .second, .val (.int p4), .val (.int p5), .val (.int (2 : Int32)), .val (.int pp), .val (.long (own_floor q1)), .second, .val (.long (own_floor q2)), .second, .val (.long (own_floor q3)), .second, .val (.ref b4), .unset, .unset, .unset, .unset, .unset, .unset, .unset, .unset, .unset, .unset, .unset, .unset] [(.long (own_nanos q1)), (.ref b4)]))
    obtain ⟨sl1, hsl1⟩ : ∃ z, z = own_cost ((fun _ => Value.null) m1) m1 := ⟨_, rfl⟩
    have hr1 := own_r1 hsl1
    obtain ⟨cq20, kq20, q20a, q20b, q20c⟩ := isOf hZ e19 P5_1
    obtain ⟨_, _, ⟨T20, L20, kc20, ns20⟩, -, X20, ⟨Lc20, hQ20, l20, y20, z20⟩, st20⟩ := X19.virtualBack hx (y := (⟨"com/example/kurir/kurir/bench/Latencies", "add", "(J)V"⟩ : MethodName)) (z := (⟨"com/example/kurir/kurir/bench/Latencies", "add", "(J)V"⟩ : MethodName)) hown (mvT hZ (hw _ (List.mem_of_getElem? (i := 34) rfl))) (mvT hZ (hw _ (List.mem_of_getElem? (i := 35) rfl))) (notFace_of_selects (args := #[]) (mvT hZ (hw _ (List.mem_of_getElem? (i := 37) rfl)))) (mvT hZ (hw _ (List.mem_of_getElem? (i := 37) rfl))) (mvT hZ (hw _ (List.mem_of_getElem? (i := 36) rfl))) (by decide) (backOf (W := 0) (rmAdd l Z a0 hw [] b4 (own_nanos q1) A_5 kA_5 n0 (fun _ => Value.null) ([]) (0 : Int64) (0 : Int64) mc1 mI1 iI1 m1 j1 sl1 (T5.heap) n0 (Nat.le_trans Z0 K5.1) P5_1 P5_2 P5_3 P5_4 P5_7 P5_8 (OwnHi.start P5_5) P5_6 (Nat.le_refl n0) (Nat.le_trans Z0 K5.1) gn_b4 P5_10 (Nat.ne_of_lt (Nat.lt_of_lt_of_le A4.lt P5_9)) hmc1 hm1 hmn1 hm01 hm491 hi1 hjn1 hi01 hil1 hsl1) hZ (hw _ (List.mem_of_getElem? (i := 38) rfl)) (hw _ (List.mem_of_getElem? (i := 16) rfl)) (Nat.le_of_ble_eq_true rfl) (Nat.le_of_ble_eq_true rfl)) q20a q20c (g := (mkF m 58 #[.val (.long q1), .second, .val (.long q2), .second, .val (.long q3), .second, .val (.int p4), .val (.int p5), .val (.int (2 : Int32)), .val (.int pp), .val (.long (own_floor q1)), .second, .val (.long (own_floor q2)), .second, .val (.long (own_floor q3)), .second, .val (.ref b4), .unset, .unset, .unset, .unset, .unset, .unset, .unset, .unset, .unset, .unset, .unset, .unset] [(.long (own_nanos q1)), (.ref b4)])) rfl (by rw [hml]; rfl) (Steps.refl _) (argsL := [(.long (own_nanos q1))]) (rest := []) (lenOf pd__J_V rfl) rfl (by show 2 * 0 + _ ≤ _; exact Nat.le_of_eq rfl) (hb hby at_58) (fun _ _ => ⟨rfl, e19, (by decide : 2 + 1 ≤ _), (show 52 + sl1 ≤ 157376 from hr1)⟩)
    dsimp only [Pt.U, Pt.locs, Pt.cells, Pt.slots] at X20 l20 y20 z20 st20 hQ20
    rw [l20, y20, z20] at X20
    obtain ⟨B2_20, rfl, N20q, P20_0, P20_1, P20_2, P20_3, P20_4, P20_5, P20_6, P20_7, P20_8⟩ := hQ20
    have K20 : h0.size ≤ T20.heap.size ∧ True := ⟨Nat.le_trans K5.1 P20_8, trivial⟩
    have N20 := Fr.app N19 N20q
    refine OwnR.of (fun _ hr => st20.trans hr) ?_
    show OwnR _ _ _ _ _ _ _ (T20.setTop (mkF m 61 #[.val (.long q1), .second, .val (.long q2), .second, .val (.long q3), .second, .val (.int p4), .val (.int p5), .val (.int (2 : Int32)), .val (.int pp), .val (.long (own_floor q1)), .second, .val (.long (own_floor q2)), .second, .val (.long (own_floor q3)), .second, .val (.ref b4), .unset, .unset, .unset, .unset, .unset, .unset, .unset, .unset, .unset, .unset, .unset, .unset] []))
    have Bp1 := P20_5
    refine OwnR.of (fun _ hr => XS.iload X20.here hx rfl (hb hby at_61) rfl hr) ?_
    show OwnR _ _ _ _ _ _ _ (T20.setTop (mkF m 63 #[.val (.long q1), .second, .val (.long q2), .second, .val (.long q3), .second, .val (.int p4), .val (.int p5), .val (.int (2 : Int32)), .val (.int pp), .val (.long (own_floor q1)), .second, .val (.long (own_floor q2)), .second, .val (.long (own_floor q3)), .second, .val (.ref b4), .unset, .unset, .unset, .unset, .unset, .unset, .unset, .unset, .unset, .unset, .unset, .unset] [(.int (2 : Int32))]))
    refine OwnR.of (fun _ hr => XS.iconst X20.here hx rfl (hb hby at_63) hr) ?_
    show OwnR _ _ _ _ _ _ _ (T20.setTop (mkF m 64 #[.val (.long q1), .second, .val (.long q2), .second, .val (.long q3), .second, .val (.int p4), .val (.int p5), .val (.int (2 : Int32)), .val (.int pp), .val (.long (own_floor q1)), .second, .val (.long (own_floor q2)), .second, .val (.long (own_floor q3)), .second, .val (.ref b4), .unset, .unset, .unset, .unset, .unset, .unset, .unset, .unset, .unset, .unset, .unset, .unset] [(.int (2 : Int32)), (.int (2 : Int32))]))
    refine OwnR.of (fun _ hr => XS.icmpNo X20.here hx rfl (hb hby at_64) rfl (flt (by decide : ¬ ((2 : Int32) < (2 : Int32)))).1 hr) ?_
    show OwnR _ _ _ _ _ _ _ (T20.setTop (mkF m 67 #[.val (.long q1), .second, .val (.long q2), .second, .val (.long q3), .second, .val (.int p4), .val (.int p5), .val (.int (2 : Int32)), .val (.int pp), .val (.long (own_floor q1)), .second, .val (.long (own_floor q2)), .second, .val (.long (own_floor q3)), .second, .val (.ref b4), .unset, .unset, .unset, .unset, .unset, .unset, .unset, .unset, .unset, .unset, .unset, .unset] []))
    refine OwnR.of (fun _ hr => XS.aload X20.here hx rfl (hb hby at_67) rfl rfl hr) ?_
    show OwnR _ _ _ _ _ _ _ (T20.setTop (mkF m 69 #[.val (.long q1), .second, .val (.long q2), .second, .val (.long q3), .second, .val (.int p4), .val (.int p5), .val (.int (2 : Int32)), .val (.int pp), .val (.long (own_floor q1)), .second, .val (.long (own_floor q2)), .second, .val (.long (own_floor q3)), .second, .val (.ref b4), .unset, .unset, .unset, .unset, .unset, .unset, .unset, .unset, .unset, .unset, .unset, .unset] [(.ref b4)]))
    refine OwnR.of (fun _ hr => XS.lloadN X20.here hx rfl (hb hby at_69) rfl hr) ?_
    show OwnR _ _ _ _ _ _ _ (T20.setTop (mkF m 70 #[.val (.long q1), .second, .val (.long q2), .second, .val (.long q3), .second, .val (.int p4), .val (.int p5), .val (.int (2 : Int32)), .val (.int pp), .val (.long (own_floor q1)), .second, .val (.long (own_floor q2)), .second, .val (.long (own_floor q3)), .second, .val (.ref b4), .unset, .unset, .unset, .unset, .unset, .unset, .unset, .unset, .unset, .unset, .unset, .unset] [(.long q2), (.ref b4)]))
    obtain ⟨_, _, ⟨T21, L21, kc21, ns21⟩, -, X21, ⟨Lc21, hQ21, l21, y21, z21⟩, st21⟩ := Jvm.LawKit.callS X20 hx (y := (⟨"com/example/kurir/kurir/bench/LatenciesPercentileMicrosPinLaw", "nanosOf", "(J)J"⟩ : MethodName)) hown (mvT hZ (hw _ (List.mem_of_getElem? (i := 29) rfl))) (mvT hZ (hw _ (List.mem_of_getElem? (i := 30) rfl))) (mvT hZ (hw _ (List.mem_of_getElem? (i := 3) rfl))) (mvT hZ (hw _ (List.mem_of_getElem? (i := 31) rfl))) (by decide) (backOf (W := 1) (rmNanos l Z a0 hw [] q2 (T20.heap) n0 (Nat.le_trans Z0 K20.1) ) hZ (hw _ (List.mem_of_getElem? (i := 31) rfl)) (hw _ (List.mem_of_getElem? (i := 3) rfl)) (by decide) (by decide)) (g := (mkF m 70 #[.val (.long q1), .second, .val (.long q2), .second, .val (.long q3), .second, .val (.int p4), .val (.int p5), .val (.int (2 : Int32)), .val (.int pp), .val (.long (own_floor q1)), .second, .val (.long (own_floor q2)), .second, .val (.long (own_floor q3)), .second, .val (.ref b4), .unset, .unset, .unset, .unset, .unset, .unset, .unset, .unset, .unset, .unset, .unset, .unset] [(.long q2), (.ref b4)])) rfl (by rw [hml]; rfl) (argsL := [(.long q2)]) (rest := [(.ref b4)]) (lenOf pd__J_J rfl) rfl (by show 2 * 0 + _ ≤ _; exact Nat.le_of_eq rfl) (hb hby at_70) (fun _ _ => ⟨rfl, rfl, (by decide : 3 + 0 ≤ _), (show 52 + sl1 + 0 ≤ 157376 from hr1)⟩)
    dsimp only [Pt.U, Pt.locs, Pt.cells, Pt.slots] at X21 l21 y21 z21 st21 hQ21
    rw [l21, y21, z21] at X21
    obtain ⟨rfl, N21q, e21⟩ := hQ21
    have N21 := Fr.app N20 N21q
    refine OwnR.of (st21) ?_
    show OwnR _ _ _ _ _ _ _ (T21.setTop (mkF m 73 #[.val (.long q1), .second, .val (.long q2), .second, .val (.long q3), .second, .val (.int p4), .val (.int p5), .val (.int (2 : Int32)), .val (.int pp), .val (.long (own_floor q1)), .second, .val (.long (own_floor q2)), .second, .val (.long (own_floor q3)), .second, .val (.ref b4), .unset, .unset, .unset, .unset, .unset, .unset, .unset, .unset, .unset, .unset, .unset, .unset] [(.long (own_nanos q2)), (.ref b4)]))
    obtain ⟨sl2, hsl2⟩ : ∃ z, z = own_cost (B2_20 m2) m2 := ⟨_, rfl⟩
    have hr2 := own_r2 (B0 := (fun _ => Value.null)) hsl1 Bp1 hsl2
    obtain ⟨cq22, kq22, q22a, q22b, q22c⟩ := isOf hZ e21 P20_0
    obtain ⟨_, _, ⟨T22, L22, kc22, ns22⟩, -, X22, ⟨Lc22, hQ22, l22, y22, z22⟩, st22⟩ := X21.virtualBack hx (y := (⟨"com/example/kurir/kurir/bench/Latencies", "add", "(J)V"⟩ : MethodName)) (z := (⟨"com/example/kurir/kurir/bench/Latencies", "add", "(J)V"⟩ : MethodName)) hown (mvT hZ (hw _ (List.mem_of_getElem? (i := 34) rfl))) (mvT hZ (hw _ (List.mem_of_getElem? (i := 35) rfl))) (notFace_of_selects (args := #[]) (mvT hZ (hw _ (List.mem_of_getElem? (i := 37) rfl)))) (mvT hZ (hw _ (List.mem_of_getElem? (i := 37) rfl))) (mvT hZ (hw _ (List.mem_of_getElem? (i := 36) rfl))) (by decide) (backOf (W := 0) (rmAdd l Z a0 hw [] b4 (own_nanos q2) A_5 kA_5 n0 B2_20 ([(m1, j1)]) ((0 : Int64) + (1 : Int64)) (own_max (0 : Int64) mc1) mc2 mI2 iI2 m2 j2 sl2 (T20.heap) n0 (Nat.le_trans Z0 K20.1) P20_0 P20_1 P20_2 P20_3 P20_6 P20_7 P20_4 P5_6 (Nat.le_refl n0) (Nat.le_trans Z0 K20.1) gn_b4 P5_10 (Nat.ne_of_lt (Nat.lt_of_lt_of_le A4.lt P5_9)) hmc2 hm2 hmn2 hm02 hm492 hi2 hjn2 hi02 hil2 hsl2) hZ (hw _ (List.mem_of_getElem? (i := 38) rfl)) (hw _ (List.mem_of_getElem? (i := 16) rfl)) (Nat.le_of_ble_eq_true rfl) (Nat.le_of_ble_eq_true rfl)) q22a q22c (g := (mkF m 73 #[.val (.long q1), .second, .val (.long q2), .second, .val (.long q3), .second, .val (.int p4), .val (.int p5), .val (.int (2 : Int32)), .val (.int pp), .val (.long (own_floor q1)), .second, .val (.long (own_floor q2)), .second, .val (.long (own_floor q3)), .second, .val (.ref b4), .unset, .unset, .unset, .unset, .unset, .unset, .unset, .unset, .unset, .unset, .unset, .unset] [(.long (own_nanos q2)), (.ref b4)])) rfl (by rw [hml]; rfl) (Steps.refl _) (argsL := [(.long (own_nanos q2))]) (rest := []) (lenOf pd__J_V rfl) rfl (by show 2 * 0 + _ ≤ _; exact Nat.le_of_eq rfl) (hb hby at_73) (fun _ _ => ⟨rfl, e21, (by decide : 3 + 1 ≤ _), (show 52 + sl1 + sl2 ≤ 157376 from hr2)⟩)
    dsimp only [Pt.U, Pt.locs, Pt.cells, Pt.slots] at X22 l22 y22 z22 st22 hQ22
    rw [l22, y22, z22] at X22
    obtain ⟨B2_22, rfl, N22q, P22_0, P22_1, P22_2, P22_3, P22_4, P22_5, P22_6, P22_7, P22_8⟩ := hQ22
    have K22 : h0.size ≤ T22.heap.size ∧ True := ⟨Nat.le_trans K20.1 P22_8, trivial⟩
    have N22 := Fr.app N21 N22q
    refine OwnR.of (fun _ hr => st22.trans hr) ?_
    show OwnR _ _ _ _ _ _ _ (T22.setTop (mkF m 76 #[.val (.long q1), .second, .val (.long q2), .second, .val (.long q3), .second, .val (.int p4), .val (.int p5), .val (.int (2 : Int32)), .val (.int pp), .val (.long (own_floor q1)), .second, .val (.long (own_floor q2)), .second, .val (.long (own_floor q3)), .second, .val (.ref b4), .unset, .unset, .unset, .unset, .unset, .unset, .unset, .unset, .unset, .unset, .unset, .unset] []))
    have Bp2 := P22_5
    refine OwnR.of (fun _ hr => XS.iload X22.here hx rfl (hb hby at_76) rfl hr) ?_
    show OwnR _ _ _ _ _ _ _ (T22.setTop (mkF m 78 #[.val (.long q1), .second, .val (.long q2), .second, .val (.long q3), .second, .val (.int p4), .val (.int p5), .val (.int (2 : Int32)), .val (.int pp), .val (.long (own_floor q1)), .second, .val (.long (own_floor q2)), .second, .val (.long (own_floor q3)), .second, .val (.ref b4), .unset, .unset, .unset, .unset, .unset, .unset, .unset, .unset, .unset, .unset, .unset, .unset] [(.int (2 : Int32))]))
    refine OwnR.of (fun _ hr => XS.iconst X22.here hx rfl (hb hby at_78) hr) ?_
    show OwnR _ _ _ _ _ _ _ (T22.setTop (mkF m 79 #[.val (.long q1), .second, .val (.long q2), .second, .val (.long q3), .second, .val (.int p4), .val (.int p5), .val (.int (2 : Int32)), .val (.int pp), .val (.long (own_floor q1)), .second, .val (.long (own_floor q2)), .second, .val (.long (own_floor q3)), .second, .val (.ref b4), .unset, .unset, .unset, .unset, .unset, .unset, .unset, .unset, .unset, .unset, .unset, .unset] [(.int (3 : Int32)), (.int (2 : Int32))]))
    refine OwnR.of (fun _ hr => XS.icmpYes X22.here hx rfl (pc0 := 79) (pc' := 92) rfl (hb hby at_79) rfl (tlt (by decide : (2 : Int32) < (3 : Int32))).1 (by decide) (by decide) hr) ?_
    show OwnR _ _ _ _ _ _ _ (T22.setTop (mkF m 92 #[.val (.long q1), .second, .val (.long q2), .second, .val (.long q3), .second, .val (.int p4), .val (.int p5), .val (.int (2 : Int32)), .val (.int pp), .val (.long (own_floor q1)), .second, .val (.long (own_floor q2)), .second, .val (.long (own_floor q3)), .second, .val (.ref b4), .unset, .unset, .unset, .unset, .unset, .unset, .unset, .unset, .unset, .unset, .unset, .unset] []))
    refine OwnR.of (fun _ hr => XS.aload X22.here hx rfl (hb hby at_92) rfl rfl hr) ?_
    show OwnR _ _ _ _ _ _ _ (T22.setTop (mkF m 94 #[.val (.long q1), .second, .val (.long q2), .second, .val (.long q3), .second, .val (.int p4), .val (.int p5), .val (.int (2 : Int32)), .val (.int pp), .val (.long (own_floor q1)), .second, .val (.long (own_floor q2)), .second, .val (.long (own_floor q3)), .second, .val (.ref b4), .unset, .unset, .unset, .unset, .unset, .unset, .unset, .unset, .unset, .unset, .unset, .unset] [(.ref b4)]))
    refine OwnR.of (fun _ hr => XS.iload X22.here hx rfl (hb hby at_94) rfl hr) ?_
    show OwnR _ _ _ _ _ _ _ (T22.setTop (mkF m 96 #[.val (.long q1), .second, .val (.long q2), .second, .val (.long q3), .second, .val (.int p4), .val (.int p5), .val (.int (2 : Int32)), .val (.int pp), .val (.long (own_floor q1)), .second, .val (.long (own_floor q2)), .second, .val (.long (own_floor q3)), .second, .val (.ref b4), .unset, .unset, .unset, .unset, .unset, .unset, .unset, .unset, .unset, .unset, .unset, .unset] [(.int pp), (.ref b4)]))
    obtain ⟨cq23, kq23, q23a, q23b, q23c⟩ := isOf hZ rfl P22_0
    obtain ⟨_, _, ⟨T23, L23, kc23, ns23⟩, -, X23, ⟨Lc23, hQ23, l23, y23, z23⟩, st23⟩ := X22.virtualBack hx (y := (⟨"com/example/kurir/kurir/bench/Latencies", "percentileMicros", "(I)J"⟩ : MethodName)) (z := (⟨"com/example/kurir/kurir/bench/Latencies", "percentileMicros", "(I)J"⟩ : MethodName)) hown (mvT hZ (hw _ (List.mem_of_getElem? (i := 70) rfl))) (mvT hZ (hw _ (List.mem_of_getElem? (i := 71) rfl))) (notFace_of_selects (args := #[]) (mvT hZ (hw _ (List.mem_of_getElem? (i := 73) rfl)))) (mvT hZ (hw _ (List.mem_of_getElem? (i := 73) rfl))) (mvT hZ (hw _ (List.mem_of_getElem? (i := 72) rfl))) (by decide) (backOf (W := 0) (rmPct l Z a0 hw [] b4 pp A_5 kA_5 n0 B2_22 ([(m2, j2), (m1, j1)]) (((0 : Int64) + (1 : Int64)) + (1 : Int64)) (own_max (own_max (0 : Int64) mc1) mc2) ((((((0 : Int64) + (1 : Int64)) + (1 : Int64)) * pp.toInt64) + (99 : Int64)) / (100 : Int64)) (own_e2 pp (own_floor q1) (own_floor q2)) (T22.heap) n0 (Nat.le_trans Z0 K22.1) P22_0 P22_1 P22_2 P22_3 P22_6 P22_7 P22_4 rfl (own_I2 ky1 ky2 bpp)) hZ (hw _ (List.mem_of_getElem? (i := 74) rfl)) (hw _ (List.mem_of_getElem? (i := 16) rfl)) (by decide) (by decide)) q23a q23c (g := (mkF m 96 #[.val (.long q1), .second, .val (.long q2), .second, .val (.long q3), .second, .val (.int p4), .val (.int p5), .val (.int (2 : Int32)), .val (.int pp), .val (.long (own_floor q1)), .second, .val (.long (own_floor q2)), .second, .val (.long (own_floor q3)), .second, .val (.ref b4), .unset, .unset, .unset, .unset, .unset, .unset, .unset, .unset, .unset, .unset, .unset, .unset] [(.int pp), (.ref b4)])) rfl (by rw [hml]; rfl) (Steps.refl _) (argsL := [(.int pp)]) (rest := []) (lenOf pd__I_J rfl) rfl (by show 2 * 0 + _ ≤ _; exact Nat.le_of_eq rfl) (hb hby at_96) (fun _ _ => ⟨rfl, rfl, (by decide : 4 + 0 ≤ _), (show 52 + sl1 + sl2 + 0 ≤ 157376 from hr2)⟩)
    dsimp only [Pt.U, Pt.locs, Pt.cells, Pt.slots] at X23 l23 y23 z23 st23 hQ23
    rw [l23, y23, z23] at X23
    obtain ⟨rfl, N23q, e23⟩ := hQ23
    have N23 := Fr.app N22 N23q
    refine OwnR.of (fun _ hr => st23.trans hr) ?_
    show OwnR _ _ _ _ _ _ _ (T23.setTop (mkF m 99 #[.val (.long q1), .second, .val (.long q2), .second, .val (.long q3), .second, .val (.int p4), .val (.int p5), .val (.int (2 : Int32)), .val (.int pp), .val (.long (own_floor q1)), .second, .val (.long (own_floor q2)), .second, .val (.long (own_floor q3)), .second, .val (.ref b4), .unset, .unset, .unset, .unset, .unset, .unset, .unset, .unset, .unset, .unset, .unset, .unset] [(.long (own_e2 pp (own_floor q1) (own_floor q2)))]))
    refine OwnR.of (fun _ hr => XS.lstore X23.here hx rfl (hb hby at_99) rfl (l' := #[.val (.long q1), .second, .val (.long q2), .second, .val (.long q3), .second, .val (.int p4), .val (.int p5), .val (.int (2 : Int32)), .val (.int pp), .val (.long (own_floor q1)), .second, .val (.long (own_floor q2)), .second, .val (.long (own_floor q3)), .second, .val (.ref b4), .val (.long (own_e2 pp (own_floor q1) (own_floor q2))), .second, .unset, .unset, .unset, .unset, .unset, .unset, .unset, .unset, .unset, .unset]) rfl hr) ?_
    show OwnR _ _ _ _ _ _ _ (T23.setTop (mkF m 101 #[.val (.long q1), .second, .val (.long q2), .second, .val (.long q3), .second, .val (.int p4), .val (.int p5), .val (.int (2 : Int32)), .val (.int pp), .val (.long (own_floor q1)), .second, .val (.long (own_floor q2)), .second, .val (.long (own_floor q3)), .second, .val (.ref b4), .val (.long (own_e2 pp (own_floor q1) (own_floor q2))), .second, .unset, .unset, .unset, .unset, .unset, .unset, .unset, .unset, .unset, .unset] []))
    refine OwnR.of (fun _ hr => XS.iload X23.here hx rfl (hb hby at_101) rfl hr) ?_
    show OwnR _ _ _ _ _ _ _ (T23.setTop (mkF m 103 #[.val (.long q1), .second, .val (.long q2), .second, .val (.long q3), .second, .val (.int p4), .val (.int p5), .val (.int (2 : Int32)), .val (.int pp), .val (.long (own_floor q1)), .second, .val (.long (own_floor q2)), .second, .val (.long (own_floor q3)), .second, .val (.ref b4), .val (.long (own_e2 pp (own_floor q1) (own_floor q2))), .second, .unset, .unset, .unset, .unset, .unset, .unset, .unset, .unset, .unset, .unset] [(.int (2 : Int32))]))
    refine OwnR.of (fun _ hr => XS.ifYes X23.here hx rfl (pc0 := 103) (pc' := 112) rfl (hb hby at_103) rfl ((if0 _ _).trans (feq (by decide : ¬ ((2 : Int32) = (0 : Int32)))).2) (by decide) (by decide) hr) ?_
    show OwnR _ _ _ _ _ _ _ (T23.setTop (mkF m 112 #[.val (.long q1), .second, .val (.long q2), .second, .val (.long q3), .second, .val (.int p4), .val (.int p5), .val (.int (2 : Int32)), .val (.int pp), .val (.long (own_floor q1)), .second, .val (.long (own_floor q2)), .second, .val (.long (own_floor q3)), .second, .val (.ref b4), .val (.long (own_e2 pp (own_floor q1) (own_floor q2))), .second, .unset, .unset, .unset, .unset, .unset, .unset, .unset, .unset, .unset, .unset] []))
    refine OwnR.of (fun _ hr => XS.iload X23.here hx rfl (hb hby at_112) rfl hr) ?_
    show OwnR _ _ _ _ _ _ _ (T23.setTop (mkF m 114 #[.val (.long q1), .second, .val (.long q2), .second, .val (.long q3), .second, .val (.int p4), .val (.int p5), .val (.int (2 : Int32)), .val (.int pp), .val (.long (own_floor q1)), .second, .val (.long (own_floor q2)), .second, .val (.long (own_floor q3)), .second, .val (.ref b4), .val (.long (own_e2 pp (own_floor q1) (own_floor q2))), .second, .unset, .unset, .unset, .unset, .unset, .unset, .unset, .unset, .unset, .unset] [(.int (2 : Int32))]))
    refine OwnR.of (fun _ hr => XS.iload X23.here hx rfl (hb hby at_114) rfl hr) ?_
    show OwnR _ _ _ _ _ _ _ (T23.setTop (mkF m 116 #[.val (.long q1), .second, .val (.long q2), .second, .val (.long q3), .second, .val (.int p4), .val (.int p5), .val (.int (2 : Int32)), .val (.int pp), .val (.long (own_floor q1)), .second, .val (.long (own_floor q2)), .second, .val (.long (own_floor q3)), .second, .val (.ref b4), .val (.long (own_e2 pp (own_floor q1) (own_floor q2))), .second, .unset, .unset, .unset, .unset, .unset, .unset, .unset, .unset, .unset, .unset] [(.int pp), (.int (2 : Int32))]))
    refine OwnR.of (fun _ hr => XS.imul X23.here hx rfl (hb hby at_116) rfl hr) ?_
    show OwnR _ _ _ _ _ _ _ (T23.setTop (mkF m 117 #[.val (.long q1), .second, .val (.long q2), .second, .val (.long q3), .second, .val (.int p4), .val (.int p5), .val (.int (2 : Int32)), .val (.int pp), .val (.long (own_floor q1)), .second, .val (.long (own_floor q2)), .second, .val (.long (own_floor q3)), .second, .val (.ref b4), .val (.long (own_e2 pp (own_floor q1) (own_floor q2))), .second, .unset, .unset, .unset, .unset, .unset, .unset, .unset, .unset, .unset, .unset] [(.int ((2 : Int32) * pp))]))
    refine OwnR.of (fun _ hr => XS.istore X23.here hx rfl (hb hby at_117) rfl (l' := #[.val (.long q1), .second, .val (.long q2), .second, .val (.long q3), .second, .val (.int p4), .val (.int p5), .val (.int (2 : Int32)), .val (.int pp), .val (.long (own_floor q1)), .second, .val (.long (own_floor q2)), .second, .val (.long (own_floor q3)), .second, .val (.ref b4), .val (.long (own_e2 pp (own_floor q1) (own_floor q2))), .second, .unset, .unset, .val (.int ((2 : Int32) * pp)), .unset, .unset, .unset, .unset, .unset, .unset, .unset]) rfl hr) ?_
    show OwnR _ _ _ _ _ _ _ (T23.setTop (mkF m 119 #[.val (.long q1), .second, .val (.long q2), .second, .val (.long q3), .second, .val (.int p4), .val (.int p5), .val (.int (2 : Int32)), .val (.int pp), .val (.long (own_floor q1)), .second, .val (.long (own_floor q2)), .second, .val (.long (own_floor q3)), .second, .val (.ref b4), .val (.long (own_e2 pp (own_floor q1) (own_floor q2))), .second, .unset, .unset, .val (.int ((2 : Int32) * pp)), .unset, .unset, .unset, .unset, .unset, .unset, .unset] []))
    refine OwnR.of (fun _ hr => XS.iload X23.here hx rfl (hb hby at_119) rfl hr) ?_
    show OwnR _ _ _ _ _ _ _ (T23.setTop (mkF m 121 #[.val (.long q1), .second, .val (.long q2), .second, .val (.long q3), .second, .val (.int p4), .val (.int p5), .val (.int (2 : Int32)), .val (.int pp), .val (.long (own_floor q1)), .second, .val (.long (own_floor q2)), .second, .val (.long (own_floor q3)), .second, .val (.ref b4), .val (.long (own_e2 pp (own_floor q1) (own_floor q2))), .second, .unset, .unset, .val (.int ((2 : Int32) * pp)), .unset, .unset, .unset, .unset, .unset, .unset, .unset] [(.int ((2 : Int32) * pp))]))
    refine OwnR.of (fun _ hr => XS.bipush X23.here hx rfl (hb hby at_121) hr) ?_
    show OwnR _ _ _ _ _ _ _ (T23.setTop (mkF m 123 #[.val (.long q1), .second, .val (.long q2), .second, .val (.long q3), .second, .val (.int p4), .val (.int p5), .val (.int (2 : Int32)), .val (.int pp), .val (.long (own_floor q1)), .second, .val (.long (own_floor q2)), .second, .val (.long (own_floor q3)), .second, .val (.ref b4), .val (.long (own_e2 pp (own_floor q1) (own_floor q2))), .second, .unset, .unset, .val (.int ((2 : Int32) * pp)), .unset, .unset, .unset, .unset, .unset, .unset, .unset] [(.int (100 : Int32)), (.int ((2 : Int32) * pp))]))
    by_cases hc123_24 : (100 : Int32) < ((2 : Int32) * pp)
    · skip
      refine OwnR.of (fun _ hr => XS.icmpYes X23.here hx rfl (pc0 := 123) (pc' := 130) rfl (hb hby at_123) rfl (tlt hc123_24).2.2.1 (by decide) (by decide) hr) ?_
      show OwnR _ _ _ _ _ _ _ (T23.setTop (mkF m 130 #[.val (.long q1), .second, .val (.long q2), .second, .val (.long q3), .second, .val (.int p4), .val (.int p5), .val (.int (2 : Int32)), .val (.int pp), .val (.long (own_floor q1)), .second, .val (.long (own_floor q2)), .second, .val (.long (own_floor q3)), .second, .val (.ref b4), .val (.long (own_e2 pp (own_floor q1) (own_floor q2))), .second, .unset, .unset, .val (.int ((2 : Int32) * pp)), .unset, .unset, .unset, .unset, .unset, .unset, .unset] []))
      refine OwnR.of (fun _ hr => XS.iload X23.here hx rfl (hb hby at_130) rfl hr) ?_
      show OwnR _ _ _ _ _ _ _ (T23.setTop (mkF m 132 #[.val (.long q1), .second, .val (.long q2), .second, .val (.long q3), .second, .val (.int p4), .val (.int p5), .val (.int (2 : Int32)), .val (.int pp), .val (.long (own_floor q1)), .second, .val (.long (own_floor q2)), .second, .val (.long (own_floor q3)), .second, .val (.ref b4), .val (.long (own_e2 pp (own_floor q1) (own_floor q2))), .second, .unset, .unset, .val (.int ((2 : Int32) * pp)), .unset, .unset, .unset, .unset, .unset, .unset, .unset] [(.int ((2 : Int32) * pp))]))
      refine OwnR.of (fun _ hr => XS.sipush X23.here hx rfl (hb hby at_132) hr) ?_
      show OwnR _ _ _ _ _ _ _ (T23.setTop (mkF m 135 #[.val (.long q1), .second, .val (.long q2), .second, .val (.long q3), .second, .val (.int p4), .val (.int p5), .val (.int (2 : Int32)), .val (.int pp), .val (.long (own_floor q1)), .second, .val (.long (own_floor q2)), .second, .val (.long (own_floor q3)), .second, .val (.ref b4), .val (.long (own_e2 pp (own_floor q1) (own_floor q2))), .second, .unset, .unset, .val (.int ((2 : Int32) * pp)), .unset, .unset, .unset, .unset, .unset, .unset, .unset] [(.int (200 : Int32)), (.int ((2 : Int32) * pp))]))
      by_cases hc135_25 : (200 : Int32) < ((2 : Int32) * pp)
      · skip
        refine OwnR.of (fun _ hr => XS.icmpYes X23.here hx rfl (pc0 := 135) (pc' := 142) rfl (hb hby at_135) rfl (tlt hc135_25).2.2.1 (by decide) (by decide) hr) ?_
        show OwnR _ _ _ _ _ _ _ (T23.setTop (mkF m 142 #[.val (.long q1), .second, .val (.long q2), .second, .val (.long q3), .second, .val (.int p4), .val (.int p5), .val (.int (2 : Int32)), .val (.int pp), .val (.long (own_floor q1)), .second, .val (.long (own_floor q2)), .second, .val (.long (own_floor q3)), .second, .val (.ref b4), .val (.long (own_e2 pp (own_floor q1) (own_floor q2))), .second, .unset, .unset, .val (.int ((2 : Int32) * pp)), .unset, .unset, .unset, .unset, .unset, .unset, .unset] []))
        refine OwnR.of (fun _ hr => XS.iconst X23.here hx rfl (hb hby at_142) hr) ?_
        show OwnR _ _ _ _ _ _ _ (T23.setTop (mkF m 143 #[.val (.long q1), .second, .val (.long q2), .second, .val (.long q3), .second, .val (.int p4), .val (.int p5), .val (.int (2 : Int32)), .val (.int pp), .val (.long (own_floor q1)), .second, .val (.long (own_floor q2)), .second, .val (.long (own_floor q3)), .second, .val (.ref b4), .val (.long (own_e2 pp (own_floor q1) (own_floor q2))), .second, .unset, .unset, .val (.int ((2 : Int32) * pp)), .unset, .unset, .unset, .unset, .unset, .unset, .unset] [(.int (3 : Int32))]))
        refine OwnR.of (fun _ hr => XS.istore X23.here hx rfl (hb hby at_143) rfl (l' := #[.val (.long q1), .second, .val (.long q2), .second, .val (.long q3), .second, .val (.int p4), .val (.int p5), .val (.int (2 : Int32)), .val (.int pp), .val (.long (own_floor q1)), .second, .val (.long (own_floor q2)), .second, .val (.long (own_floor q3)), .second, .val (.ref b4), .val (.long (own_e2 pp (own_floor q1) (own_floor q2))), .second, .unset, .unset, .val (.int ((2 : Int32) * pp)), .val (.int (3 : Int32)), .unset, .unset, .unset, .unset, .unset, .unset]) rfl hr) ?_
        show OwnR _ _ _ _ _ _ _ (T23.setTop (mkF m 145 #[.val (.long q1), .second, .val (.long q2), .second, .val (.long q3), .second, .val (.int p4), .val (.int p5), .val (.int (2 : Int32)), .val (.int pp), .val (.long (own_floor q1)), .second, .val (.long (own_floor q2)), .second, .val (.long (own_floor q3)), .second, .val (.ref b4), .val (.long (own_e2 pp (own_floor q1) (own_floor q2))), .second, .unset, .unset, .val (.int ((2 : Int32) * pp)), .val (.int (3 : Int32)), .unset, .unset, .unset, .unset, .unset, .unset] []))
        refine OwnR.of (fun _ hr => XS.iload X23.here hx rfl (hb hby at_145) rfl hr) ?_
        show OwnR _ _ _ _ _ _ _ (T23.setTop (mkF m 147 #[.val (.long q1), .second, .val (.long q2), .second, .val (.long q3), .second, .val (.int p4), .val (.int p5), .val (.int (2 : Int32)), .val (.int pp), .val (.long (own_floor q1)), .second, .val (.long (own_floor q2)), .second, .val (.long (own_floor q3)), .second, .val (.ref b4), .val (.long (own_e2 pp (own_floor q1) (own_floor q2))), .second, .unset, .unset, .val (.int ((2 : Int32) * pp)), .val (.int (3 : Int32)), .unset, .unset, .unset, .unset, .unset, .unset] [(.int (2 : Int32))]))
        refine OwnR.of (fun _ hr => XS.iconst X23.here hx rfl (hb hby at_147) hr) ?_
        show OwnR _ _ _ _ _ _ _ (T23.setTop (mkF m 148 #[.val (.long q1), .second, .val (.long q2), .second, .val (.long q3), .second, .val (.int p4), .val (.int p5), .val (.int (2 : Int32)), .val (.int pp), .val (.long (own_floor q1)), .second, .val (.long (own_floor q2)), .second, .val (.long (own_floor q3)), .second, .val (.ref b4), .val (.long (own_e2 pp (own_floor q1) (own_floor q2))), .second, .unset, .unset, .val (.int ((2 : Int32) * pp)), .val (.int (3 : Int32)), .unset, .unset, .unset, .unset, .unset, .unset] [(.int (1 : Int32)), (.int (2 : Int32))]))
        refine OwnR.of (fun _ hr => XS.icmpYes X23.here hx rfl (pc0 := 148) (pc' := 158) rfl (hb hby at_148) rfl (feq (by decide : ¬ ((2 : Int32) = (1 : Int32)))).2 (by decide) (by decide) hr) ?_
        show OwnR _ _ _ _ _ _ _ (T23.setTop (mkF m 158 #[.val (.long q1), .second, .val (.long q2), .second, .val (.long q3), .second, .val (.int p4), .val (.int p5), .val (.int (2 : Int32)), .val (.int pp), .val (.long (own_floor q1)), .second, .val (.long (own_floor q2)), .second, .val (.long (own_floor q3)), .second, .val (.ref b4), .val (.long (own_e2 pp (own_floor q1) (own_floor q2))), .second, .unset, .unset, .val (.int ((2 : Int32) * pp)), .val (.int (3 : Int32)), .unset, .unset, .unset, .unset, .unset, .unset] []))
        refine OwnR.of (fun _ hr => XS.iload X23.here hx rfl (hb hby at_158) rfl hr) ?_
        show OwnR _ _ _ _ _ _ _ (T23.setTop (mkF m 160 #[.val (.long q1), .second, .val (.long q2), .second, .val (.long q3), .second, .val (.int p4), .val (.int p5), .val (.int (2 : Int32)), .val (.int pp), .val (.long (own_floor q1)), .second, .val (.long (own_floor q2)), .second, .val (.long (own_floor q3)), .second, .val (.ref b4), .val (.long (own_e2 pp (own_floor q1) (own_floor q2))), .second, .unset, .unset, .val (.int ((2 : Int32) * pp)), .val (.int (3 : Int32)), .unset, .unset, .unset, .unset, .unset, .unset] [(.int (2 : Int32))]))
        refine OwnR.of (fun _ hr => XS.iconst X23.here hx rfl (hb hby at_160) hr) ?_
        show OwnR _ _ _ _ _ _ _ (T23.setTop (mkF m 161 #[.val (.long q1), .second, .val (.long q2), .second, .val (.long q3), .second, .val (.int p4), .val (.int p5), .val (.int (2 : Int32)), .val (.int pp), .val (.long (own_floor q1)), .second, .val (.long (own_floor q2)), .second, .val (.long (own_floor q3)), .second, .val (.ref b4), .val (.long (own_e2 pp (own_floor q1) (own_floor q2))), .second, .unset, .unset, .val (.int ((2 : Int32) * pp)), .val (.int (3 : Int32)), .unset, .unset, .unset, .unset, .unset, .unset] [(.int (2 : Int32)), (.int (2 : Int32))]))
        refine OwnR.of (fun _ hr => XS.icmpNo X23.here hx rfl (hb hby at_161) rfl (teq (by decide : (2 : Int32) = (2 : Int32))).2 hr) ?_
        show OwnR _ _ _ _ _ _ _ (T23.setTop (mkF m 164 #[.val (.long q1), .second, .val (.long q2), .second, .val (.long q3), .second, .val (.int p4), .val (.int p5), .val (.int (2 : Int32)), .val (.int pp), .val (.long (own_floor q1)), .second, .val (.long (own_floor q2)), .second, .val (.long (own_floor q3)), .second, .val (.ref b4), .val (.long (own_e2 pp (own_floor q1) (own_floor q2))), .second, .unset, .unset, .val (.int ((2 : Int32) * pp)), .val (.int (3 : Int32)), .unset, .unset, .unset, .unset, .unset, .unset] []))
        refine OwnR.of (fun _ hr => XS.iload X23.here hx rfl (hb hby at_164) rfl hr) ?_
        show OwnR _ _ _ _ _ _ _ (T23.setTop (mkF m 166 #[.val (.long q1), .second, .val (.long q2), .second, .val (.long q3), .second, .val (.int p4), .val (.int p5), .val (.int (2 : Int32)), .val (.int pp), .val (.long (own_floor q1)), .second, .val (.long (own_floor q2)), .second, .val (.long (own_floor q3)), .second, .val (.ref b4), .val (.long (own_e2 pp (own_floor q1) (own_floor q2))), .second, .unset, .unset, .val (.int ((2 : Int32) * pp)), .val (.int (3 : Int32)), .unset, .unset, .unset, .unset, .unset, .unset] [(.int (3 : Int32))]))
        refine OwnR.of (fun _ hr => XS.iconst X23.here hx rfl (hb hby at_166) hr) ?_
        show OwnR _ _ _ _ _ _ _ (T23.setTop (mkF m 167 #[.val (.long q1), .second, .val (.long q2), .second, .val (.long q3), .second, .val (.int p4), .val (.int p5), .val (.int (2 : Int32)), .val (.int pp), .val (.long (own_floor q1)), .second, .val (.long (own_floor q2)), .second, .val (.long (own_floor q3)), .second, .val (.ref b4), .val (.long (own_e2 pp (own_floor q1) (own_floor q2))), .second, .unset, .unset, .val (.int ((2 : Int32) * pp)), .val (.int (3 : Int32)), .unset, .unset, .unset, .unset, .unset, .unset] [(.int (1 : Int32)), (.int (3 : Int32))]))
        refine OwnR.of (fun _ hr => XS.icmpYes X23.here hx rfl (pc0 := 167) (pc' := 180) rfl (hb hby at_167) rfl (feq (by decide : ¬ ((3 : Int32) = (1 : Int32)))).2 (by decide) (by decide) hr) ?_
        show OwnR _ _ _ _ _ _ _ (T23.setTop (mkF m 180 #[.val (.long q1), .second, .val (.long q2), .second, .val (.long q3), .second, .val (.int p4), .val (.int p5), .val (.int (2 : Int32)), .val (.int pp), .val (.long (own_floor q1)), .second, .val (.long (own_floor q2)), .second, .val (.long (own_floor q3)), .second, .val (.ref b4), .val (.long (own_e2 pp (own_floor q1) (own_floor q2))), .second, .unset, .unset, .val (.int ((2 : Int32) * pp)), .val (.int (3 : Int32)), .unset, .unset, .unset, .unset, .unset, .unset] []))
        refine OwnR.of (fun _ hr => XS.lload X23.here hx rfl (hb hby at_180) rfl hr) ?_
        show OwnR _ _ _ _ _ _ _ (T23.setTop (mkF m 182 #[.val (.long q1), .second, .val (.long q2), .second, .val (.long q3), .second, .val (.int p4), .val (.int p5), .val (.int (2 : Int32)), .val (.int pp), .val (.long (own_floor q1)), .second, .val (.long (own_floor q2)), .second, .val (.long (own_floor q3)), .second, .val (.ref b4), .val (.long (own_e2 pp (own_floor q1) (own_floor q2))), .second, .unset, .unset, .val (.int ((2 : Int32) * pp)), .val (.int (3 : Int32)), .unset, .unset, .unset, .unset, .unset, .unset] [(.long (own_floor q1))]))
        refine OwnR.of (fun _ hr => XS.lload X23.here hx rfl (hb hby at_182) rfl hr) ?_
        show OwnR _ _ _ _ _ _ _ (T23.setTop (mkF m 184 #[.val (.long q1), .second, .val (.long q2), .second, .val (.long q3), .second, .val (.int p4), .val (.int p5), .val (.int (2 : Int32)), .val (.int pp), .val (.long (own_floor q1)), .second, .val (.long (own_floor q2)), .second, .val (.long (own_floor q3)), .second, .val (.ref b4), .val (.long (own_e2 pp (own_floor q1) (own_floor q2))), .second, .unset, .unset, .val (.int ((2 : Int32) * pp)), .val (.int (3 : Int32)), .unset, .unset, .unset, .unset, .unset, .unset] [(.long (own_floor q2)), (.long (own_floor q1))]))
        obtain ⟨_, _, ⟨T26, L26, kc26, ns26⟩, -, X26, ⟨Lc26, hQ26, l26, y26, z26⟩, st26⟩ := Jvm.LawKit.callS X23 hx (y := (⟨"java/lang/Math", "max", "(JJ)J"⟩ : MethodName)) hown (mvT hZ (hw _ (List.mem_of_getElem? (i := 80) rfl))) (mvT hZ (hw _ (List.mem_of_getElem? (i := 40) rfl))) (mvT hZ (hw _ (List.mem_of_getElem? (i := 41) rfl))) (mvT hZ (hw _ (List.mem_of_getElem? (i := 42) rfl))) (by decide) (backOf (W := 0) (rmMaxJ l Z a0 hw [] (own_floor q1) (own_floor q2) (T22.heap) n0 (Nat.le_trans Z0 K22.1) ) hZ (hw _ (List.mem_of_getElem? (i := 42) rfl)) (hw _ (List.mem_of_getElem? (i := 41) rfl)) (by decide) (by decide)) (g := (mkF m 184 #[.val (.long q1), .second, .val (.long q2), .second, .val (.long q3), .second, .val (.int p4), .val (.int p5), .val (.int (2 : Int32)), .val (.int pp), .val (.long (own_floor q1)), .second, .val (.long (own_floor q2)), .second, .val (.long (own_floor q3)), .second, .val (.ref b4), .val (.long (own_e2 pp (own_floor q1) (own_floor q2))), .second, .unset, .unset, .val (.int ((2 : Int32) * pp)), .val (.int (3 : Int32)), .unset, .unset, .unset, .unset, .unset, .unset] [(.long (own_floor q2)), (.long (own_floor q1))])) rfl (by rw [hml]; rfl) (argsL := [(.long (own_floor q1)), (.long (own_floor q2))]) (rest := []) (lenOf pd__JJ_J rfl) rfl (by show 2 * 0 + _ ≤ _; exact Nat.le_of_eq rfl) (hb hby at_184) (fun _ _ => ⟨rfl, e23, (by decide : 4 + 0 ≤ _), (show 52 + sl1 + sl2 + 0 ≤ 157376 from hr2)⟩)
        dsimp only [Pt.U, Pt.locs, Pt.cells, Pt.slots] at X26 l26 y26 z26 st26 hQ26
        rw [l26, y26, z26] at X26
        obtain ⟨rfl, N26q, e26⟩ := hQ26
        have N26 := Fr.app N23 N26q
        refine OwnR.of (st26) ?_
        show OwnR _ _ _ _ _ _ _ (T26.setTop (mkF m 187 #[.val (.long q1), .second, .val (.long q2), .second, .val (.long q3), .second, .val (.int p4), .val (.int p5), .val (.int (2 : Int32)), .val (.int pp), .val (.long (own_floor q1)), .second, .val (.long (own_floor q2)), .second, .val (.long (own_floor q3)), .second, .val (.ref b4), .val (.long (own_e2 pp (own_floor q1) (own_floor q2))), .second, .unset, .unset, .val (.int ((2 : Int32) * pp)), .val (.int (3 : Int32)), .unset, .unset, .unset, .unset, .unset, .unset] [(.long (own_max (own_floor q1) (own_floor q2)))]))
        refine OwnR.of (fun _ hr => XS.lstore X26.here hx rfl (hb hby at_187) rfl (l' := #[.val (.long q1), .second, .val (.long q2), .second, .val (.long q3), .second, .val (.int p4), .val (.int p5), .val (.int (2 : Int32)), .val (.int pp), .val (.long (own_floor q1)), .second, .val (.long (own_floor q2)), .second, .val (.long (own_floor q3)), .second, .val (.ref b4), .val (.long (own_e2 pp (own_floor q1) (own_floor q2))), .second, .val (.long (own_max (own_floor q1) (own_floor q2))), .second, .val (.int ((2 : Int32) * pp)), .val (.int (3 : Int32)), .unset, .unset, .unset, .unset, .unset, .unset]) rfl hr) ?_
        show OwnR _ _ _ _ _ _ _ (T26.setTop (mkF m 189 #[.val (.long q1), .second, .val (.long q2), .second, .val (.long q3), .second, .val (.int p4), .val (.int p5), .val (.int (2 : Int32)), .val (.int pp), .val (.long (own_floor q1)), .second, .val (.long (own_floor q2)), .second, .val (.long (own_floor q3)), .second, .val (.ref b4), .val (.long (own_e2 pp (own_floor q1) (own_floor q2))), .second, .val (.long (own_max (own_floor q1) (own_floor q2))), .second, .val (.int ((2 : Int32) * pp)), .val (.int (3 : Int32)), .unset, .unset, .unset, .unset, .unset, .unset] []))
        refine OwnR.of (fun _ hr => XS.goto X26.here hx rfl (pc0 := 189) (pc' := 270) rfl (hb hby at_189) (by decide) (by decide) hr) ?_
        show OwnR _ _ _ _ _ _ _ (T26.setTop (mkF m 270 #[.val (.long q1), .second, .val (.long q2), .second, .val (.long q3), .second, .val (.int p4), .val (.int p5), .val (.int (2 : Int32)), .val (.int pp), .val (.long (own_floor q1)), .second, .val (.long (own_floor q2)), .second, .val (.long (own_floor q3)), .second, .val (.ref b4), .val (.long (own_e2 pp (own_floor q1) (own_floor q2))), .second, .val (.long (own_max (own_floor q1) (own_floor q2))), .second, .val (.int ((2 : Int32) * pp)), .val (.int (3 : Int32)), .unset, .unset, .unset, .unset, .unset, .unset] []))
        refine OwnR.of (fun _ hr => XS.lload X26.here hx rfl (hb hby at_270) rfl hr) ?_
        show OwnR _ _ _ _ _ _ _ (T26.setTop (mkF m 272 #[.val (.long q1), .second, .val (.long q2), .second, .val (.long q3), .second, .val (.int p4), .val (.int p5), .val (.int (2 : Int32)), .val (.int pp), .val (.long (own_floor q1)), .second, .val (.long (own_floor q2)), .second, .val (.long (own_floor q3)), .second, .val (.ref b4), .val (.long (own_e2 pp (own_floor q1) (own_floor q2))), .second, .val (.long (own_max (own_floor q1) (own_floor q2))), .second, .val (.int ((2 : Int32) * pp)), .val (.int (3 : Int32)), .unset, .unset, .unset, .unset, .unset, .unset] [(.long (own_e2 pp (own_floor q1) (own_floor q2)))]))
        refine OwnR.of (fun _ hr => XS.lload X26.here hx rfl (hb hby at_272) rfl hr) ?_
        show OwnR _ _ _ _ _ _ _ (T26.setTop (mkF m 274 #[.val (.long q1), .second, .val (.long q2), .second, .val (.long q3), .second, .val (.int p4), .val (.int p5), .val (.int (2 : Int32)), .val (.int pp), .val (.long (own_floor q1)), .second, .val (.long (own_floor q2)), .second, .val (.long (own_floor q3)), .second, .val (.ref b4), .val (.long (own_e2 pp (own_floor q1) (own_floor q2))), .second, .val (.long (own_max (own_floor q1) (own_floor q2))), .second, .val (.int ((2 : Int32) * pp)), .val (.int (3 : Int32)), .unset, .unset, .unset, .unset, .unset, .unset] [(.long (own_max (own_floor q1) (own_floor q2))), (.long (own_e2 pp (own_floor q1) (own_floor q2)))]))
        refine OwnR.of (fun _ hr => XS.lcmp X26.here hx rfl (hb hby at_274) rfl hr) ?_
        show OwnR _ _ _ _ _ _ _ (T26.setTop (mkF m 275 #[.val (.long q1), .second, .val (.long q2), .second, .val (.long q3), .second, .val (.int p4), .val (.int p5), .val (.int (2 : Int32)), .val (.int pp), .val (.long (own_floor q1)), .second, .val (.long (own_floor q2)), .second, .val (.long (own_floor q3)), .second, .val (.ref b4), .val (.long (own_e2 pp (own_floor q1) (own_floor q2))), .second, .val (.long (own_max (own_floor q1) (own_floor q2))), .second, .val (.int ((2 : Int32) * pp)), .val (.int (3 : Int32)), .unset, .unset, .unset, .unset, .unset, .unset] [(.int (lcmpW (own_e2 pp (own_floor q1) (own_floor q2)) (own_max (own_floor q1) (own_floor q2))))]))
        have hc275_27 : (own_e2 pp (own_floor q1) (own_floor q2)) = (own_max (own_floor q1) (own_floor q2)) := by
          refine Classical.byContradiction fun hbad => ?_
          exact hbad (by first | rfl | simp only [own_e2, own_e3, own_lo, own_mid, own_hi, if_pos hc123_24, if_pos hc135_25])
        refine OwnR.of (fun _ hr => XS.ifNo X26.here hx rfl (hb hby at_275) rfl ((if0 _ _).trans (teq ((own_lceq _ _).mpr hc275_27)).2) hr) ?_
        show OwnR _ _ _ _ _ _ _ (T26.setTop (mkF m 278 #[.val (.long q1), .second, .val (.long q2), .second, .val (.long q3), .second, .val (.int p4), .val (.int p5), .val (.int (2 : Int32)), .val (.int pp), .val (.long (own_floor q1)), .second, .val (.long (own_floor q2)), .second, .val (.long (own_floor q3)), .second, .val (.ref b4), .val (.long (own_e2 pp (own_floor q1) (own_floor q2))), .second, .val (.long (own_max (own_floor q1) (own_floor q2))), .second, .val (.int ((2 : Int32) * pp)), .val (.int (3 : Int32)), .unset, .unset, .unset, .unset, .unset, .unset] []))
        refine OwnR.of (fun _ hr => XS.aload X26.here hx rfl (hb hby at_278) rfl rfl hr) ?_
        show OwnR _ _ _ _ _ _ _ (T26.setTop (mkF m 280 #[.val (.long q1), .second, .val (.long q2), .second, .val (.long q3), .second, .val (.int p4), .val (.int p5), .val (.int (2 : Int32)), .val (.int pp), .val (.long (own_floor q1)), .second, .val (.long (own_floor q2)), .second, .val (.long (own_floor q3)), .second, .val (.ref b4), .val (.long (own_e2 pp (own_floor q1) (own_floor q2))), .second, .val (.long (own_max (own_floor q1) (own_floor q2))), .second, .val (.int ((2 : Int32) * pp)), .val (.int (3 : Int32)), .unset, .unset, .unset, .unset, .unset, .unset] [(.ref b4)]))
        obtain ⟨cq28, kq28, q28a, q28b, q28c⟩ := isOf hZ e26 P22_0
        obtain ⟨_, _, ⟨T28, L28, kc28, ns28⟩, -, X28, ⟨Lc28, hQ28, l28, y28, z28⟩, st28⟩ := X26.virtualBack hx (y := (⟨"com/example/kurir/kurir/bench/Latencies", "count", "()J"⟩ : MethodName)) (z := (⟨"com/example/kurir/kurir/bench/Latencies", "count", "()J"⟩ : MethodName)) hown (mvT hZ (hw _ (List.mem_of_getElem? (i := 81) rfl))) (mvT hZ (hw _ (List.mem_of_getElem? (i := 82) rfl))) (notFace_of_selects (args := #[]) (mvT hZ (hw _ (List.mem_of_getElem? (i := 84) rfl)))) (mvT hZ (hw _ (List.mem_of_getElem? (i := 84) rfl))) (mvT hZ (hw _ (List.mem_of_getElem? (i := 83) rfl))) (by decide) (backOf (W := 0) (rmCount l Z a0 hw [] b4 (((0 : Int64) + (1 : Int64)) + (1 : Int64)) (T22.heap) n0 (Nat.le_trans Z0 K22.1) P22_0 P22_2) hZ (hw _ (List.mem_of_getElem? (i := 85) rfl)) (hw _ (List.mem_of_getElem? (i := 16) rfl)) (by decide) (by decide)) q28a q28c (g := (mkF m 280 #[.val (.long q1), .second, .val (.long q2), .second, .val (.long q3), .second, .val (.int p4), .val (.int p5), .val (.int (2 : Int32)), .val (.int pp), .val (.long (own_floor q1)), .second, .val (.long (own_floor q2)), .second, .val (.long (own_floor q3)), .second, .val (.ref b4), .val (.long (own_e2 pp (own_floor q1) (own_floor q2))), .second, .val (.long (own_max (own_floor q1) (own_floor q2))), .second, .val (.int ((2 : Int32) * pp)), .val (.int (3 : Int32)), .unset, .unset, .unset, .unset, .unset, .unset] [(.ref b4)])) rfl (by rw [hml]; rfl) (Steps.refl _) (argsL := []) (rest := []) (lenOf pd___J rfl) rfl (by show 2 * 0 + _ ≤ _; exact Nat.le_of_eq rfl) (hb hby at_280) (fun _ _ => ⟨rfl, e26, (by decide : 4 + 0 ≤ _), (show 52 + sl1 + sl2 + 0 ≤ 157376 from hr2)⟩)
        dsimp only [Pt.U, Pt.locs, Pt.cells, Pt.slots] at X28 l28 y28 z28 st28 hQ28
        rw [l28, y28, z28] at X28
        obtain ⟨rfl, N28q, e28⟩ := hQ28
        have N28 := Fr.app N26 N28q
        refine OwnR.of (fun _ hr => st28.trans hr) ?_
        show OwnR _ _ _ _ _ _ _ (T28.setTop (mkF m 283 #[.val (.long q1), .second, .val (.long q2), .second, .val (.long q3), .second, .val (.int p4), .val (.int p5), .val (.int (2 : Int32)), .val (.int pp), .val (.long (own_floor q1)), .second, .val (.long (own_floor q2)), .second, .val (.long (own_floor q3)), .second, .val (.ref b4), .val (.long (own_e2 pp (own_floor q1) (own_floor q2))), .second, .val (.long (own_max (own_floor q1) (own_floor q2))), .second, .val (.int ((2 : Int32) * pp)), .val (.int (3 : Int32)), .unset, .unset, .unset, .unset, .unset, .unset] [(.long (((0 : Int64) + (1 : Int64)) + (1 : Int64)))]))
        refine OwnR.of (fun _ hr => XS.iload X28.here hx rfl (hb hby at_283) rfl hr) ?_
        show OwnR _ _ _ _ _ _ _ (T28.setTop (mkF m 285 #[.val (.long q1), .second, .val (.long q2), .second, .val (.long q3), .second, .val (.int p4), .val (.int p5), .val (.int (2 : Int32)), .val (.int pp), .val (.long (own_floor q1)), .second, .val (.long (own_floor q2)), .second, .val (.long (own_floor q3)), .second, .val (.ref b4), .val (.long (own_e2 pp (own_floor q1) (own_floor q2))), .second, .val (.long (own_max (own_floor q1) (own_floor q2))), .second, .val (.int ((2 : Int32) * pp)), .val (.int (3 : Int32)), .unset, .unset, .unset, .unset, .unset, .unset] [(.int (2 : Int32)), (.long (((0 : Int64) + (1 : Int64)) + (1 : Int64)))]))
        refine OwnR.of (fun _ hr => XS.i2l X28.here hx rfl (hb hby at_285) rfl hr) ?_
        show OwnR _ _ _ _ _ _ _ (T28.setTop (mkF m 286 #[.val (.long q1), .second, .val (.long q2), .second, .val (.long q3), .second, .val (.int p4), .val (.int p5), .val (.int (2 : Int32)), .val (.int pp), .val (.long (own_floor q1)), .second, .val (.long (own_floor q2)), .second, .val (.long (own_floor q3)), .second, .val (.ref b4), .val (.long (own_e2 pp (own_floor q1) (own_floor q2))), .second, .val (.long (own_max (own_floor q1) (own_floor q2))), .second, .val (.int ((2 : Int32) * pp)), .val (.int (3 : Int32)), .unset, .unset, .unset, .unset, .unset, .unset] [(.long ((2 : Int32).toInt64)), (.long (((0 : Int64) + (1 : Int64)) + (1 : Int64)))]))
        rw [(by decide : ((2 : Int32).toInt64) = (2 : Int64))]
        show OwnR _ _ _ _ _ _ _ (T28.setTop (mkF m 286 #[.val (.long q1), .second, .val (.long q2), .second, .val (.long q3), .second, .val (.int p4), .val (.int p5), .val (.int (2 : Int32)), .val (.int pp), .val (.long (own_floor q1)), .second, .val (.long (own_floor q2)), .second, .val (.long (own_floor q3)), .second, .val (.ref b4), .val (.long (own_e2 pp (own_floor q1) (own_floor q2))), .second, .val (.long (own_max (own_floor q1) (own_floor q2))), .second, .val (.int ((2 : Int32) * pp)), .val (.int (3 : Int32)), .unset, .unset, .unset, .unset, .unset, .unset] [(.long (2 : Int64)), (.long (((0 : Int64) + (1 : Int64)) + (1 : Int64)))]))
        refine OwnR.of (fun _ hr => XS.lcmp X28.here hx rfl (hb hby at_286) rfl hr) ?_
        show OwnR _ _ _ _ _ _ _ (T28.setTop (mkF m 287 #[.val (.long q1), .second, .val (.long q2), .second, .val (.long q3), .second, .val (.int p4), .val (.int p5), .val (.int (2 : Int32)), .val (.int pp), .val (.long (own_floor q1)), .second, .val (.long (own_floor q2)), .second, .val (.long (own_floor q3)), .second, .val (.ref b4), .val (.long (own_e2 pp (own_floor q1) (own_floor q2))), .second, .val (.long (own_max (own_floor q1) (own_floor q2))), .second, .val (.int ((2 : Int32) * pp)), .val (.int (3 : Int32)), .unset, .unset, .unset, .unset, .unset, .unset] [(.int (lcmpW (((0 : Int64) + (1 : Int64)) + (1 : Int64)) (2 : Int64)))]))
        have hc287_29 : (((0 : Int64) + (1 : Int64)) + (1 : Int64)) = (2 : Int64) := by
          refine Classical.byContradiction fun hbad => ?_
          exact hbad (by decide)
        refine OwnR.of (fun _ hr => XS.ifNo X28.here hx rfl (hb hby at_287) rfl ((if0 _ _).trans (teq ((own_lceq _ _).mpr hc287_29)).2) hr) ?_
        show OwnR _ _ _ _ _ _ _ (T28.setTop (mkF m 290 #[.val (.long q1), .second, .val (.long q2), .second, .val (.long q3), .second, .val (.int p4), .val (.int p5), .val (.int (2 : Int32)), .val (.int pp), .val (.long (own_floor q1)), .second, .val (.long (own_floor q2)), .second, .val (.long (own_floor q3)), .second, .val (.ref b4), .val (.long (own_e2 pp (own_floor q1) (own_floor q2))), .second, .val (.long (own_max (own_floor q1) (own_floor q2))), .second, .val (.int ((2 : Int32) * pp)), .val (.int (3 : Int32)), .unset, .unset, .unset, .unset, .unset, .unset] []))
        refine OwnR.of (fun _ hr => XS.iconst X28.here hx rfl (hb hby at_290) hr) ?_
        show OwnR _ _ _ _ _ _ _ (T28.setTop (mkF m 291 #[.val (.long q1), .second, .val (.long q2), .second, .val (.long q3), .second, .val (.int p4), .val (.int p5), .val (.int (2 : Int32)), .val (.int pp), .val (.long (own_floor q1)), .second, .val (.long (own_floor q2)), .second, .val (.long (own_floor q3)), .second, .val (.ref b4), .val (.long (own_e2 pp (own_floor q1) (own_floor q2))), .second, .val (.long (own_max (own_floor q1) (own_floor q2))), .second, .val (.int ((2 : Int32) * pp)), .val (.int (3 : Int32)), .unset, .unset, .unset, .unset, .unset, .unset] [(.int (1 : Int32))]))
        refine OwnR.of (fun _ hr => XS.goto X28.here hx rfl (pc0 := 291) (pc' := 295) rfl (hb hby at_291) (by decide) (by decide) hr) ?_
        show OwnR _ _ _ _ _ _ _ (T28.setTop (mkF m 295 #[.val (.long q1), .second, .val (.long q2), .second, .val (.long q3), .second, .val (.int p4), .val (.int p5), .val (.int (2 : Int32)), .val (.int pp), .val (.long (own_floor q1)), .second, .val (.long (own_floor q2)), .second, .val (.long (own_floor q3)), .second, .val (.ref b4), .val (.long (own_e2 pp (own_floor q1) (own_floor q2))), .second, .val (.long (own_max (own_floor q1) (own_floor q2))), .second, .val (.int ((2 : Int32) * pp)), .val (.int (3 : Int32)), .unset, .unset, .unset, .unset, .unset, .unset] [(.int (1 : Int32))]))
        refine own_leafN X28 hx hlk (t := .boolean) Bd.returns (by simp) (hb hby at_295) (z' := (1 : Int32)) rfl (by decide) (show 52 + sl1 + sl2 ≤ 157376 from hr2) ?_
        show Q0 Z  h0 n0 _ T28.heap _
        rw [show T28.heap = T22.heap from e28]
        refine ⟨?_, N28⟩
        show (some (.int (1 : Int32)) : Option Value) = some (.int (1 : Int32))
        rfl
      · skip
        refine OwnR.of (fun _ hr => XS.icmpNo X23.here hx rfl (hb hby at_135) rfl (flt hc135_25).2.2.1 hr) ?_
        show OwnR _ _ _ _ _ _ _ (T23.setTop (mkF m 138 #[.val (.long q1), .second, .val (.long q2), .second, .val (.long q3), .second, .val (.int p4), .val (.int p5), .val (.int (2 : Int32)), .val (.int pp), .val (.long (own_floor q1)), .second, .val (.long (own_floor q2)), .second, .val (.long (own_floor q3)), .second, .val (.ref b4), .val (.long (own_e2 pp (own_floor q1) (own_floor q2))), .second, .unset, .unset, .val (.int ((2 : Int32) * pp)), .unset, .unset, .unset, .unset, .unset, .unset, .unset] []))
        refine OwnR.of (fun _ hr => XS.iconst X23.here hx rfl (hb hby at_138) hr) ?_
        show OwnR _ _ _ _ _ _ _ (T23.setTop (mkF m 139 #[.val (.long q1), .second, .val (.long q2), .second, .val (.long q3), .second, .val (.int p4), .val (.int p5), .val (.int (2 : Int32)), .val (.int pp), .val (.long (own_floor q1)), .second, .val (.long (own_floor q2)), .second, .val (.long (own_floor q3)), .second, .val (.ref b4), .val (.long (own_e2 pp (own_floor q1) (own_floor q2))), .second, .unset, .unset, .val (.int ((2 : Int32) * pp)), .unset, .unset, .unset, .unset, .unset, .unset, .unset] [(.int (2 : Int32))]))
        refine OwnR.of (fun _ hr => XS.goto X23.here hx rfl (pc0 := 139) (pc' := 143) rfl (hb hby at_139) (by decide) (by decide) hr) ?_
        show OwnR _ _ _ _ _ _ _ (T23.setTop (mkF m 143 #[.val (.long q1), .second, .val (.long q2), .second, .val (.long q3), .second, .val (.int p4), .val (.int p5), .val (.int (2 : Int32)), .val (.int pp), .val (.long (own_floor q1)), .second, .val (.long (own_floor q2)), .second, .val (.long (own_floor q3)), .second, .val (.ref b4), .val (.long (own_e2 pp (own_floor q1) (own_floor q2))), .second, .unset, .unset, .val (.int ((2 : Int32) * pp)), .unset, .unset, .unset, .unset, .unset, .unset, .unset] [(.int (2 : Int32))]))
        refine OwnR.of (fun _ hr => XS.istore X23.here hx rfl (hb hby at_143) rfl (l' := #[.val (.long q1), .second, .val (.long q2), .second, .val (.long q3), .second, .val (.int p4), .val (.int p5), .val (.int (2 : Int32)), .val (.int pp), .val (.long (own_floor q1)), .second, .val (.long (own_floor q2)), .second, .val (.long (own_floor q3)), .second, .val (.ref b4), .val (.long (own_e2 pp (own_floor q1) (own_floor q2))), .second, .unset, .unset, .val (.int ((2 : Int32) * pp)), .val (.int (2 : Int32)), .unset, .unset, .unset, .unset, .unset, .unset]) rfl hr) ?_
        show OwnR _ _ _ _ _ _ _ (T23.setTop (mkF m 145 #[.val (.long q1), .second, .val (.long q2), .second, .val (.long q3), .second, .val (.int p4), .val (.int p5), .val (.int (2 : Int32)), .val (.int pp), .val (.long (own_floor q1)), .second, .val (.long (own_floor q2)), .second, .val (.long (own_floor q3)), .second, .val (.ref b4), .val (.long (own_e2 pp (own_floor q1) (own_floor q2))), .second, .unset, .unset, .val (.int ((2 : Int32) * pp)), .val (.int (2 : Int32)), .unset, .unset, .unset, .unset, .unset, .unset] []))
        refine OwnR.of (fun _ hr => XS.iload X23.here hx rfl (hb hby at_145) rfl hr) ?_
        show OwnR _ _ _ _ _ _ _ (T23.setTop (mkF m 147 #[.val (.long q1), .second, .val (.long q2), .second, .val (.long q3), .second, .val (.int p4), .val (.int p5), .val (.int (2 : Int32)), .val (.int pp), .val (.long (own_floor q1)), .second, .val (.long (own_floor q2)), .second, .val (.long (own_floor q3)), .second, .val (.ref b4), .val (.long (own_e2 pp (own_floor q1) (own_floor q2))), .second, .unset, .unset, .val (.int ((2 : Int32) * pp)), .val (.int (2 : Int32)), .unset, .unset, .unset, .unset, .unset, .unset] [(.int (2 : Int32))]))
        refine OwnR.of (fun _ hr => XS.iconst X23.here hx rfl (hb hby at_147) hr) ?_
        show OwnR _ _ _ _ _ _ _ (T23.setTop (mkF m 148 #[.val (.long q1), .second, .val (.long q2), .second, .val (.long q3), .second, .val (.int p4), .val (.int p5), .val (.int (2 : Int32)), .val (.int pp), .val (.long (own_floor q1)), .second, .val (.long (own_floor q2)), .second, .val (.long (own_floor q3)), .second, .val (.ref b4), .val (.long (own_e2 pp (own_floor q1) (own_floor q2))), .second, .unset, .unset, .val (.int ((2 : Int32) * pp)), .val (.int (2 : Int32)), .unset, .unset, .unset, .unset, .unset, .unset] [(.int (1 : Int32)), (.int (2 : Int32))]))
        refine OwnR.of (fun _ hr => XS.icmpYes X23.here hx rfl (pc0 := 148) (pc' := 158) rfl (hb hby at_148) rfl (feq (by decide : ¬ ((2 : Int32) = (1 : Int32)))).2 (by decide) (by decide) hr) ?_
        show OwnR _ _ _ _ _ _ _ (T23.setTop (mkF m 158 #[.val (.long q1), .second, .val (.long q2), .second, .val (.long q3), .second, .val (.int p4), .val (.int p5), .val (.int (2 : Int32)), .val (.int pp), .val (.long (own_floor q1)), .second, .val (.long (own_floor q2)), .second, .val (.long (own_floor q3)), .second, .val (.ref b4), .val (.long (own_e2 pp (own_floor q1) (own_floor q2))), .second, .unset, .unset, .val (.int ((2 : Int32) * pp)), .val (.int (2 : Int32)), .unset, .unset, .unset, .unset, .unset, .unset] []))
        refine OwnR.of (fun _ hr => XS.iload X23.here hx rfl (hb hby at_158) rfl hr) ?_
        show OwnR _ _ _ _ _ _ _ (T23.setTop (mkF m 160 #[.val (.long q1), .second, .val (.long q2), .second, .val (.long q3), .second, .val (.int p4), .val (.int p5), .val (.int (2 : Int32)), .val (.int pp), .val (.long (own_floor q1)), .second, .val (.long (own_floor q2)), .second, .val (.long (own_floor q3)), .second, .val (.ref b4), .val (.long (own_e2 pp (own_floor q1) (own_floor q2))), .second, .unset, .unset, .val (.int ((2 : Int32) * pp)), .val (.int (2 : Int32)), .unset, .unset, .unset, .unset, .unset, .unset] [(.int (2 : Int32))]))
        refine OwnR.of (fun _ hr => XS.iconst X23.here hx rfl (hb hby at_160) hr) ?_
        show OwnR _ _ _ _ _ _ _ (T23.setTop (mkF m 161 #[.val (.long q1), .second, .val (.long q2), .second, .val (.long q3), .second, .val (.int p4), .val (.int p5), .val (.int (2 : Int32)), .val (.int pp), .val (.long (own_floor q1)), .second, .val (.long (own_floor q2)), .second, .val (.long (own_floor q3)), .second, .val (.ref b4), .val (.long (own_e2 pp (own_floor q1) (own_floor q2))), .second, .unset, .unset, .val (.int ((2 : Int32) * pp)), .val (.int (2 : Int32)), .unset, .unset, .unset, .unset, .unset, .unset] [(.int (2 : Int32)), (.int (2 : Int32))]))
        refine OwnR.of (fun _ hr => XS.icmpNo X23.here hx rfl (hb hby at_161) rfl (teq (by decide : (2 : Int32) = (2 : Int32))).2 hr) ?_
        show OwnR _ _ _ _ _ _ _ (T23.setTop (mkF m 164 #[.val (.long q1), .second, .val (.long q2), .second, .val (.long q3), .second, .val (.int p4), .val (.int p5), .val (.int (2 : Int32)), .val (.int pp), .val (.long (own_floor q1)), .second, .val (.long (own_floor q2)), .second, .val (.long (own_floor q3)), .second, .val (.ref b4), .val (.long (own_e2 pp (own_floor q1) (own_floor q2))), .second, .unset, .unset, .val (.int ((2 : Int32) * pp)), .val (.int (2 : Int32)), .unset, .unset, .unset, .unset, .unset, .unset] []))
        refine OwnR.of (fun _ hr => XS.iload X23.here hx rfl (hb hby at_164) rfl hr) ?_
        show OwnR _ _ _ _ _ _ _ (T23.setTop (mkF m 166 #[.val (.long q1), .second, .val (.long q2), .second, .val (.long q3), .second, .val (.int p4), .val (.int p5), .val (.int (2 : Int32)), .val (.int pp), .val (.long (own_floor q1)), .second, .val (.long (own_floor q2)), .second, .val (.long (own_floor q3)), .second, .val (.ref b4), .val (.long (own_e2 pp (own_floor q1) (own_floor q2))), .second, .unset, .unset, .val (.int ((2 : Int32) * pp)), .val (.int (2 : Int32)), .unset, .unset, .unset, .unset, .unset, .unset] [(.int (2 : Int32))]))
        refine OwnR.of (fun _ hr => XS.iconst X23.here hx rfl (hb hby at_166) hr) ?_
        show OwnR _ _ _ _ _ _ _ (T23.setTop (mkF m 167 #[.val (.long q1), .second, .val (.long q2), .second, .val (.long q3), .second, .val (.int p4), .val (.int p5), .val (.int (2 : Int32)), .val (.int pp), .val (.long (own_floor q1)), .second, .val (.long (own_floor q2)), .second, .val (.long (own_floor q3)), .second, .val (.ref b4), .val (.long (own_e2 pp (own_floor q1) (own_floor q2))), .second, .unset, .unset, .val (.int ((2 : Int32) * pp)), .val (.int (2 : Int32)), .unset, .unset, .unset, .unset, .unset, .unset] [(.int (1 : Int32)), (.int (2 : Int32))]))
        refine OwnR.of (fun _ hr => XS.icmpYes X23.here hx rfl (pc0 := 167) (pc' := 180) rfl (hb hby at_167) rfl (feq (by decide : ¬ ((2 : Int32) = (1 : Int32)))).2 (by decide) (by decide) hr) ?_
        show OwnR _ _ _ _ _ _ _ (T23.setTop (mkF m 180 #[.val (.long q1), .second, .val (.long q2), .second, .val (.long q3), .second, .val (.int p4), .val (.int p5), .val (.int (2 : Int32)), .val (.int pp), .val (.long (own_floor q1)), .second, .val (.long (own_floor q2)), .second, .val (.long (own_floor q3)), .second, .val (.ref b4), .val (.long (own_e2 pp (own_floor q1) (own_floor q2))), .second, .unset, .unset, .val (.int ((2 : Int32) * pp)), .val (.int (2 : Int32)), .unset, .unset, .unset, .unset, .unset, .unset] []))
        refine OwnR.of (fun _ hr => XS.lload X23.here hx rfl (hb hby at_180) rfl hr) ?_
        show OwnR _ _ _ _ _ _ _ (T23.setTop (mkF m 182 #[.val (.long q1), .second, .val (.long q2), .second, .val (.long q3), .second, .val (.int p4), .val (.int p5), .val (.int (2 : Int32)), .val (.int pp), .val (.long (own_floor q1)), .second, .val (.long (own_floor q2)), .second, .val (.long (own_floor q3)), .second, .val (.ref b4), .val (.long (own_e2 pp (own_floor q1) (own_floor q2))), .second, .unset, .unset, .val (.int ((2 : Int32) * pp)), .val (.int (2 : Int32)), .unset, .unset, .unset, .unset, .unset, .unset] [(.long (own_floor q1))]))
        refine OwnR.of (fun _ hr => XS.lload X23.here hx rfl (hb hby at_182) rfl hr) ?_
        show OwnR _ _ _ _ _ _ _ (T23.setTop (mkF m 184 #[.val (.long q1), .second, .val (.long q2), .second, .val (.long q3), .second, .val (.int p4), .val (.int p5), .val (.int (2 : Int32)), .val (.int pp), .val (.long (own_floor q1)), .second, .val (.long (own_floor q2)), .second, .val (.long (own_floor q3)), .second, .val (.ref b4), .val (.long (own_e2 pp (own_floor q1) (own_floor q2))), .second, .unset, .unset, .val (.int ((2 : Int32) * pp)), .val (.int (2 : Int32)), .unset, .unset, .unset, .unset, .unset, .unset] [(.long (own_floor q2)), (.long (own_floor q1))]))
        obtain ⟨_, _, ⟨T30, L30, kc30, ns30⟩, -, X30, ⟨Lc30, hQ30, l30, y30, z30⟩, st30⟩ := Jvm.LawKit.callS X23 hx (y := (⟨"java/lang/Math", "max", "(JJ)J"⟩ : MethodName)) hown (mvT hZ (hw _ (List.mem_of_getElem? (i := 80) rfl))) (mvT hZ (hw _ (List.mem_of_getElem? (i := 40) rfl))) (mvT hZ (hw _ (List.mem_of_getElem? (i := 41) rfl))) (mvT hZ (hw _ (List.mem_of_getElem? (i := 42) rfl))) (by decide) (backOf (W := 0) (rmMaxJ l Z a0 hw [] (own_floor q1) (own_floor q2) (T22.heap) n0 (Nat.le_trans Z0 K22.1) ) hZ (hw _ (List.mem_of_getElem? (i := 42) rfl)) (hw _ (List.mem_of_getElem? (i := 41) rfl)) (by decide) (by decide)) (g := (mkF m 184 #[.val (.long q1), .second, .val (.long q2), .second, .val (.long q3), .second, .val (.int p4), .val (.int p5), .val (.int (2 : Int32)), .val (.int pp), .val (.long (own_floor q1)), .second, .val (.long (own_floor q2)), .second, .val (.long (own_floor q3)), .second, .val (.ref b4), .val (.long (own_e2 pp (own_floor q1) (own_floor q2))), .second, .unset, .unset, .val (.int ((2 : Int32) * pp)), .val (.int (2 : Int32)), .unset, .unset, .unset, .unset, .unset, .unset] [(.long (own_floor q2)), (.long (own_floor q1))])) rfl (by rw [hml]; rfl) (argsL := [(.long (own_floor q1)), (.long (own_floor q2))]) (rest := []) (lenOf pd__JJ_J rfl) rfl (by show 2 * 0 + _ ≤ _; exact Nat.le_of_eq rfl) (hb hby at_184) (fun _ _ => ⟨rfl, e23, (by decide : 4 + 0 ≤ _), (show 52 + sl1 + sl2 + 0 ≤ 157376 from hr2)⟩)
        dsimp only [Pt.U, Pt.locs, Pt.cells, Pt.slots] at X30 l30 y30 z30 st30 hQ30
        rw [l30, y30, z30] at X30
        obtain ⟨rfl, N30q, e30⟩ := hQ30
        have N30 := Fr.app N23 N30q
        refine OwnR.of (st30) ?_
        show OwnR _ _ _ _ _ _ _ (T30.setTop (mkF m 187 #[.val (.long q1), .second, .val (.long q2), .second, .val (.long q3), .second, .val (.int p4), .val (.int p5), .val (.int (2 : Int32)), .val (.int pp), .val (.long (own_floor q1)), .second, .val (.long (own_floor q2)), .second, .val (.long (own_floor q3)), .second, .val (.ref b4), .val (.long (own_e2 pp (own_floor q1) (own_floor q2))), .second, .unset, .unset, .val (.int ((2 : Int32) * pp)), .val (.int (2 : Int32)), .unset, .unset, .unset, .unset, .unset, .unset] [(.long (own_max (own_floor q1) (own_floor q2)))]))
        refine OwnR.of (fun _ hr => XS.lstore X30.here hx rfl (hb hby at_187) rfl (l' := #[.val (.long q1), .second, .val (.long q2), .second, .val (.long q3), .second, .val (.int p4), .val (.int p5), .val (.int (2 : Int32)), .val (.int pp), .val (.long (own_floor q1)), .second, .val (.long (own_floor q2)), .second, .val (.long (own_floor q3)), .second, .val (.ref b4), .val (.long (own_e2 pp (own_floor q1) (own_floor q2))), .second, .val (.long (own_max (own_floor q1) (own_floor q2))), .second, .val (.int ((2 : Int32) * pp)), .val (.int (2 : Int32)), .unset, .unset, .unset, .unset, .unset, .unset]) rfl hr) ?_
        show OwnR _ _ _ _ _ _ _ (T30.setTop (mkF m 189 #[.val (.long q1), .second, .val (.long q2), .second, .val (.long q3), .second, .val (.int p4), .val (.int p5), .val (.int (2 : Int32)), .val (.int pp), .val (.long (own_floor q1)), .second, .val (.long (own_floor q2)), .second, .val (.long (own_floor q3)), .second, .val (.ref b4), .val (.long (own_e2 pp (own_floor q1) (own_floor q2))), .second, .val (.long (own_max (own_floor q1) (own_floor q2))), .second, .val (.int ((2 : Int32) * pp)), .val (.int (2 : Int32)), .unset, .unset, .unset, .unset, .unset, .unset] []))
        refine OwnR.of (fun _ hr => XS.goto X30.here hx rfl (pc0 := 189) (pc' := 270) rfl (hb hby at_189) (by decide) (by decide) hr) ?_
        show OwnR _ _ _ _ _ _ _ (T30.setTop (mkF m 270 #[.val (.long q1), .second, .val (.long q2), .second, .val (.long q3), .second, .val (.int p4), .val (.int p5), .val (.int (2 : Int32)), .val (.int pp), .val (.long (own_floor q1)), .second, .val (.long (own_floor q2)), .second, .val (.long (own_floor q3)), .second, .val (.ref b4), .val (.long (own_e2 pp (own_floor q1) (own_floor q2))), .second, .val (.long (own_max (own_floor q1) (own_floor q2))), .second, .val (.int ((2 : Int32) * pp)), .val (.int (2 : Int32)), .unset, .unset, .unset, .unset, .unset, .unset] []))
        refine OwnR.of (fun _ hr => XS.lload X30.here hx rfl (hb hby at_270) rfl hr) ?_
        show OwnR _ _ _ _ _ _ _ (T30.setTop (mkF m 272 #[.val (.long q1), .second, .val (.long q2), .second, .val (.long q3), .second, .val (.int p4), .val (.int p5), .val (.int (2 : Int32)), .val (.int pp), .val (.long (own_floor q1)), .second, .val (.long (own_floor q2)), .second, .val (.long (own_floor q3)), .second, .val (.ref b4), .val (.long (own_e2 pp (own_floor q1) (own_floor q2))), .second, .val (.long (own_max (own_floor q1) (own_floor q2))), .second, .val (.int ((2 : Int32) * pp)), .val (.int (2 : Int32)), .unset, .unset, .unset, .unset, .unset, .unset] [(.long (own_e2 pp (own_floor q1) (own_floor q2)))]))
        refine OwnR.of (fun _ hr => XS.lload X30.here hx rfl (hb hby at_272) rfl hr) ?_
        show OwnR _ _ _ _ _ _ _ (T30.setTop (mkF m 274 #[.val (.long q1), .second, .val (.long q2), .second, .val (.long q3), .second, .val (.int p4), .val (.int p5), .val (.int (2 : Int32)), .val (.int pp), .val (.long (own_floor q1)), .second, .val (.long (own_floor q2)), .second, .val (.long (own_floor q3)), .second, .val (.ref b4), .val (.long (own_e2 pp (own_floor q1) (own_floor q2))), .second, .val (.long (own_max (own_floor q1) (own_floor q2))), .second, .val (.int ((2 : Int32) * pp)), .val (.int (2 : Int32)), .unset, .unset, .unset, .unset, .unset, .unset] [(.long (own_max (own_floor q1) (own_floor q2))), (.long (own_e2 pp (own_floor q1) (own_floor q2)))]))
        refine OwnR.of (fun _ hr => XS.lcmp X30.here hx rfl (hb hby at_274) rfl hr) ?_
        show OwnR _ _ _ _ _ _ _ (T30.setTop (mkF m 275 #[.val (.long q1), .second, .val (.long q2), .second, .val (.long q3), .second, .val (.int p4), .val (.int p5), .val (.int (2 : Int32)), .val (.int pp), .val (.long (own_floor q1)), .second, .val (.long (own_floor q2)), .second, .val (.long (own_floor q3)), .second, .val (.ref b4), .val (.long (own_e2 pp (own_floor q1) (own_floor q2))), .second, .val (.long (own_max (own_floor q1) (own_floor q2))), .second, .val (.int ((2 : Int32) * pp)), .val (.int (2 : Int32)), .unset, .unset, .unset, .unset, .unset, .unset] [(.int (lcmpW (own_e2 pp (own_floor q1) (own_floor q2)) (own_max (own_floor q1) (own_floor q2))))]))
        have hc275_31 : (own_e2 pp (own_floor q1) (own_floor q2)) = (own_max (own_floor q1) (own_floor q2)) := by
          refine Classical.byContradiction fun hbad => ?_
          exact hbad (by first | rfl | simp only [own_e2, own_e3, own_lo, own_mid, own_hi, if_pos hc123_24, if_neg hc135_25])
        refine OwnR.of (fun _ hr => XS.ifNo X30.here hx rfl (hb hby at_275) rfl ((if0 _ _).trans (teq ((own_lceq _ _).mpr hc275_31)).2) hr) ?_
        show OwnR _ _ _ _ _ _ _ (T30.setTop (mkF m 278 #[.val (.long q1), .second, .val (.long q2), .second, .val (.long q3), .second, .val (.int p4), .val (.int p5), .val (.int (2 : Int32)), .val (.int pp), .val (.long (own_floor q1)), .second, .val (.long (own_floor q2)), .second, .val (.long (own_floor q3)), .second, .val (.ref b4), .val (.long (own_e2 pp (own_floor q1) (own_floor q2))), .second, .val (.long (own_max (own_floor q1) (own_floor q2))), .second, .val (.int ((2 : Int32) * pp)), .val (.int (2 : Int32)), .unset, .unset, .unset, .unset, .unset, .unset] []))
        refine OwnR.of (fun _ hr => XS.aload X30.here hx rfl (hb hby at_278) rfl rfl hr) ?_
        show OwnR _ _ _ _ _ _ _ (T30.setTop (mkF m 280 #[.val (.long q1), .second, .val (.long q2), .second, .val (.long q3), .second, .val (.int p4), .val (.int p5), .val (.int (2 : Int32)), .val (.int pp), .val (.long (own_floor q1)), .second, .val (.long (own_floor q2)), .second, .val (.long (own_floor q3)), .second, .val (.ref b4), .val (.long (own_e2 pp (own_floor q1) (own_floor q2))), .second, .val (.long (own_max (own_floor q1) (own_floor q2))), .second, .val (.int ((2 : Int32) * pp)), .val (.int (2 : Int32)), .unset, .unset, .unset, .unset, .unset, .unset] [(.ref b4)]))
        obtain ⟨cq32, kq32, q32a, q32b, q32c⟩ := isOf hZ e30 P22_0
        obtain ⟨_, _, ⟨T32, L32, kc32, ns32⟩, -, X32, ⟨Lc32, hQ32, l32, y32, z32⟩, st32⟩ := X30.virtualBack hx (y := (⟨"com/example/kurir/kurir/bench/Latencies", "count", "()J"⟩ : MethodName)) (z := (⟨"com/example/kurir/kurir/bench/Latencies", "count", "()J"⟩ : MethodName)) hown (mvT hZ (hw _ (List.mem_of_getElem? (i := 81) rfl))) (mvT hZ (hw _ (List.mem_of_getElem? (i := 82) rfl))) (notFace_of_selects (args := #[]) (mvT hZ (hw _ (List.mem_of_getElem? (i := 84) rfl)))) (mvT hZ (hw _ (List.mem_of_getElem? (i := 84) rfl))) (mvT hZ (hw _ (List.mem_of_getElem? (i := 83) rfl))) (by decide) (backOf (W := 0) (rmCount l Z a0 hw [] b4 (((0 : Int64) + (1 : Int64)) + (1 : Int64)) (T22.heap) n0 (Nat.le_trans Z0 K22.1) P22_0 P22_2) hZ (hw _ (List.mem_of_getElem? (i := 85) rfl)) (hw _ (List.mem_of_getElem? (i := 16) rfl)) (by decide) (by decide)) q32a q32c (g := (mkF m 280 #[.val (.long q1), .second, .val (.long q2), .second, .val (.long q3), .second, .val (.int p4), .val (.int p5), .val (.int (2 : Int32)), .val (.int pp), .val (.long (own_floor q1)), .second, .val (.long (own_floor q2)), .second, .val (.long (own_floor q3)), .second, .val (.ref b4), .val (.long (own_e2 pp (own_floor q1) (own_floor q2))), .second, .val (.long (own_max (own_floor q1) (own_floor q2))), .second, .val (.int ((2 : Int32) * pp)), .val (.int (2 : Int32)), .unset, .unset, .unset, .unset, .unset, .unset] [(.ref b4)])) rfl (by rw [hml]; rfl) (Steps.refl _) (argsL := []) (rest := []) (lenOf pd___J rfl) rfl (by show 2 * 0 + _ ≤ _; exact Nat.le_of_eq rfl) (hb hby at_280) (fun _ _ => ⟨rfl, e30, (by decide : 4 + 0 ≤ _), (show 52 + sl1 + sl2 + 0 ≤ 157376 from hr2)⟩)
        dsimp only [Pt.U, Pt.locs, Pt.cells, Pt.slots] at X32 l32 y32 z32 st32 hQ32
        rw [l32, y32, z32] at X32
        obtain ⟨rfl, N32q, e32⟩ := hQ32
        have N32 := Fr.app N30 N32q
        refine OwnR.of (fun _ hr => st32.trans hr) ?_
        show OwnR _ _ _ _ _ _ _ (T32.setTop (mkF m 283 #[.val (.long q1), .second, .val (.long q2), .second, .val (.long q3), .second, .val (.int p4), .val (.int p5), .val (.int (2 : Int32)), .val (.int pp), .val (.long (own_floor q1)), .second, .val (.long (own_floor q2)), .second, .val (.long (own_floor q3)), .second, .val (.ref b4), .val (.long (own_e2 pp (own_floor q1) (own_floor q2))), .second, .val (.long (own_max (own_floor q1) (own_floor q2))), .second, .val (.int ((2 : Int32) * pp)), .val (.int (2 : Int32)), .unset, .unset, .unset, .unset, .unset, .unset] [(.long (((0 : Int64) + (1 : Int64)) + (1 : Int64)))]))
        refine OwnR.of (fun _ hr => XS.iload X32.here hx rfl (hb hby at_283) rfl hr) ?_
        show OwnR _ _ _ _ _ _ _ (T32.setTop (mkF m 285 #[.val (.long q1), .second, .val (.long q2), .second, .val (.long q3), .second, .val (.int p4), .val (.int p5), .val (.int (2 : Int32)), .val (.int pp), .val (.long (own_floor q1)), .second, .val (.long (own_floor q2)), .second, .val (.long (own_floor q3)), .second, .val (.ref b4), .val (.long (own_e2 pp (own_floor q1) (own_floor q2))), .second, .val (.long (own_max (own_floor q1) (own_floor q2))), .second, .val (.int ((2 : Int32) * pp)), .val (.int (2 : Int32)), .unset, .unset, .unset, .unset, .unset, .unset] [(.int (2 : Int32)), (.long (((0 : Int64) + (1 : Int64)) + (1 : Int64)))]))
        refine OwnR.of (fun _ hr => XS.i2l X32.here hx rfl (hb hby at_285) rfl hr) ?_
        show OwnR _ _ _ _ _ _ _ (T32.setTop (mkF m 286 #[.val (.long q1), .second, .val (.long q2), .second, .val (.long q3), .second, .val (.int p4), .val (.int p5), .val (.int (2 : Int32)), .val (.int pp), .val (.long (own_floor q1)), .second, .val (.long (own_floor q2)), .second, .val (.long (own_floor q3)), .second, .val (.ref b4), .val (.long (own_e2 pp (own_floor q1) (own_floor q2))), .second, .val (.long (own_max (own_floor q1) (own_floor q2))), .second, .val (.int ((2 : Int32) * pp)), .val (.int (2 : Int32)), .unset, .unset, .unset, .unset, .unset, .unset] [(.long ((2 : Int32).toInt64)), (.long (((0 : Int64) + (1 : Int64)) + (1 : Int64)))]))
        rw [(by decide : ((2 : Int32).toInt64) = (2 : Int64))]
        show OwnR _ _ _ _ _ _ _ (T32.setTop (mkF m 286 #[.val (.long q1), .second, .val (.long q2), .second, .val (.long q3), .second, .val (.int p4), .val (.int p5), .val (.int (2 : Int32)), .val (.int pp), .val (.long (own_floor q1)), .second, .val (.long (own_floor q2)), .second, .val (.long (own_floor q3)), .second, .val (.ref b4), .val (.long (own_e2 pp (own_floor q1) (own_floor q2))), .second, .val (.long (own_max (own_floor q1) (own_floor q2))), .second, .val (.int ((2 : Int32) * pp)), .val (.int (2 : Int32)), .unset, .unset, .unset, .unset, .unset, .unset] [(.long (2 : Int64)), (.long (((0 : Int64) + (1 : Int64)) + (1 : Int64)))]))
        refine OwnR.of (fun _ hr => XS.lcmp X32.here hx rfl (hb hby at_286) rfl hr) ?_
        show OwnR _ _ _ _ _ _ _ (T32.setTop (mkF m 287 #[.val (.long q1), .second, .val (.long q2), .second, .val (.long q3), .second, .val (.int p4), .val (.int p5), .val (.int (2 : Int32)), .val (.int pp), .val (.long (own_floor q1)), .second, .val (.long (own_floor q2)), .second, .val (.long (own_floor q3)), .second, .val (.ref b4), .val (.long (own_e2 pp (own_floor q1) (own_floor q2))), .second, .val (.long (own_max (own_floor q1) (own_floor q2))), .second, .val (.int ((2 : Int32) * pp)), .val (.int (2 : Int32)), .unset, .unset, .unset, .unset, .unset, .unset] [(.int (lcmpW (((0 : Int64) + (1 : Int64)) + (1 : Int64)) (2 : Int64)))]))
        have hc287_33 : (((0 : Int64) + (1 : Int64)) + (1 : Int64)) = (2 : Int64) := by
          refine Classical.byContradiction fun hbad => ?_
          exact hbad (by decide)
        refine OwnR.of (fun _ hr => XS.ifNo X32.here hx rfl (hb hby at_287) rfl ((if0 _ _).trans (teq ((own_lceq _ _).mpr hc287_33)).2) hr) ?_
        show OwnR _ _ _ _ _ _ _ (T32.setTop (mkF m 290 #[.val (.long q1), .second, .val (.long q2), .second, .val (.long q3), .second, .val (.int p4), .val (.int p5), .val (.int (2 : Int32)), .val (.int pp), .val (.long (own_floor q1)), .second, .val (.long (own_floor q2)), .second, .val (.long (own_floor q3)), .second, .val (.ref b4), .val (.long (own_e2 pp (own_floor q1) (own_floor q2))), .second, .val (.long (own_max (own_floor q1) (own_floor q2))), .second, .val (.int ((2 : Int32) * pp)), .val (.int (2 : Int32)), .unset, .unset, .unset, .unset, .unset, .unset] []))
        refine OwnR.of (fun _ hr => XS.iconst X32.here hx rfl (hb hby at_290) hr) ?_
        show OwnR _ _ _ _ _ _ _ (T32.setTop (mkF m 291 #[.val (.long q1), .second, .val (.long q2), .second, .val (.long q3), .second, .val (.int p4), .val (.int p5), .val (.int (2 : Int32)), .val (.int pp), .val (.long (own_floor q1)), .second, .val (.long (own_floor q2)), .second, .val (.long (own_floor q3)), .second, .val (.ref b4), .val (.long (own_e2 pp (own_floor q1) (own_floor q2))), .second, .val (.long (own_max (own_floor q1) (own_floor q2))), .second, .val (.int ((2 : Int32) * pp)), .val (.int (2 : Int32)), .unset, .unset, .unset, .unset, .unset, .unset] [(.int (1 : Int32))]))
        refine OwnR.of (fun _ hr => XS.goto X32.here hx rfl (pc0 := 291) (pc' := 295) rfl (hb hby at_291) (by decide) (by decide) hr) ?_
        show OwnR _ _ _ _ _ _ _ (T32.setTop (mkF m 295 #[.val (.long q1), .second, .val (.long q2), .second, .val (.long q3), .second, .val (.int p4), .val (.int p5), .val (.int (2 : Int32)), .val (.int pp), .val (.long (own_floor q1)), .second, .val (.long (own_floor q2)), .second, .val (.long (own_floor q3)), .second, .val (.ref b4), .val (.long (own_e2 pp (own_floor q1) (own_floor q2))), .second, .val (.long (own_max (own_floor q1) (own_floor q2))), .second, .val (.int ((2 : Int32) * pp)), .val (.int (2 : Int32)), .unset, .unset, .unset, .unset, .unset, .unset] [(.int (1 : Int32))]))
        refine own_leafN X32 hx hlk (t := .boolean) Bd.returns (by simp) (hb hby at_295) (z' := (1 : Int32)) rfl (by decide) (show 52 + sl1 + sl2 ≤ 157376 from hr2) ?_
        show Q0 Z  h0 n0 _ T32.heap _
        rw [show T32.heap = T22.heap from e32]
        refine ⟨?_, N32⟩
        show (some (.int (1 : Int32)) : Option Value) = some (.int (1 : Int32))
        rfl
    · skip
      refine OwnR.of (fun _ hr => XS.icmpNo X23.here hx rfl (hb hby at_123) rfl (flt hc123_24).2.2.1 hr) ?_
      show OwnR _ _ _ _ _ _ _ (T23.setTop (mkF m 126 #[.val (.long q1), .second, .val (.long q2), .second, .val (.long q3), .second, .val (.int p4), .val (.int p5), .val (.int (2 : Int32)), .val (.int pp), .val (.long (own_floor q1)), .second, .val (.long (own_floor q2)), .second, .val (.long (own_floor q3)), .second, .val (.ref b4), .val (.long (own_e2 pp (own_floor q1) (own_floor q2))), .second, .unset, .unset, .val (.int ((2 : Int32) * pp)), .unset, .unset, .unset, .unset, .unset, .unset, .unset] []))
      refine OwnR.of (fun _ hr => XS.iconst X23.here hx rfl (hb hby at_126) hr) ?_
      show OwnR _ _ _ _ _ _ _ (T23.setTop (mkF m 127 #[.val (.long q1), .second, .val (.long q2), .second, .val (.long q3), .second, .val (.int p4), .val (.int p5), .val (.int (2 : Int32)), .val (.int pp), .val (.long (own_floor q1)), .second, .val (.long (own_floor q2)), .second, .val (.long (own_floor q3)), .second, .val (.ref b4), .val (.long (own_e2 pp (own_floor q1) (own_floor q2))), .second, .unset, .unset, .val (.int ((2 : Int32) * pp)), .unset, .unset, .unset, .unset, .unset, .unset, .unset] [(.int (1 : Int32))]))
      refine OwnR.of (fun _ hr => XS.goto X23.here hx rfl (pc0 := 127) (pc' := 143) rfl (hb hby at_127) (by decide) (by decide) hr) ?_
      show OwnR _ _ _ _ _ _ _ (T23.setTop (mkF m 143 #[.val (.long q1), .second, .val (.long q2), .second, .val (.long q3), .second, .val (.int p4), .val (.int p5), .val (.int (2 : Int32)), .val (.int pp), .val (.long (own_floor q1)), .second, .val (.long (own_floor q2)), .second, .val (.long (own_floor q3)), .second, .val (.ref b4), .val (.long (own_e2 pp (own_floor q1) (own_floor q2))), .second, .unset, .unset, .val (.int ((2 : Int32) * pp)), .unset, .unset, .unset, .unset, .unset, .unset, .unset] [(.int (1 : Int32))]))
      refine OwnR.of (fun _ hr => XS.istore X23.here hx rfl (hb hby at_143) rfl (l' := #[.val (.long q1), .second, .val (.long q2), .second, .val (.long q3), .second, .val (.int p4), .val (.int p5), .val (.int (2 : Int32)), .val (.int pp), .val (.long (own_floor q1)), .second, .val (.long (own_floor q2)), .second, .val (.long (own_floor q3)), .second, .val (.ref b4), .val (.long (own_e2 pp (own_floor q1) (own_floor q2))), .second, .unset, .unset, .val (.int ((2 : Int32) * pp)), .val (.int (1 : Int32)), .unset, .unset, .unset, .unset, .unset, .unset]) rfl hr) ?_
      show OwnR _ _ _ _ _ _ _ (T23.setTop (mkF m 145 #[.val (.long q1), .second, .val (.long q2), .second, .val (.long q3), .second, .val (.int p4), .val (.int p5), .val (.int (2 : Int32)), .val (.int pp), .val (.long (own_floor q1)), .second, .val (.long (own_floor q2)), .second, .val (.long (own_floor q3)), .second, .val (.ref b4), .val (.long (own_e2 pp (own_floor q1) (own_floor q2))), .second, .unset, .unset, .val (.int ((2 : Int32) * pp)), .val (.int (1 : Int32)), .unset, .unset, .unset, .unset, .unset, .unset] []))
      refine OwnR.of (fun _ hr => XS.iload X23.here hx rfl (hb hby at_145) rfl hr) ?_
      show OwnR _ _ _ _ _ _ _ (T23.setTop (mkF m 147 #[.val (.long q1), .second, .val (.long q2), .second, .val (.long q3), .second, .val (.int p4), .val (.int p5), .val (.int (2 : Int32)), .val (.int pp), .val (.long (own_floor q1)), .second, .val (.long (own_floor q2)), .second, .val (.long (own_floor q3)), .second, .val (.ref b4), .val (.long (own_e2 pp (own_floor q1) (own_floor q2))), .second, .unset, .unset, .val (.int ((2 : Int32) * pp)), .val (.int (1 : Int32)), .unset, .unset, .unset, .unset, .unset, .unset] [(.int (2 : Int32))]))
      refine OwnR.of (fun _ hr => XS.iconst X23.here hx rfl (hb hby at_147) hr) ?_
      show OwnR _ _ _ _ _ _ _ (T23.setTop (mkF m 148 #[.val (.long q1), .second, .val (.long q2), .second, .val (.long q3), .second, .val (.int p4), .val (.int p5), .val (.int (2 : Int32)), .val (.int pp), .val (.long (own_floor q1)), .second, .val (.long (own_floor q2)), .second, .val (.long (own_floor q3)), .second, .val (.ref b4), .val (.long (own_e2 pp (own_floor q1) (own_floor q2))), .second, .unset, .unset, .val (.int ((2 : Int32) * pp)), .val (.int (1 : Int32)), .unset, .unset, .unset, .unset, .unset, .unset] [(.int (1 : Int32)), (.int (2 : Int32))]))
      refine OwnR.of (fun _ hr => XS.icmpYes X23.here hx rfl (pc0 := 148) (pc' := 158) rfl (hb hby at_148) rfl (feq (by decide : ¬ ((2 : Int32) = (1 : Int32)))).2 (by decide) (by decide) hr) ?_
      show OwnR _ _ _ _ _ _ _ (T23.setTop (mkF m 158 #[.val (.long q1), .second, .val (.long q2), .second, .val (.long q3), .second, .val (.int p4), .val (.int p5), .val (.int (2 : Int32)), .val (.int pp), .val (.long (own_floor q1)), .second, .val (.long (own_floor q2)), .second, .val (.long (own_floor q3)), .second, .val (.ref b4), .val (.long (own_e2 pp (own_floor q1) (own_floor q2))), .second, .unset, .unset, .val (.int ((2 : Int32) * pp)), .val (.int (1 : Int32)), .unset, .unset, .unset, .unset, .unset, .unset] []))
      refine OwnR.of (fun _ hr => XS.iload X23.here hx rfl (hb hby at_158) rfl hr) ?_
      show OwnR _ _ _ _ _ _ _ (T23.setTop (mkF m 160 #[.val (.long q1), .second, .val (.long q2), .second, .val (.long q3), .second, .val (.int p4), .val (.int p5), .val (.int (2 : Int32)), .val (.int pp), .val (.long (own_floor q1)), .second, .val (.long (own_floor q2)), .second, .val (.long (own_floor q3)), .second, .val (.ref b4), .val (.long (own_e2 pp (own_floor q1) (own_floor q2))), .second, .unset, .unset, .val (.int ((2 : Int32) * pp)), .val (.int (1 : Int32)), .unset, .unset, .unset, .unset, .unset, .unset] [(.int (2 : Int32))]))
      refine OwnR.of (fun _ hr => XS.iconst X23.here hx rfl (hb hby at_160) hr) ?_
      show OwnR _ _ _ _ _ _ _ (T23.setTop (mkF m 161 #[.val (.long q1), .second, .val (.long q2), .second, .val (.long q3), .second, .val (.int p4), .val (.int p5), .val (.int (2 : Int32)), .val (.int pp), .val (.long (own_floor q1)), .second, .val (.long (own_floor q2)), .second, .val (.long (own_floor q3)), .second, .val (.ref b4), .val (.long (own_e2 pp (own_floor q1) (own_floor q2))), .second, .unset, .unset, .val (.int ((2 : Int32) * pp)), .val (.int (1 : Int32)), .unset, .unset, .unset, .unset, .unset, .unset] [(.int (2 : Int32)), (.int (2 : Int32))]))
      refine OwnR.of (fun _ hr => XS.icmpNo X23.here hx rfl (hb hby at_161) rfl (teq (by decide : (2 : Int32) = (2 : Int32))).2 hr) ?_
      show OwnR _ _ _ _ _ _ _ (T23.setTop (mkF m 164 #[.val (.long q1), .second, .val (.long q2), .second, .val (.long q3), .second, .val (.int p4), .val (.int p5), .val (.int (2 : Int32)), .val (.int pp), .val (.long (own_floor q1)), .second, .val (.long (own_floor q2)), .second, .val (.long (own_floor q3)), .second, .val (.ref b4), .val (.long (own_e2 pp (own_floor q1) (own_floor q2))), .second, .unset, .unset, .val (.int ((2 : Int32) * pp)), .val (.int (1 : Int32)), .unset, .unset, .unset, .unset, .unset, .unset] []))
      refine OwnR.of (fun _ hr => XS.iload X23.here hx rfl (hb hby at_164) rfl hr) ?_
      show OwnR _ _ _ _ _ _ _ (T23.setTop (mkF m 166 #[.val (.long q1), .second, .val (.long q2), .second, .val (.long q3), .second, .val (.int p4), .val (.int p5), .val (.int (2 : Int32)), .val (.int pp), .val (.long (own_floor q1)), .second, .val (.long (own_floor q2)), .second, .val (.long (own_floor q3)), .second, .val (.ref b4), .val (.long (own_e2 pp (own_floor q1) (own_floor q2))), .second, .unset, .unset, .val (.int ((2 : Int32) * pp)), .val (.int (1 : Int32)), .unset, .unset, .unset, .unset, .unset, .unset] [(.int (1 : Int32))]))
      refine OwnR.of (fun _ hr => XS.iconst X23.here hx rfl (hb hby at_166) hr) ?_
      show OwnR _ _ _ _ _ _ _ (T23.setTop (mkF m 167 #[.val (.long q1), .second, .val (.long q2), .second, .val (.long q3), .second, .val (.int p4), .val (.int p5), .val (.int (2 : Int32)), .val (.int pp), .val (.long (own_floor q1)), .second, .val (.long (own_floor q2)), .second, .val (.long (own_floor q3)), .second, .val (.ref b4), .val (.long (own_e2 pp (own_floor q1) (own_floor q2))), .second, .unset, .unset, .val (.int ((2 : Int32) * pp)), .val (.int (1 : Int32)), .unset, .unset, .unset, .unset, .unset, .unset] [(.int (1 : Int32)), (.int (1 : Int32))]))
      refine OwnR.of (fun _ hr => XS.icmpNo X23.here hx rfl (hb hby at_167) rfl (teq (by decide : (1 : Int32) = (1 : Int32))).2 hr) ?_
      show OwnR _ _ _ _ _ _ _ (T23.setTop (mkF m 170 #[.val (.long q1), .second, .val (.long q2), .second, .val (.long q3), .second, .val (.int p4), .val (.int p5), .val (.int (2 : Int32)), .val (.int pp), .val (.long (own_floor q1)), .second, .val (.long (own_floor q2)), .second, .val (.long (own_floor q3)), .second, .val (.ref b4), .val (.long (own_e2 pp (own_floor q1) (own_floor q2))), .second, .unset, .unset, .val (.int ((2 : Int32) * pp)), .val (.int (1 : Int32)), .unset, .unset, .unset, .unset, .unset, .unset] []))
      refine OwnR.of (fun _ hr => XS.lload X23.here hx rfl (hb hby at_170) rfl hr) ?_
      show OwnR _ _ _ _ _ _ _ (T23.setTop (mkF m 172 #[.val (.long q1), .second, .val (.long q2), .second, .val (.long q3), .second, .val (.int p4), .val (.int p5), .val (.int (2 : Int32)), .val (.int pp), .val (.long (own_floor q1)), .second, .val (.long (own_floor q2)), .second, .val (.long (own_floor q3)), .second, .val (.ref b4), .val (.long (own_e2 pp (own_floor q1) (own_floor q2))), .second, .unset, .unset, .val (.int ((2 : Int32) * pp)), .val (.int (1 : Int32)), .unset, .unset, .unset, .unset, .unset, .unset] [(.long (own_floor q1))]))
      refine OwnR.of (fun _ hr => XS.lload X23.here hx rfl (hb hby at_172) rfl hr) ?_
      show OwnR _ _ _ _ _ _ _ (T23.setTop (mkF m 174 #[.val (.long q1), .second, .val (.long q2), .second, .val (.long q3), .second, .val (.int p4), .val (.int p5), .val (.int (2 : Int32)), .val (.int pp), .val (.long (own_floor q1)), .second, .val (.long (own_floor q2)), .second, .val (.long (own_floor q3)), .second, .val (.ref b4), .val (.long (own_e2 pp (own_floor q1) (own_floor q2))), .second, .unset, .unset, .val (.int ((2 : Int32) * pp)), .val (.int (1 : Int32)), .unset, .unset, .unset, .unset, .unset, .unset] [(.long (own_floor q2)), (.long (own_floor q1))]))
      obtain ⟨_, _, ⟨T34, L34, kc34, ns34⟩, -, X34, ⟨Lc34, hQ34, l34, y34, z34⟩, st34⟩ := Jvm.LawKit.callS X23 hx (y := (⟨"java/lang/Math", "min", "(JJ)J"⟩ : MethodName)) hown (mvT hZ (hw _ (List.mem_of_getElem? (i := 77) rfl))) (mvT hZ (hw _ (List.mem_of_getElem? (i := 78) rfl))) (mvT hZ (hw _ (List.mem_of_getElem? (i := 41) rfl))) (mvT hZ (hw _ (List.mem_of_getElem? (i := 79) rfl))) (by decide) (backOf (W := 0) (rmMinJ l Z a0 hw [] (own_floor q1) (own_floor q2) (T22.heap) n0 (Nat.le_trans Z0 K22.1) ) hZ (hw _ (List.mem_of_getElem? (i := 79) rfl)) (hw _ (List.mem_of_getElem? (i := 41) rfl)) (by decide) (by decide)) (g := (mkF m 174 #[.val (.long q1), .second, .val (.long q2), .second, .val (.long q3), .second, .val (.int p4), .val (.int p5), .val (.int (2 : Int32)), .val (.int pp), .val (.long (own_floor q1)), .second, .val (.long (own_floor q2)), .second, .val (.long (own_floor q3)), .second, .val (.ref b4), .val (.long (own_e2 pp (own_floor q1) (own_floor q2))), .second, .unset, .unset, .val (.int ((2 : Int32) * pp)), .val (.int (1 : Int32)), .unset, .unset, .unset, .unset, .unset, .unset] [(.long (own_floor q2)), (.long (own_floor q1))])) rfl (by rw [hml]; rfl) (argsL := [(.long (own_floor q1)), (.long (own_floor q2))]) (rest := []) (lenOf pd__JJ_J rfl) rfl (by show 2 * 0 + _ ≤ _; exact Nat.le_of_eq rfl) (hb hby at_174) (fun _ _ => ⟨rfl, e23, (by decide : 4 + 0 ≤ _), (show 52 + sl1 + sl2 + 0 ≤ 157376 from hr2)⟩)
      dsimp only [Pt.U, Pt.locs, Pt.cells, Pt.slots] at X34 l34 y34 z34 st34 hQ34
      rw [l34, y34, z34] at X34
      obtain ⟨rfl, N34q, e34⟩ := hQ34
      have N34 := Fr.app N23 N34q
      refine OwnR.of (st34) ?_
      show OwnR _ _ _ _ _ _ _ (T34.setTop (mkF m 177 #[.val (.long q1), .second, .val (.long q2), .second, .val (.long q3), .second, .val (.int p4), .val (.int p5), .val (.int (2 : Int32)), .val (.int pp), .val (.long (own_floor q1)), .second, .val (.long (own_floor q2)), .second, .val (.long (own_floor q3)), .second, .val (.ref b4), .val (.long (own_e2 pp (own_floor q1) (own_floor q2))), .second, .unset, .unset, .val (.int ((2 : Int32) * pp)), .val (.int (1 : Int32)), .unset, .unset, .unset, .unset, .unset, .unset] [(.long (own_min (own_floor q1) (own_floor q2)))]))
      refine OwnR.of (fun _ hr => XS.goto X34.here hx rfl (pc0 := 177) (pc' := 187) rfl (hb hby at_177) (by decide) (by decide) hr) ?_
      show OwnR _ _ _ _ _ _ _ (T34.setTop (mkF m 187 #[.val (.long q1), .second, .val (.long q2), .second, .val (.long q3), .second, .val (.int p4), .val (.int p5), .val (.int (2 : Int32)), .val (.int pp), .val (.long (own_floor q1)), .second, .val (.long (own_floor q2)), .second, .val (.long (own_floor q3)), .second, .val (.ref b4), .val (.long (own_e2 pp (own_floor q1) (own_floor q2))), .second, .unset, .unset, .val (.int ((2 : Int32) * pp)), .val (.int (1 : Int32)), .unset, .unset, .unset, .unset, .unset, .unset] [(.long (own_min (own_floor q1) (own_floor q2)))]))
      refine OwnR.of (fun _ hr => XS.lstore X34.here hx rfl (hb hby at_187) rfl (l' := #[.val (.long q1), .second, .val (.long q2), .second, .val (.long q3), .second, .val (.int p4), .val (.int p5), .val (.int (2 : Int32)), .val (.int pp), .val (.long (own_floor q1)), .second, .val (.long (own_floor q2)), .second, .val (.long (own_floor q3)), .second, .val (.ref b4), .val (.long (own_e2 pp (own_floor q1) (own_floor q2))), .second, .val (.long (own_min (own_floor q1) (own_floor q2))), .second, .val (.int ((2 : Int32) * pp)), .val (.int (1 : Int32)), .unset, .unset, .unset, .unset, .unset, .unset]) rfl hr) ?_
      show OwnR _ _ _ _ _ _ _ (T34.setTop (mkF m 189 #[.val (.long q1), .second, .val (.long q2), .second, .val (.long q3), .second, .val (.int p4), .val (.int p5), .val (.int (2 : Int32)), .val (.int pp), .val (.long (own_floor q1)), .second, .val (.long (own_floor q2)), .second, .val (.long (own_floor q3)), .second, .val (.ref b4), .val (.long (own_e2 pp (own_floor q1) (own_floor q2))), .second, .val (.long (own_min (own_floor q1) (own_floor q2))), .second, .val (.int ((2 : Int32) * pp)), .val (.int (1 : Int32)), .unset, .unset, .unset, .unset, .unset, .unset] []))
      refine OwnR.of (fun _ hr => XS.goto X34.here hx rfl (pc0 := 189) (pc' := 270) rfl (hb hby at_189) (by decide) (by decide) hr) ?_
      show OwnR _ _ _ _ _ _ _ (T34.setTop (mkF m 270 #[.val (.long q1), .second, .val (.long q2), .second, .val (.long q3), .second, .val (.int p4), .val (.int p5), .val (.int (2 : Int32)), .val (.int pp), .val (.long (own_floor q1)), .second, .val (.long (own_floor q2)), .second, .val (.long (own_floor q3)), .second, .val (.ref b4), .val (.long (own_e2 pp (own_floor q1) (own_floor q2))), .second, .val (.long (own_min (own_floor q1) (own_floor q2))), .second, .val (.int ((2 : Int32) * pp)), .val (.int (1 : Int32)), .unset, .unset, .unset, .unset, .unset, .unset] []))
      refine OwnR.of (fun _ hr => XS.lload X34.here hx rfl (hb hby at_270) rfl hr) ?_
      show OwnR _ _ _ _ _ _ _ (T34.setTop (mkF m 272 #[.val (.long q1), .second, .val (.long q2), .second, .val (.long q3), .second, .val (.int p4), .val (.int p5), .val (.int (2 : Int32)), .val (.int pp), .val (.long (own_floor q1)), .second, .val (.long (own_floor q2)), .second, .val (.long (own_floor q3)), .second, .val (.ref b4), .val (.long (own_e2 pp (own_floor q1) (own_floor q2))), .second, .val (.long (own_min (own_floor q1) (own_floor q2))), .second, .val (.int ((2 : Int32) * pp)), .val (.int (1 : Int32)), .unset, .unset, .unset, .unset, .unset, .unset] [(.long (own_e2 pp (own_floor q1) (own_floor q2)))]))
      refine OwnR.of (fun _ hr => XS.lload X34.here hx rfl (hb hby at_272) rfl hr) ?_
      show OwnR _ _ _ _ _ _ _ (T34.setTop (mkF m 274 #[.val (.long q1), .second, .val (.long q2), .second, .val (.long q3), .second, .val (.int p4), .val (.int p5), .val (.int (2 : Int32)), .val (.int pp), .val (.long (own_floor q1)), .second, .val (.long (own_floor q2)), .second, .val (.long (own_floor q3)), .second, .val (.ref b4), .val (.long (own_e2 pp (own_floor q1) (own_floor q2))), .second, .val (.long (own_min (own_floor q1) (own_floor q2))), .second, .val (.int ((2 : Int32) * pp)), .val (.int (1 : Int32)), .unset, .unset, .unset, .unset, .unset, .unset] [(.long (own_min (own_floor q1) (own_floor q2))), (.long (own_e2 pp (own_floor q1) (own_floor q2)))]))
      refine OwnR.of (fun _ hr => XS.lcmp X34.here hx rfl (hb hby at_274) rfl hr) ?_
      show OwnR _ _ _ _ _ _ _ (T34.setTop (mkF m 275 #[.val (.long q1), .second, .val (.long q2), .second, .val (.long q3), .second, .val (.int p4), .val (.int p5), .val (.int (2 : Int32)), .val (.int pp), .val (.long (own_floor q1)), .second, .val (.long (own_floor q2)), .second, .val (.long (own_floor q3)), .second, .val (.ref b4), .val (.long (own_e2 pp (own_floor q1) (own_floor q2))), .second, .val (.long (own_min (own_floor q1) (own_floor q2))), .second, .val (.int ((2 : Int32) * pp)), .val (.int (1 : Int32)), .unset, .unset, .unset, .unset, .unset, .unset] [(.int (lcmpW (own_e2 pp (own_floor q1) (own_floor q2)) (own_min (own_floor q1) (own_floor q2))))]))
      have hc275_35 : (own_e2 pp (own_floor q1) (own_floor q2)) = (own_min (own_floor q1) (own_floor q2)) := by
        refine Classical.byContradiction fun hbad => ?_
        exact hbad (by first | rfl | simp only [own_e2, own_e3, own_lo, own_mid, own_hi, if_neg hc123_24])
      refine OwnR.of (fun _ hr => XS.ifNo X34.here hx rfl (hb hby at_275) rfl ((if0 _ _).trans (teq ((own_lceq _ _).mpr hc275_35)).2) hr) ?_
      show OwnR _ _ _ _ _ _ _ (T34.setTop (mkF m 278 #[.val (.long q1), .second, .val (.long q2), .second, .val (.long q3), .second, .val (.int p4), .val (.int p5), .val (.int (2 : Int32)), .val (.int pp), .val (.long (own_floor q1)), .second, .val (.long (own_floor q2)), .second, .val (.long (own_floor q3)), .second, .val (.ref b4), .val (.long (own_e2 pp (own_floor q1) (own_floor q2))), .second, .val (.long (own_min (own_floor q1) (own_floor q2))), .second, .val (.int ((2 : Int32) * pp)), .val (.int (1 : Int32)), .unset, .unset, .unset, .unset, .unset, .unset] []))
      refine OwnR.of (fun _ hr => XS.aload X34.here hx rfl (hb hby at_278) rfl rfl hr) ?_
      show OwnR _ _ _ _ _ _ _ (T34.setTop (mkF m 280 #[.val (.long q1), .second, .val (.long q2), .second, .val (.long q3), .second, .val (.int p4), .val (.int p5), .val (.int (2 : Int32)), .val (.int pp), .val (.long (own_floor q1)), .second, .val (.long (own_floor q2)), .second, .val (.long (own_floor q3)), .second, .val (.ref b4), .val (.long (own_e2 pp (own_floor q1) (own_floor q2))), .second, .val (.long (own_min (own_floor q1) (own_floor q2))), .second, .val (.int ((2 : Int32) * pp)), .val (.int (1 : Int32)), .unset, .unset, .unset, .unset, .unset, .unset] [(.ref b4)]))
      obtain ⟨cq36, kq36, q36a, q36b, q36c⟩ := isOf hZ e34 P22_0
      obtain ⟨_, _, ⟨T36, L36, kc36, ns36⟩, -, X36, ⟨Lc36, hQ36, l36, y36, z36⟩, st36⟩ := X34.virtualBack hx (y := (⟨"com/example/kurir/kurir/bench/Latencies", "count", "()J"⟩ : MethodName)) (z := (⟨"com/example/kurir/kurir/bench/Latencies", "count", "()J"⟩ : MethodName)) hown (mvT hZ (hw _ (List.mem_of_getElem? (i := 81) rfl))) (mvT hZ (hw _ (List.mem_of_getElem? (i := 82) rfl))) (notFace_of_selects (args := #[]) (mvT hZ (hw _ (List.mem_of_getElem? (i := 84) rfl)))) (mvT hZ (hw _ (List.mem_of_getElem? (i := 84) rfl))) (mvT hZ (hw _ (List.mem_of_getElem? (i := 83) rfl))) (by decide) (backOf (W := 0) (rmCount l Z a0 hw [] b4 (((0 : Int64) + (1 : Int64)) + (1 : Int64)) (T22.heap) n0 (Nat.le_trans Z0 K22.1) P22_0 P22_2) hZ (hw _ (List.mem_of_getElem? (i := 85) rfl)) (hw _ (List.mem_of_getElem? (i := 16) rfl)) (by decide) (by decide)) q36a q36c (g := (mkF m 280 #[.val (.long q1), .second, .val (.long q2), .second, .val (.long q3), .second, .val (.int p4), .val (.int p5), .val (.int (2 : Int32)), .val (.int pp), .val (.long (own_floor q1)), .second, .val (.long (own_floor q2)), .second, .val (.long (own_floor q3)), .second, .val (.ref b4), .val (.long (own_e2 pp (own_floor q1) (own_floor q2))), .second, .val (.long (own_min (own_floor q1) (own_floor q2))), .second, .val (.int ((2 : Int32) * pp)), .val (.int (1 : Int32)), .unset, .unset, .unset, .unset, .unset, .unset] [(.ref b4)])) rfl (by rw [hml]; rfl) (Steps.refl _) (argsL := []) (rest := []) (lenOf pd___J rfl) rfl (by show 2 * 0 + _ ≤ _; exact Nat.le_of_eq rfl) (hb hby at_280) (fun _ _ => ⟨rfl, e34, (by decide : 4 + 0 ≤ _), (show 52 + sl1 + sl2 + 0 ≤ 157376 from hr2)⟩)
      dsimp only [Pt.U, Pt.locs, Pt.cells, Pt.slots] at X36 l36 y36 z36 st36 hQ36
      rw [l36, y36, z36] at X36
      obtain ⟨rfl, N36q, e36⟩ := hQ36
      have N36 := Fr.app N34 N36q
      refine OwnR.of (fun _ hr => st36.trans hr) ?_
      show OwnR _ _ _ _ _ _ _ (T36.setTop (mkF m 283 #[.val (.long q1), .second, .val (.long q2), .second, .val (.long q3), .second, .val (.int p4), .val (.int p5), .val (.int (2 : Int32)), .val (.int pp), .val (.long (own_floor q1)), .second, .val (.long (own_floor q2)), .second, .val (.long (own_floor q3)), .second, .val (.ref b4), .val (.long (own_e2 pp (own_floor q1) (own_floor q2))), .second, .val (.long (own_min (own_floor q1) (own_floor q2))), .second, .val (.int ((2 : Int32) * pp)), .val (.int (1 : Int32)), .unset, .unset, .unset, .unset, .unset, .unset] [(.long (((0 : Int64) + (1 : Int64)) + (1 : Int64)))]))
      refine OwnR.of (fun _ hr => XS.iload X36.here hx rfl (hb hby at_283) rfl hr) ?_
      show OwnR _ _ _ _ _ _ _ (T36.setTop (mkF m 285 #[.val (.long q1), .second, .val (.long q2), .second, .val (.long q3), .second, .val (.int p4), .val (.int p5), .val (.int (2 : Int32)), .val (.int pp), .val (.long (own_floor q1)), .second, .val (.long (own_floor q2)), .second, .val (.long (own_floor q3)), .second, .val (.ref b4), .val (.long (own_e2 pp (own_floor q1) (own_floor q2))), .second, .val (.long (own_min (own_floor q1) (own_floor q2))), .second, .val (.int ((2 : Int32) * pp)), .val (.int (1 : Int32)), .unset, .unset, .unset, .unset, .unset, .unset] [(.int (2 : Int32)), (.long (((0 : Int64) + (1 : Int64)) + (1 : Int64)))]))
      refine OwnR.of (fun _ hr => XS.i2l X36.here hx rfl (hb hby at_285) rfl hr) ?_
      show OwnR _ _ _ _ _ _ _ (T36.setTop (mkF m 286 #[.val (.long q1), .second, .val (.long q2), .second, .val (.long q3), .second, .val (.int p4), .val (.int p5), .val (.int (2 : Int32)), .val (.int pp), .val (.long (own_floor q1)), .second, .val (.long (own_floor q2)), .second, .val (.long (own_floor q3)), .second, .val (.ref b4), .val (.long (own_e2 pp (own_floor q1) (own_floor q2))), .second, .val (.long (own_min (own_floor q1) (own_floor q2))), .second, .val (.int ((2 : Int32) * pp)), .val (.int (1 : Int32)), .unset, .unset, .unset, .unset, .unset, .unset] [(.long ((2 : Int32).toInt64)), (.long (((0 : Int64) + (1 : Int64)) + (1 : Int64)))]))
      rw [(by decide : ((2 : Int32).toInt64) = (2 : Int64))]
      show OwnR _ _ _ _ _ _ _ (T36.setTop (mkF m 286 #[.val (.long q1), .second, .val (.long q2), .second, .val (.long q3), .second, .val (.int p4), .val (.int p5), .val (.int (2 : Int32)), .val (.int pp), .val (.long (own_floor q1)), .second, .val (.long (own_floor q2)), .second, .val (.long (own_floor q3)), .second, .val (.ref b4), .val (.long (own_e2 pp (own_floor q1) (own_floor q2))), .second, .val (.long (own_min (own_floor q1) (own_floor q2))), .second, .val (.int ((2 : Int32) * pp)), .val (.int (1 : Int32)), .unset, .unset, .unset, .unset, .unset, .unset] [(.long (2 : Int64)), (.long (((0 : Int64) + (1 : Int64)) + (1 : Int64)))]))
      refine OwnR.of (fun _ hr => XS.lcmp X36.here hx rfl (hb hby at_286) rfl hr) ?_
      show OwnR _ _ _ _ _ _ _ (T36.setTop (mkF m 287 #[.val (.long q1), .second, .val (.long q2), .second, .val (.long q3), .second, .val (.int p4), .val (.int p5), .val (.int (2 : Int32)), .val (.int pp), .val (.long (own_floor q1)), .second, .val (.long (own_floor q2)), .second, .val (.long (own_floor q3)), .second, .val (.ref b4), .val (.long (own_e2 pp (own_floor q1) (own_floor q2))), .second, .val (.long (own_min (own_floor q1) (own_floor q2))), .second, .val (.int ((2 : Int32) * pp)), .val (.int (1 : Int32)), .unset, .unset, .unset, .unset, .unset, .unset] [(.int (lcmpW (((0 : Int64) + (1 : Int64)) + (1 : Int64)) (2 : Int64)))]))
      have hc287_37 : (((0 : Int64) + (1 : Int64)) + (1 : Int64)) = (2 : Int64) := by
        refine Classical.byContradiction fun hbad => ?_
        exact hbad (by decide)
      refine OwnR.of (fun _ hr => XS.ifNo X36.here hx rfl (hb hby at_287) rfl ((if0 _ _).trans (teq ((own_lceq _ _).mpr hc287_37)).2) hr) ?_
      show OwnR _ _ _ _ _ _ _ (T36.setTop (mkF m 290 #[.val (.long q1), .second, .val (.long q2), .second, .val (.long q3), .second, .val (.int p4), .val (.int p5), .val (.int (2 : Int32)), .val (.int pp), .val (.long (own_floor q1)), .second, .val (.long (own_floor q2)), .second, .val (.long (own_floor q3)), .second, .val (.ref b4), .val (.long (own_e2 pp (own_floor q1) (own_floor q2))), .second, .val (.long (own_min (own_floor q1) (own_floor q2))), .second, .val (.int ((2 : Int32) * pp)), .val (.int (1 : Int32)), .unset, .unset, .unset, .unset, .unset, .unset] []))
      refine OwnR.of (fun _ hr => XS.iconst X36.here hx rfl (hb hby at_290) hr) ?_
      show OwnR _ _ _ _ _ _ _ (T36.setTop (mkF m 291 #[.val (.long q1), .second, .val (.long q2), .second, .val (.long q3), .second, .val (.int p4), .val (.int p5), .val (.int (2 : Int32)), .val (.int pp), .val (.long (own_floor q1)), .second, .val (.long (own_floor q2)), .second, .val (.long (own_floor q3)), .second, .val (.ref b4), .val (.long (own_e2 pp (own_floor q1) (own_floor q2))), .second, .val (.long (own_min (own_floor q1) (own_floor q2))), .second, .val (.int ((2 : Int32) * pp)), .val (.int (1 : Int32)), .unset, .unset, .unset, .unset, .unset, .unset] [(.int (1 : Int32))]))
      refine OwnR.of (fun _ hr => XS.goto X36.here hx rfl (pc0 := 291) (pc' := 295) rfl (hb hby at_291) (by decide) (by decide) hr) ?_
      show OwnR _ _ _ _ _ _ _ (T36.setTop (mkF m 295 #[.val (.long q1), .second, .val (.long q2), .second, .val (.long q3), .second, .val (.int p4), .val (.int p5), .val (.int (2 : Int32)), .val (.int pp), .val (.long (own_floor q1)), .second, .val (.long (own_floor q2)), .second, .val (.long (own_floor q3)), .second, .val (.ref b4), .val (.long (own_e2 pp (own_floor q1) (own_floor q2))), .second, .val (.long (own_min (own_floor q1) (own_floor q2))), .second, .val (.int ((2 : Int32) * pp)), .val (.int (1 : Int32)), .unset, .unset, .unset, .unset, .unset, .unset] [(.int (1 : Int32))]))
      refine own_leafN X36 hx hlk (t := .boolean) Bd.returns (by simp) (hb hby at_295) (z' := (1 : Int32)) rfl (by decide) (show 52 + sl1 + sl2 ≤ 157376 from hr2) ?_
      show Q0 Z  h0 n0 _ T36.heap _
      rw [show T36.heap = T22.heap from e36]
      refine ⟨?_, N36⟩
      show (some (.int (1 : Int32)) : Option Value) = some (.int (1 : Int32))
      rfl
  · skip
    show OwnR _ _ _ _ _ _ _ (T5.setTop (mkF m 46 #[.val (.long q1), .second, .val (.long q2), .second, .val (.long q3), .second, .val (.int p4), .val (.int p5), .val (.int (3 : Int32)), .val (.int pp), .val (.long (own_floor q1)), .second, .val (.long (own_floor q2)), .second, .val (.long (own_floor q3)), .second, .val (.ref b4), .unset, .unset, .unset, .unset, .unset, .unset, .unset, .unset, .unset, .unset, .unset, .unset] []))
    refine OwnR.of (fun _ hr => XS.iload X5.here hx rfl (hb hby at_46) rfl hr) ?_
    show OwnR _ _ _ _ _ _ _ (T5.setTop (mkF m 48 #[.val (.long q1), .second, .val (.long q2), .second, .val (.long q3), .second, .val (.int p4), .val (.int p5), .val (.int (3 : Int32)), .val (.int pp), .val (.long (own_floor q1)), .second, .val (.long (own_floor q2)), .second, .val (.long (own_floor q3)), .second, .val (.ref b4), .unset, .unset, .unset, .unset, .unset, .unset, .unset, .unset, .unset, .unset, .unset, .unset] [(.int (3 : Int32))]))
    refine OwnR.of (fun _ hr => XS.iconst X5.here hx rfl (hb hby at_48) hr) ?_
    show OwnR _ _ _ _ _ _ _ (T5.setTop (mkF m 49 #[.val (.long q1), .second, .val (.long q2), .second, .val (.long q3), .second, .val (.int p4), .val (.int p5), .val (.int (3 : Int32)), .val (.int pp), .val (.long (own_floor q1)), .second, .val (.long (own_floor q2)), .second, .val (.long (own_floor q3)), .second, .val (.ref b4), .unset, .unset, .unset, .unset, .unset, .unset, .unset, .unset, .unset, .unset, .unset, .unset] [(.int (1 : Int32)), (.int (3 : Int32))]))
    refine OwnR.of (fun _ hr => XS.icmpNo X5.here hx rfl (hb hby at_49) rfl (flt (by decide : ¬ ((3 : Int32) < (1 : Int32)))).1 hr) ?_
    show OwnR _ _ _ _ _ _ _ (T5.setTop (mkF m 52 #[.val (.long q1), .second, .val (.long q2), .second, .val (.long q3), .second, .val (.int p4), .val (.int p5), .val (.int (3 : Int32)), .val (.int pp), .val (.long (own_floor q1)), .second, .val (.long (own_floor q2)), .second, .val (.long (own_floor q3)), .second, .val (.ref b4), .unset, .unset, .unset, .unset, .unset, .unset, .unset, .unset, .unset, .unset, .unset, .unset] []))
    refine OwnR.of (fun _ hr => XS.aload X5.here hx rfl (hb hby at_52) rfl rfl hr) ?_
    show OwnR _ _ _ _ _ _ _ (T5.setTop (mkF m 54 #[.val (.long q1), .second, .val (.long q2), .second, .val (.long q3), .second, .val (.int p4), .val (.int p5), .val (.int (3 : Int32)), .val (.int pp), .val (.long (own_floor q1)), .second, .val (.long (own_floor q2)), .second, .val (.long (own_floor q3)), .second, .val (.ref b4), .unset, .unset, .unset, .unset, .unset, .unset, .unset, .unset, .unset, .unset, .unset, .unset] [(.ref b4)]))
    refine OwnR.of (fun _ hr => XS.lloadN X5.here hx rfl (hb hby at_54) rfl hr) ?_
    show OwnR _ _ _ _ _ _ _ (T5.setTop (mkF m 55 #[.val (.long q1), .second, .val (.long q2), .second, .val (.long q3), .second, .val (.int p4), .val (.int p5), .val (.int (3 : Int32)), .val (.int pp), .val (.long (own_floor q1)), .second, .val (.long (own_floor q2)), .second, .val (.long (own_floor q3)), .second, .val (.ref b4), .unset, .unset, .unset, .unset, .unset, .unset, .unset, .unset, .unset, .unset, .unset, .unset] [(.long q1), (.ref b4)]))
    obtain ⟨_, _, ⟨T38, L38, kc38, ns38⟩, -, X38, ⟨Lc38, hQ38, l38, y38, z38⟩, st38⟩ := Jvm.LawKit.callS X5 hx (y := (⟨"com/example/kurir/kurir/bench/LatenciesPercentileMicrosPinLaw", "nanosOf", "(J)J"⟩ : MethodName)) hown (mvT hZ (hw _ (List.mem_of_getElem? (i := 29) rfl))) (mvT hZ (hw _ (List.mem_of_getElem? (i := 30) rfl))) (mvT hZ (hw _ (List.mem_of_getElem? (i := 3) rfl))) (mvT hZ (hw _ (List.mem_of_getElem? (i := 31) rfl))) (by decide) (backOf (W := 1) (rmNanos l Z a0 hw [] q1 (T5.heap) n0 (Nat.le_trans Z0 K5.1) ) hZ (hw _ (List.mem_of_getElem? (i := 31) rfl)) (hw _ (List.mem_of_getElem? (i := 3) rfl)) (by decide) (by decide)) (g := (mkF m 55 #[.val (.long q1), .second, .val (.long q2), .second, .val (.long q3), .second, .val (.int p4), .val (.int p5), .val (.int (3 : Int32)), .val (.int pp), .val (.long (own_floor q1)), .second, .val (.long (own_floor q2)), .second, .val (.long (own_floor q3)), .second, .val (.ref b4), .unset, .unset, .unset, .unset, .unset, .unset, .unset, .unset, .unset, .unset, .unset, .unset] [(.long q1), (.ref b4)])) rfl (by rw [hml]; rfl) (argsL := [(.long q1)]) (rest := [(.ref b4)]) (lenOf pd__J_J rfl) rfl (by show 2 * 0 + _ ≤ _; exact Nat.le_of_eq rfl) (hb hby at_55) (fun _ _ => ⟨rfl, rfl, (by decide : 2 + 0 ≤ _), (show 52 + 0 ≤ 157376 from (by decide))⟩)
    dsimp only [Pt.U, Pt.locs, Pt.cells, Pt.slots] at X38 l38 y38 z38 st38 hQ38
    rw [l38, y38, z38] at X38
    obtain ⟨rfl, N38q, e38⟩ := hQ38
    have N38 := Fr.app N5 N38q
    refine OwnR.of (st38) ?_
    show OwnR _ _ _ _ _ _ _ (T38.setTop (mkF m 58 #[.val (.long q1), .second, .val (.long q2), .second, .val (.long q3), .second, .val (.int p4), .val (.int p5), .val (.int (3 : Int32)), .val (.int pp), .val (.long (own_floor q1)), .second, .val (.long (own_floor q2)), .second, .val (.long (own_floor q3)), .second, .val (.ref b4), .unset, .unset, .unset, .unset, .unset, .unset, .unset, .unset, .unset, .unset, .unset, .unset] [(.long (own_nanos q1)), (.ref b4)]))
    obtain ⟨sl1, hsl1⟩ : ∃ z, z = own_cost ((fun _ => Value.null) m1) m1 := ⟨_, rfl⟩
    have hr1 := own_r1 hsl1
    obtain ⟨cq39, kq39, q39a, q39b, q39c⟩ := isOf hZ e38 P5_1
    obtain ⟨_, _, ⟨T39, L39, kc39, ns39⟩, -, X39, ⟨Lc39, hQ39, l39, y39, z39⟩, st39⟩ := X38.virtualBack hx (y := (⟨"com/example/kurir/kurir/bench/Latencies", "add", "(J)V"⟩ : MethodName)) (z := (⟨"com/example/kurir/kurir/bench/Latencies", "add", "(J)V"⟩ : MethodName)) hown (mvT hZ (hw _ (List.mem_of_getElem? (i := 34) rfl))) (mvT hZ (hw _ (List.mem_of_getElem? (i := 35) rfl))) (notFace_of_selects (args := #[]) (mvT hZ (hw _ (List.mem_of_getElem? (i := 37) rfl)))) (mvT hZ (hw _ (List.mem_of_getElem? (i := 37) rfl))) (mvT hZ (hw _ (List.mem_of_getElem? (i := 36) rfl))) (by decide) (backOf (W := 0) (rmAdd l Z a0 hw [] b4 (own_nanos q1) A_5 kA_5 n0 (fun _ => Value.null) ([]) (0 : Int64) (0 : Int64) mc1 mI1 iI1 m1 j1 sl1 (T5.heap) n0 (Nat.le_trans Z0 K5.1) P5_1 P5_2 P5_3 P5_4 P5_7 P5_8 (OwnHi.start P5_5) P5_6 (Nat.le_refl n0) (Nat.le_trans Z0 K5.1) gn_b4 P5_10 (Nat.ne_of_lt (Nat.lt_of_lt_of_le A4.lt P5_9)) hmc1 hm1 hmn1 hm01 hm491 hi1 hjn1 hi01 hil1 hsl1) hZ (hw _ (List.mem_of_getElem? (i := 38) rfl)) (hw _ (List.mem_of_getElem? (i := 16) rfl)) (Nat.le_of_ble_eq_true rfl) (Nat.le_of_ble_eq_true rfl)) q39a q39c (g := (mkF m 58 #[.val (.long q1), .second, .val (.long q2), .second, .val (.long q3), .second, .val (.int p4), .val (.int p5), .val (.int (3 : Int32)), .val (.int pp), .val (.long (own_floor q1)), .second, .val (.long (own_floor q2)), .second, .val (.long (own_floor q3)), .second, .val (.ref b4), .unset, .unset, .unset, .unset, .unset, .unset, .unset, .unset, .unset, .unset, .unset, .unset] [(.long (own_nanos q1)), (.ref b4)])) rfl (by rw [hml]; rfl) (Steps.refl _) (argsL := [(.long (own_nanos q1))]) (rest := []) (lenOf pd__J_V rfl) rfl (by show 2 * 0 + _ ≤ _; exact Nat.le_of_eq rfl) (hb hby at_58) (fun _ _ => ⟨rfl, e38, (by decide : 2 + 1 ≤ _), (show 52 + sl1 ≤ 157376 from hr1)⟩)
    dsimp only [Pt.U, Pt.locs, Pt.cells, Pt.slots] at X39 l39 y39 z39 st39 hQ39
    rw [l39, y39, z39] at X39
    obtain ⟨B2_39, rfl, N39q, P39_0, P39_1, P39_2, P39_3, P39_4, P39_5, P39_6, P39_7, P39_8⟩ := hQ39
    have K39 : h0.size ≤ T39.heap.size ∧ True := ⟨Nat.le_trans K5.1 P39_8, trivial⟩
    have N39 := Fr.app N38 N39q
    refine OwnR.of (fun _ hr => st39.trans hr) ?_
    show OwnR _ _ _ _ _ _ _ (T39.setTop (mkF m 61 #[.val (.long q1), .second, .val (.long q2), .second, .val (.long q3), .second, .val (.int p4), .val (.int p5), .val (.int (3 : Int32)), .val (.int pp), .val (.long (own_floor q1)), .second, .val (.long (own_floor q2)), .second, .val (.long (own_floor q3)), .second, .val (.ref b4), .unset, .unset, .unset, .unset, .unset, .unset, .unset, .unset, .unset, .unset, .unset, .unset] []))
    have Bp1 := P39_5
    refine OwnR.of (fun _ hr => XS.iload X39.here hx rfl (hb hby at_61) rfl hr) ?_
    show OwnR _ _ _ _ _ _ _ (T39.setTop (mkF m 63 #[.val (.long q1), .second, .val (.long q2), .second, .val (.long q3), .second, .val (.int p4), .val (.int p5), .val (.int (3 : Int32)), .val (.int pp), .val (.long (own_floor q1)), .second, .val (.long (own_floor q2)), .second, .val (.long (own_floor q3)), .second, .val (.ref b4), .unset, .unset, .unset, .unset, .unset, .unset, .unset, .unset, .unset, .unset, .unset, .unset] [(.int (3 : Int32))]))
    refine OwnR.of (fun _ hr => XS.iconst X39.here hx rfl (hb hby at_63) hr) ?_
    show OwnR _ _ _ _ _ _ _ (T39.setTop (mkF m 64 #[.val (.long q1), .second, .val (.long q2), .second, .val (.long q3), .second, .val (.int p4), .val (.int p5), .val (.int (3 : Int32)), .val (.int pp), .val (.long (own_floor q1)), .second, .val (.long (own_floor q2)), .second, .val (.long (own_floor q3)), .second, .val (.ref b4), .unset, .unset, .unset, .unset, .unset, .unset, .unset, .unset, .unset, .unset, .unset, .unset] [(.int (2 : Int32)), (.int (3 : Int32))]))
    refine OwnR.of (fun _ hr => XS.icmpNo X39.here hx rfl (hb hby at_64) rfl (flt (by decide : ¬ ((3 : Int32) < (2 : Int32)))).1 hr) ?_
    show OwnR _ _ _ _ _ _ _ (T39.setTop (mkF m 67 #[.val (.long q1), .second, .val (.long q2), .second, .val (.long q3), .second, .val (.int p4), .val (.int p5), .val (.int (3 : Int32)), .val (.int pp), .val (.long (own_floor q1)), .second, .val (.long (own_floor q2)), .second, .val (.long (own_floor q3)), .second, .val (.ref b4), .unset, .unset, .unset, .unset, .unset, .unset, .unset, .unset, .unset, .unset, .unset, .unset] []))
    refine OwnR.of (fun _ hr => XS.aload X39.here hx rfl (hb hby at_67) rfl rfl hr) ?_
    show OwnR _ _ _ _ _ _ _ (T39.setTop (mkF m 69 #[.val (.long q1), .second, .val (.long q2), .second, .val (.long q3), .second, .val (.int p4), .val (.int p5), .val (.int (3 : Int32)), .val (.int pp), .val (.long (own_floor q1)), .second, .val (.long (own_floor q2)), .second, .val (.long (own_floor q3)), .second, .val (.ref b4), .unset, .unset, .unset, .unset, .unset, .unset, .unset, .unset, .unset, .unset, .unset, .unset] [(.ref b4)]))
    refine OwnR.of (fun _ hr => XS.lloadN X39.here hx rfl (hb hby at_69) rfl hr) ?_
    show OwnR _ _ _ _ _ _ _ (T39.setTop (mkF m 70 #[.val (.long q1), .second, .val (.long q2), .second, .val (.long q3), .second, .val (.int p4), .val (.int p5), .val (.int (3 : Int32)), .val (.int pp), .val (.long (own_floor q1)), .second, .val (.long (own_floor q2)), .second, .val (.long (own_floor q3)), .second, .val (.ref b4), .unset, .unset, .unset, .unset, .unset, .unset, .unset, .unset, .unset, .unset, .unset, .unset] [(.long q2), (.ref b4)]))
    obtain ⟨_, _, ⟨T40, L40, kc40, ns40⟩, -, X40, ⟨Lc40, hQ40, l40, y40, z40⟩, st40⟩ := Jvm.LawKit.callS X39 hx (y := (⟨"com/example/kurir/kurir/bench/LatenciesPercentileMicrosPinLaw", "nanosOf", "(J)J"⟩ : MethodName)) hown (mvT hZ (hw _ (List.mem_of_getElem? (i := 29) rfl))) (mvT hZ (hw _ (List.mem_of_getElem? (i := 30) rfl))) (mvT hZ (hw _ (List.mem_of_getElem? (i := 3) rfl))) (mvT hZ (hw _ (List.mem_of_getElem? (i := 31) rfl))) (by decide) (backOf (W := 1) (rmNanos l Z a0 hw [] q2 (T39.heap) n0 (Nat.le_trans Z0 K39.1) ) hZ (hw _ (List.mem_of_getElem? (i := 31) rfl)) (hw _ (List.mem_of_getElem? (i := 3) rfl)) (by decide) (by decide)) (g := (mkF m 70 #[.val (.long q1), .second, .val (.long q2), .second, .val (.long q3), .second, .val (.int p4), .val (.int p5), .val (.int (3 : Int32)), .val (.int pp), .val (.long (own_floor q1)), .second, .val (.long (own_floor q2)), .second, .val (.long (own_floor q3)), .second, .val (.ref b4), .unset, .unset, .unset, .unset, .unset, .unset, .unset, .unset, .unset, .unset, .unset, .unset] [(.long q2), (.ref b4)])) rfl (by rw [hml]; rfl) (argsL := [(.long q2)]) (rest := [(.ref b4)]) (lenOf pd__J_J rfl) rfl (by show 2 * 0 + _ ≤ _; exact Nat.le_of_eq rfl) (hb hby at_70) (fun _ _ => ⟨rfl, rfl, (by decide : 3 + 0 ≤ _), (show 52 + sl1 + 0 ≤ 157376 from hr1)⟩)
    dsimp only [Pt.U, Pt.locs, Pt.cells, Pt.slots] at X40 l40 y40 z40 st40 hQ40
    rw [l40, y40, z40] at X40
    obtain ⟨rfl, N40q, e40⟩ := hQ40
    have N40 := Fr.app N39 N40q
    refine OwnR.of (st40) ?_
    show OwnR _ _ _ _ _ _ _ (T40.setTop (mkF m 73 #[.val (.long q1), .second, .val (.long q2), .second, .val (.long q3), .second, .val (.int p4), .val (.int p5), .val (.int (3 : Int32)), .val (.int pp), .val (.long (own_floor q1)), .second, .val (.long (own_floor q2)), .second, .val (.long (own_floor q3)), .second, .val (.ref b4), .unset, .unset, .unset, .unset, .unset, .unset, .unset, .unset, .unset, .unset, .unset, .unset] [(.long (own_nanos q2)), (.ref b4)]))
    obtain ⟨sl2, hsl2⟩ : ∃ z, z = own_cost (B2_39 m2) m2 := ⟨_, rfl⟩
    have hr2 := own_r2 (B0 := (fun _ => Value.null)) hsl1 Bp1 hsl2
    obtain ⟨cq41, kq41, q41a, q41b, q41c⟩ := isOf hZ e40 P39_0
    obtain ⟨_, _, ⟨T41, L41, kc41, ns41⟩, -, X41, ⟨Lc41, hQ41, l41, y41, z41⟩, st41⟩ := X40.virtualBack hx (y := (⟨"com/example/kurir/kurir/bench/Latencies", "add", "(J)V"⟩ : MethodName)) (z := (⟨"com/example/kurir/kurir/bench/Latencies", "add", "(J)V"⟩ : MethodName)) hown (mvT hZ (hw _ (List.mem_of_getElem? (i := 34) rfl))) (mvT hZ (hw _ (List.mem_of_getElem? (i := 35) rfl))) (notFace_of_selects (args := #[]) (mvT hZ (hw _ (List.mem_of_getElem? (i := 37) rfl)))) (mvT hZ (hw _ (List.mem_of_getElem? (i := 37) rfl))) (mvT hZ (hw _ (List.mem_of_getElem? (i := 36) rfl))) (by decide) (backOf (W := 0) (rmAdd l Z a0 hw [] b4 (own_nanos q2) A_5 kA_5 n0 B2_39 ([(m1, j1)]) ((0 : Int64) + (1 : Int64)) (own_max (0 : Int64) mc1) mc2 mI2 iI2 m2 j2 sl2 (T39.heap) n0 (Nat.le_trans Z0 K39.1) P39_0 P39_1 P39_2 P39_3 P39_6 P39_7 P39_4 P5_6 (Nat.le_refl n0) (Nat.le_trans Z0 K39.1) gn_b4 P5_10 (Nat.ne_of_lt (Nat.lt_of_lt_of_le A4.lt P5_9)) hmc2 hm2 hmn2 hm02 hm492 hi2 hjn2 hi02 hil2 hsl2) hZ (hw _ (List.mem_of_getElem? (i := 38) rfl)) (hw _ (List.mem_of_getElem? (i := 16) rfl)) (Nat.le_of_ble_eq_true rfl) (Nat.le_of_ble_eq_true rfl)) q41a q41c (g := (mkF m 73 #[.val (.long q1), .second, .val (.long q2), .second, .val (.long q3), .second, .val (.int p4), .val (.int p5), .val (.int (3 : Int32)), .val (.int pp), .val (.long (own_floor q1)), .second, .val (.long (own_floor q2)), .second, .val (.long (own_floor q3)), .second, .val (.ref b4), .unset, .unset, .unset, .unset, .unset, .unset, .unset, .unset, .unset, .unset, .unset, .unset] [(.long (own_nanos q2)), (.ref b4)])) rfl (by rw [hml]; rfl) (Steps.refl _) (argsL := [(.long (own_nanos q2))]) (rest := []) (lenOf pd__J_V rfl) rfl (by show 2 * 0 + _ ≤ _; exact Nat.le_of_eq rfl) (hb hby at_73) (fun _ _ => ⟨rfl, e40, (by decide : 3 + 1 ≤ _), (show 52 + sl1 + sl2 ≤ 157376 from hr2)⟩)
    dsimp only [Pt.U, Pt.locs, Pt.cells, Pt.slots] at X41 l41 y41 z41 st41 hQ41
    rw [l41, y41, z41] at X41
    obtain ⟨B2_41, rfl, N41q, P41_0, P41_1, P41_2, P41_3, P41_4, P41_5, P41_6, P41_7, P41_8⟩ := hQ41
    have K41 : h0.size ≤ T41.heap.size ∧ True := ⟨Nat.le_trans K39.1 P41_8, trivial⟩
    have N41 := Fr.app N40 N41q
    refine OwnR.of (fun _ hr => st41.trans hr) ?_
    show OwnR _ _ _ _ _ _ _ (T41.setTop (mkF m 76 #[.val (.long q1), .second, .val (.long q2), .second, .val (.long q3), .second, .val (.int p4), .val (.int p5), .val (.int (3 : Int32)), .val (.int pp), .val (.long (own_floor q1)), .second, .val (.long (own_floor q2)), .second, .val (.long (own_floor q3)), .second, .val (.ref b4), .unset, .unset, .unset, .unset, .unset, .unset, .unset, .unset, .unset, .unset, .unset, .unset] []))
    have Bp2 := P41_5
    refine OwnR.of (fun _ hr => XS.iload X41.here hx rfl (hb hby at_76) rfl hr) ?_
    show OwnR _ _ _ _ _ _ _ (T41.setTop (mkF m 78 #[.val (.long q1), .second, .val (.long q2), .second, .val (.long q3), .second, .val (.int p4), .val (.int p5), .val (.int (3 : Int32)), .val (.int pp), .val (.long (own_floor q1)), .second, .val (.long (own_floor q2)), .second, .val (.long (own_floor q3)), .second, .val (.ref b4), .unset, .unset, .unset, .unset, .unset, .unset, .unset, .unset, .unset, .unset, .unset, .unset] [(.int (3 : Int32))]))
    refine OwnR.of (fun _ hr => XS.iconst X41.here hx rfl (hb hby at_78) hr) ?_
    show OwnR _ _ _ _ _ _ _ (T41.setTop (mkF m 79 #[.val (.long q1), .second, .val (.long q2), .second, .val (.long q3), .second, .val (.int p4), .val (.int p5), .val (.int (3 : Int32)), .val (.int pp), .val (.long (own_floor q1)), .second, .val (.long (own_floor q2)), .second, .val (.long (own_floor q3)), .second, .val (.ref b4), .unset, .unset, .unset, .unset, .unset, .unset, .unset, .unset, .unset, .unset, .unset, .unset] [(.int (3 : Int32)), (.int (3 : Int32))]))
    refine OwnR.of (fun _ hr => XS.icmpNo X41.here hx rfl (hb hby at_79) rfl (flt (by decide : ¬ ((3 : Int32) < (3 : Int32)))).1 hr) ?_
    show OwnR _ _ _ _ _ _ _ (T41.setTop (mkF m 82 #[.val (.long q1), .second, .val (.long q2), .second, .val (.long q3), .second, .val (.int p4), .val (.int p5), .val (.int (3 : Int32)), .val (.int pp), .val (.long (own_floor q1)), .second, .val (.long (own_floor q2)), .second, .val (.long (own_floor q3)), .second, .val (.ref b4), .unset, .unset, .unset, .unset, .unset, .unset, .unset, .unset, .unset, .unset, .unset, .unset] []))
    refine OwnR.of (fun _ hr => XS.aload X41.here hx rfl (hb hby at_82) rfl rfl hr) ?_
    show OwnR _ _ _ _ _ _ _ (T41.setTop (mkF m 84 #[.val (.long q1), .second, .val (.long q2), .second, .val (.long q3), .second, .val (.int p4), .val (.int p5), .val (.int (3 : Int32)), .val (.int pp), .val (.long (own_floor q1)), .second, .val (.long (own_floor q2)), .second, .val (.long (own_floor q3)), .second, .val (.ref b4), .unset, .unset, .unset, .unset, .unset, .unset, .unset, .unset, .unset, .unset, .unset, .unset] [(.ref b4)]))
    refine OwnR.of (fun _ hr => XS.lload X41.here hx rfl (hb hby at_84) rfl hr) ?_
    show OwnR _ _ _ _ _ _ _ (T41.setTop (mkF m 86 #[.val (.long q1), .second, .val (.long q2), .second, .val (.long q3), .second, .val (.int p4), .val (.int p5), .val (.int (3 : Int32)), .val (.int pp), .val (.long (own_floor q1)), .second, .val (.long (own_floor q2)), .second, .val (.long (own_floor q3)), .second, .val (.ref b4), .unset, .unset, .unset, .unset, .unset, .unset, .unset, .unset, .unset, .unset, .unset, .unset] [(.long q3), (.ref b4)]))
    obtain ⟨_, _, ⟨T42, L42, kc42, ns42⟩, -, X42, ⟨Lc42, hQ42, l42, y42, z42⟩, st42⟩ := Jvm.LawKit.callS X41 hx (y := (⟨"com/example/kurir/kurir/bench/LatenciesPercentileMicrosPinLaw", "nanosOf", "(J)J"⟩ : MethodName)) hown (mvT hZ (hw _ (List.mem_of_getElem? (i := 29) rfl))) (mvT hZ (hw _ (List.mem_of_getElem? (i := 30) rfl))) (mvT hZ (hw _ (List.mem_of_getElem? (i := 3) rfl))) (mvT hZ (hw _ (List.mem_of_getElem? (i := 31) rfl))) (by decide) (backOf (W := 1) (rmNanos l Z a0 hw [] q3 (T41.heap) n0 (Nat.le_trans Z0 K41.1) ) hZ (hw _ (List.mem_of_getElem? (i := 31) rfl)) (hw _ (List.mem_of_getElem? (i := 3) rfl)) (by decide) (by decide)) (g := (mkF m 86 #[.val (.long q1), .second, .val (.long q2), .second, .val (.long q3), .second, .val (.int p4), .val (.int p5), .val (.int (3 : Int32)), .val (.int pp), .val (.long (own_floor q1)), .second, .val (.long (own_floor q2)), .second, .val (.long (own_floor q3)), .second, .val (.ref b4), .unset, .unset, .unset, .unset, .unset, .unset, .unset, .unset, .unset, .unset, .unset, .unset] [(.long q3), (.ref b4)])) rfl (by rw [hml]; rfl) (argsL := [(.long q3)]) (rest := [(.ref b4)]) (lenOf pd__J_J rfl) rfl (by show 2 * 0 + _ ≤ _; exact Nat.le_of_eq rfl) (hb hby at_86) (fun _ _ => ⟨rfl, rfl, (by decide : 4 + 0 ≤ _), (show 52 + sl1 + sl2 + 0 ≤ 157376 from hr2)⟩)
    dsimp only [Pt.U, Pt.locs, Pt.cells, Pt.slots] at X42 l42 y42 z42 st42 hQ42
    rw [l42, y42, z42] at X42
    obtain ⟨rfl, N42q, e42⟩ := hQ42
    have N42 := Fr.app N41 N42q
    refine OwnR.of (st42) ?_
    show OwnR _ _ _ _ _ _ _ (T42.setTop (mkF m 89 #[.val (.long q1), .second, .val (.long q2), .second, .val (.long q3), .second, .val (.int p4), .val (.int p5), .val (.int (3 : Int32)), .val (.int pp), .val (.long (own_floor q1)), .second, .val (.long (own_floor q2)), .second, .val (.long (own_floor q3)), .second, .val (.ref b4), .unset, .unset, .unset, .unset, .unset, .unset, .unset, .unset, .unset, .unset, .unset, .unset] [(.long (own_nanos q3)), (.ref b4)]))
    obtain ⟨sl3, hsl3⟩ : ∃ z, z = own_cost (B2_41 m3) m3 := ⟨_, rfl⟩
    have hr3 := own_r3 (B0 := (fun _ => Value.null)) hsl1 Bp1 hsl2 Bp2 hsl3
    obtain ⟨cq43, kq43, q43a, q43b, q43c⟩ := isOf hZ e42 P41_0
    obtain ⟨_, _, ⟨T43, L43, kc43, ns43⟩, -, X43, ⟨Lc43, hQ43, l43, y43, z43⟩, st43⟩ := X42.virtualBack hx (y := (⟨"com/example/kurir/kurir/bench/Latencies", "add", "(J)V"⟩ : MethodName)) (z := (⟨"com/example/kurir/kurir/bench/Latencies", "add", "(J)V"⟩ : MethodName)) hown (mvT hZ (hw _ (List.mem_of_getElem? (i := 34) rfl))) (mvT hZ (hw _ (List.mem_of_getElem? (i := 35) rfl))) (notFace_of_selects (args := #[]) (mvT hZ (hw _ (List.mem_of_getElem? (i := 37) rfl)))) (mvT hZ (hw _ (List.mem_of_getElem? (i := 37) rfl))) (mvT hZ (hw _ (List.mem_of_getElem? (i := 36) rfl))) (by decide) (backOf (W := 0) (rmAdd l Z a0 hw [] b4 (own_nanos q3) A_5 kA_5 n0 B2_41 ([(m2, j2), (m1, j1)]) (((0 : Int64) + (1 : Int64)) + (1 : Int64)) (own_max (own_max (0 : Int64) mc1) mc2) mc3 mI3 iI3 m3 j3 sl3 (T41.heap) n0 (Nat.le_trans Z0 K41.1) P41_0 P41_1 P41_2 P41_3 P41_6 P41_7 P41_4 P5_6 (Nat.le_refl n0) (Nat.le_trans Z0 K41.1) gn_b4 P5_10 (Nat.ne_of_lt (Nat.lt_of_lt_of_le A4.lt P5_9)) hmc3 hm3 hmn3 hm03 hm493 hi3 hjn3 hi03 hil3 hsl3) hZ (hw _ (List.mem_of_getElem? (i := 38) rfl)) (hw _ (List.mem_of_getElem? (i := 16) rfl)) (Nat.le_of_ble_eq_true rfl) (Nat.le_of_ble_eq_true rfl)) q43a q43c (g := (mkF m 89 #[.val (.long q1), .second, .val (.long q2), .second, .val (.long q3), .second, .val (.int p4), .val (.int p5), .val (.int (3 : Int32)), .val (.int pp), .val (.long (own_floor q1)), .second, .val (.long (own_floor q2)), .second, .val (.long (own_floor q3)), .second, .val (.ref b4), .unset, .unset, .unset, .unset, .unset, .unset, .unset, .unset, .unset, .unset, .unset, .unset] [(.long (own_nanos q3)), (.ref b4)])) rfl (by rw [hml]; rfl) (Steps.refl _) (argsL := [(.long (own_nanos q3))]) (rest := []) (lenOf pd__J_V rfl) rfl (by show 2 * 0 + _ ≤ _; exact Nat.le_of_eq rfl) (hb hby at_89) (fun _ _ => ⟨rfl, e42, (by decide : 4 + 1 ≤ _), (show 52 + sl1 + sl2 + sl3 ≤ 157376 from hr3)⟩)
    dsimp only [Pt.U, Pt.locs, Pt.cells, Pt.slots] at X43 l43 y43 z43 st43 hQ43
    rw [l43, y43, z43] at X43
    obtain ⟨B2_43, rfl, N43q, P43_0, P43_1, P43_2, P43_3, P43_4, P43_5, P43_6, P43_7, P43_8⟩ := hQ43
    have K43 : h0.size ≤ T43.heap.size ∧ True := ⟨Nat.le_trans K41.1 P43_8, trivial⟩
    have N43 := Fr.app N42 N43q
    refine OwnR.of (fun _ hr => st43.trans hr) ?_
    show OwnR _ _ _ _ _ _ _ (T43.setTop (mkF m 92 #[.val (.long q1), .second, .val (.long q2), .second, .val (.long q3), .second, .val (.int p4), .val (.int p5), .val (.int (3 : Int32)), .val (.int pp), .val (.long (own_floor q1)), .second, .val (.long (own_floor q2)), .second, .val (.long (own_floor q3)), .second, .val (.ref b4), .unset, .unset, .unset, .unset, .unset, .unset, .unset, .unset, .unset, .unset, .unset, .unset] []))
    have Bp3 := P43_5
    refine OwnR.of (fun _ hr => XS.aload X43.here hx rfl (hb hby at_92) rfl rfl hr) ?_
    show OwnR _ _ _ _ _ _ _ (T43.setTop (mkF m 94 #[.val (.long q1), .second, .val (.long q2), .second, .val (.long q3), .second, .val (.int p4), .val (.int p5), .val (.int (3 : Int32)), .val (.int pp), .val (.long (own_floor q1)), .second, .val (.long (own_floor q2)), .second, .val (.long (own_floor q3)), .second, .val (.ref b4), .unset, .unset, .unset, .unset, .unset, .unset, .unset, .unset, .unset, .unset, .unset, .unset] [(.ref b4)]))
    refine OwnR.of (fun _ hr => XS.iload X43.here hx rfl (hb hby at_94) rfl hr) ?_
    show OwnR _ _ _ _ _ _ _ (T43.setTop (mkF m 96 #[.val (.long q1), .second, .val (.long q2), .second, .val (.long q3), .second, .val (.int p4), .val (.int p5), .val (.int (3 : Int32)), .val (.int pp), .val (.long (own_floor q1)), .second, .val (.long (own_floor q2)), .second, .val (.long (own_floor q3)), .second, .val (.ref b4), .unset, .unset, .unset, .unset, .unset, .unset, .unset, .unset, .unset, .unset, .unset, .unset] [(.int pp), (.ref b4)]))
    obtain ⟨cq44, kq44, q44a, q44b, q44c⟩ := isOf hZ rfl P43_0
    obtain ⟨_, _, ⟨T44, L44, kc44, ns44⟩, -, X44, ⟨Lc44, hQ44, l44, y44, z44⟩, st44⟩ := X43.virtualBack hx (y := (⟨"com/example/kurir/kurir/bench/Latencies", "percentileMicros", "(I)J"⟩ : MethodName)) (z := (⟨"com/example/kurir/kurir/bench/Latencies", "percentileMicros", "(I)J"⟩ : MethodName)) hown (mvT hZ (hw _ (List.mem_of_getElem? (i := 70) rfl))) (mvT hZ (hw _ (List.mem_of_getElem? (i := 71) rfl))) (notFace_of_selects (args := #[]) (mvT hZ (hw _ (List.mem_of_getElem? (i := 73) rfl)))) (mvT hZ (hw _ (List.mem_of_getElem? (i := 73) rfl))) (mvT hZ (hw _ (List.mem_of_getElem? (i := 72) rfl))) (by decide) (backOf (W := 0) (rmPct l Z a0 hw [] b4 pp A_5 kA_5 n0 B2_43 ([(m3, j3), (m2, j2), (m1, j1)]) ((((0 : Int64) + (1 : Int64)) + (1 : Int64)) + (1 : Int64)) (own_max (own_max (own_max (0 : Int64) mc1) mc2) mc3) (((((((0 : Int64) + (1 : Int64)) + (1 : Int64)) + (1 : Int64)) * pp.toInt64) + (99 : Int64)) / (100 : Int64)) (own_e3 pp (own_floor q1) (own_floor q2) (own_floor q3)) (T43.heap) n0 (Nat.le_trans Z0 K43.1) P43_0 P43_1 P43_2 P43_3 P43_6 P43_7 P43_4 rfl (own_I3 ky1 ky2 ky3 bpp)) hZ (hw _ (List.mem_of_getElem? (i := 74) rfl)) (hw _ (List.mem_of_getElem? (i := 16) rfl)) (by decide) (by decide)) q44a q44c (g := (mkF m 96 #[.val (.long q1), .second, .val (.long q2), .second, .val (.long q3), .second, .val (.int p4), .val (.int p5), .val (.int (3 : Int32)), .val (.int pp), .val (.long (own_floor q1)), .second, .val (.long (own_floor q2)), .second, .val (.long (own_floor q3)), .second, .val (.ref b4), .unset, .unset, .unset, .unset, .unset, .unset, .unset, .unset, .unset, .unset, .unset, .unset] [(.int pp), (.ref b4)])) rfl (by rw [hml]; rfl) (Steps.refl _) (argsL := [(.int pp)]) (rest := []) (lenOf pd__I_J rfl) rfl (by show 2 * 0 + _ ≤ _; exact Nat.le_of_eq rfl) (hb hby at_96) (fun _ _ => ⟨rfl, rfl, (by decide : 5 + 0 ≤ _), (show 52 + sl1 + sl2 + sl3 + 0 ≤ 157376 from hr3)⟩)
    dsimp only [Pt.U, Pt.locs, Pt.cells, Pt.slots] at X44 l44 y44 z44 st44 hQ44
    rw [l44, y44, z44] at X44
    obtain ⟨rfl, N44q, e44⟩ := hQ44
    have N44 := Fr.app N43 N44q
    refine OwnR.of (fun _ hr => st44.trans hr) ?_
    show OwnR _ _ _ _ _ _ _ (T44.setTop (mkF m 99 #[.val (.long q1), .second, .val (.long q2), .second, .val (.long q3), .second, .val (.int p4), .val (.int p5), .val (.int (3 : Int32)), .val (.int pp), .val (.long (own_floor q1)), .second, .val (.long (own_floor q2)), .second, .val (.long (own_floor q3)), .second, .val (.ref b4), .unset, .unset, .unset, .unset, .unset, .unset, .unset, .unset, .unset, .unset, .unset, .unset] [(.long (own_e3 pp (own_floor q1) (own_floor q2) (own_floor q3)))]))
    refine OwnR.of (fun _ hr => XS.lstore X44.here hx rfl (hb hby at_99) rfl (l' := #[.val (.long q1), .second, .val (.long q2), .second, .val (.long q3), .second, .val (.int p4), .val (.int p5), .val (.int (3 : Int32)), .val (.int pp), .val (.long (own_floor q1)), .second, .val (.long (own_floor q2)), .second, .val (.long (own_floor q3)), .second, .val (.ref b4), .val (.long (own_e3 pp (own_floor q1) (own_floor q2) (own_floor q3))), .second, .unset, .unset, .unset, .unset, .unset, .unset, .unset, .unset, .unset, .unset]) rfl hr) ?_
    show OwnR _ _ _ _ _ _ _ (T44.setTop (mkF m 101 #[.val (.long q1), .second, .val (.long q2), .second, .val (.long q3), .second, .val (.int p4), .val (.int p5), .val (.int (3 : Int32)), .val (.int pp), .val (.long (own_floor q1)), .second, .val (.long (own_floor q2)), .second, .val (.long (own_floor q3)), .second, .val (.ref b4), .val (.long (own_e3 pp (own_floor q1) (own_floor q2) (own_floor q3))), .second, .unset, .unset, .unset, .unset, .unset, .unset, .unset, .unset, .unset, .unset] []))
    refine OwnR.of (fun _ hr => XS.iload X44.here hx rfl (hb hby at_101) rfl hr) ?_
    show OwnR _ _ _ _ _ _ _ (T44.setTop (mkF m 103 #[.val (.long q1), .second, .val (.long q2), .second, .val (.long q3), .second, .val (.int p4), .val (.int p5), .val (.int (3 : Int32)), .val (.int pp), .val (.long (own_floor q1)), .second, .val (.long (own_floor q2)), .second, .val (.long (own_floor q3)), .second, .val (.ref b4), .val (.long (own_e3 pp (own_floor q1) (own_floor q2) (own_floor q3))), .second, .unset, .unset, .unset, .unset, .unset, .unset, .unset, .unset, .unset, .unset] [(.int (3 : Int32))]))
    refine OwnR.of (fun _ hr => XS.ifYes X44.here hx rfl (pc0 := 103) (pc' := 112) rfl (hb hby at_103) rfl ((if0 _ _).trans (feq (by decide : ¬ ((3 : Int32) = (0 : Int32)))).2) (by decide) (by decide) hr) ?_
    show OwnR _ _ _ _ _ _ _ (T44.setTop (mkF m 112 #[.val (.long q1), .second, .val (.long q2), .second, .val (.long q3), .second, .val (.int p4), .val (.int p5), .val (.int (3 : Int32)), .val (.int pp), .val (.long (own_floor q1)), .second, .val (.long (own_floor q2)), .second, .val (.long (own_floor q3)), .second, .val (.ref b4), .val (.long (own_e3 pp (own_floor q1) (own_floor q2) (own_floor q3))), .second, .unset, .unset, .unset, .unset, .unset, .unset, .unset, .unset, .unset, .unset] []))
    refine OwnR.of (fun _ hr => XS.iload X44.here hx rfl (hb hby at_112) rfl hr) ?_
    show OwnR _ _ _ _ _ _ _ (T44.setTop (mkF m 114 #[.val (.long q1), .second, .val (.long q2), .second, .val (.long q3), .second, .val (.int p4), .val (.int p5), .val (.int (3 : Int32)), .val (.int pp), .val (.long (own_floor q1)), .second, .val (.long (own_floor q2)), .second, .val (.long (own_floor q3)), .second, .val (.ref b4), .val (.long (own_e3 pp (own_floor q1) (own_floor q2) (own_floor q3))), .second, .unset, .unset, .unset, .unset, .unset, .unset, .unset, .unset, .unset, .unset] [(.int (3 : Int32))]))
    refine OwnR.of (fun _ hr => XS.iload X44.here hx rfl (hb hby at_114) rfl hr) ?_
    show OwnR _ _ _ _ _ _ _ (T44.setTop (mkF m 116 #[.val (.long q1), .second, .val (.long q2), .second, .val (.long q3), .second, .val (.int p4), .val (.int p5), .val (.int (3 : Int32)), .val (.int pp), .val (.long (own_floor q1)), .second, .val (.long (own_floor q2)), .second, .val (.long (own_floor q3)), .second, .val (.ref b4), .val (.long (own_e3 pp (own_floor q1) (own_floor q2) (own_floor q3))), .second, .unset, .unset, .unset, .unset, .unset, .unset, .unset, .unset, .unset, .unset] [(.int pp), (.int (3 : Int32))]))
    refine OwnR.of (fun _ hr => XS.imul X44.here hx rfl (hb hby at_116) rfl hr) ?_
    show OwnR _ _ _ _ _ _ _ (T44.setTop (mkF m 117 #[.val (.long q1), .second, .val (.long q2), .second, .val (.long q3), .second, .val (.int p4), .val (.int p5), .val (.int (3 : Int32)), .val (.int pp), .val (.long (own_floor q1)), .second, .val (.long (own_floor q2)), .second, .val (.long (own_floor q3)), .second, .val (.ref b4), .val (.long (own_e3 pp (own_floor q1) (own_floor q2) (own_floor q3))), .second, .unset, .unset, .unset, .unset, .unset, .unset, .unset, .unset, .unset, .unset] [(.int ((3 : Int32) * pp))]))
    refine OwnR.of (fun _ hr => XS.istore X44.here hx rfl (hb hby at_117) rfl (l' := #[.val (.long q1), .second, .val (.long q2), .second, .val (.long q3), .second, .val (.int p4), .val (.int p5), .val (.int (3 : Int32)), .val (.int pp), .val (.long (own_floor q1)), .second, .val (.long (own_floor q2)), .second, .val (.long (own_floor q3)), .second, .val (.ref b4), .val (.long (own_e3 pp (own_floor q1) (own_floor q2) (own_floor q3))), .second, .unset, .unset, .val (.int ((3 : Int32) * pp)), .unset, .unset, .unset, .unset, .unset, .unset, .unset]) rfl hr) ?_
    show OwnR _ _ _ _ _ _ _ (T44.setTop (mkF m 119 #[.val (.long q1), .second, .val (.long q2), .second, .val (.long q3), .second, .val (.int p4), .val (.int p5), .val (.int (3 : Int32)), .val (.int pp), .val (.long (own_floor q1)), .second, .val (.long (own_floor q2)), .second, .val (.long (own_floor q3)), .second, .val (.ref b4), .val (.long (own_e3 pp (own_floor q1) (own_floor q2) (own_floor q3))), .second, .unset, .unset, .val (.int ((3 : Int32) * pp)), .unset, .unset, .unset, .unset, .unset, .unset, .unset] []))
    refine OwnR.of (fun _ hr => XS.iload X44.here hx rfl (hb hby at_119) rfl hr) ?_
    show OwnR _ _ _ _ _ _ _ (T44.setTop (mkF m 121 #[.val (.long q1), .second, .val (.long q2), .second, .val (.long q3), .second, .val (.int p4), .val (.int p5), .val (.int (3 : Int32)), .val (.int pp), .val (.long (own_floor q1)), .second, .val (.long (own_floor q2)), .second, .val (.long (own_floor q3)), .second, .val (.ref b4), .val (.long (own_e3 pp (own_floor q1) (own_floor q2) (own_floor q3))), .second, .unset, .unset, .val (.int ((3 : Int32) * pp)), .unset, .unset, .unset, .unset, .unset, .unset, .unset] [(.int ((3 : Int32) * pp))]))
    refine OwnR.of (fun _ hr => XS.bipush X44.here hx rfl (hb hby at_121) hr) ?_
    show OwnR _ _ _ _ _ _ _ (T44.setTop (mkF m 123 #[.val (.long q1), .second, .val (.long q2), .second, .val (.long q3), .second, .val (.int p4), .val (.int p5), .val (.int (3 : Int32)), .val (.int pp), .val (.long (own_floor q1)), .second, .val (.long (own_floor q2)), .second, .val (.long (own_floor q3)), .second, .val (.ref b4), .val (.long (own_e3 pp (own_floor q1) (own_floor q2) (own_floor q3))), .second, .unset, .unset, .val (.int ((3 : Int32) * pp)), .unset, .unset, .unset, .unset, .unset, .unset, .unset] [(.int (100 : Int32)), (.int ((3 : Int32) * pp))]))
    by_cases hc123_45 : (100 : Int32) < ((3 : Int32) * pp)
    · skip
      refine OwnR.of (fun _ hr => XS.icmpYes X44.here hx rfl (pc0 := 123) (pc' := 130) rfl (hb hby at_123) rfl (tlt hc123_45).2.2.1 (by decide) (by decide) hr) ?_
      show OwnR _ _ _ _ _ _ _ (T44.setTop (mkF m 130 #[.val (.long q1), .second, .val (.long q2), .second, .val (.long q3), .second, .val (.int p4), .val (.int p5), .val (.int (3 : Int32)), .val (.int pp), .val (.long (own_floor q1)), .second, .val (.long (own_floor q2)), .second, .val (.long (own_floor q3)), .second, .val (.ref b4), .val (.long (own_e3 pp (own_floor q1) (own_floor q2) (own_floor q3))), .second, .unset, .unset, .val (.int ((3 : Int32) * pp)), .unset, .unset, .unset, .unset, .unset, .unset, .unset] []))
      refine OwnR.of (fun _ hr => XS.iload X44.here hx rfl (hb hby at_130) rfl hr) ?_
      show OwnR _ _ _ _ _ _ _ (T44.setTop (mkF m 132 #[.val (.long q1), .second, .val (.long q2), .second, .val (.long q3), .second, .val (.int p4), .val (.int p5), .val (.int (3 : Int32)), .val (.int pp), .val (.long (own_floor q1)), .second, .val (.long (own_floor q2)), .second, .val (.long (own_floor q3)), .second, .val (.ref b4), .val (.long (own_e3 pp (own_floor q1) (own_floor q2) (own_floor q3))), .second, .unset, .unset, .val (.int ((3 : Int32) * pp)), .unset, .unset, .unset, .unset, .unset, .unset, .unset] [(.int ((3 : Int32) * pp))]))
      refine OwnR.of (fun _ hr => XS.sipush X44.here hx rfl (hb hby at_132) hr) ?_
      show OwnR _ _ _ _ _ _ _ (T44.setTop (mkF m 135 #[.val (.long q1), .second, .val (.long q2), .second, .val (.long q3), .second, .val (.int p4), .val (.int p5), .val (.int (3 : Int32)), .val (.int pp), .val (.long (own_floor q1)), .second, .val (.long (own_floor q2)), .second, .val (.long (own_floor q3)), .second, .val (.ref b4), .val (.long (own_e3 pp (own_floor q1) (own_floor q2) (own_floor q3))), .second, .unset, .unset, .val (.int ((3 : Int32) * pp)), .unset, .unset, .unset, .unset, .unset, .unset, .unset] [(.int (200 : Int32)), (.int ((3 : Int32) * pp))]))
      by_cases hc135_46 : (200 : Int32) < ((3 : Int32) * pp)
      · skip
        refine OwnR.of (fun _ hr => XS.icmpYes X44.here hx rfl (pc0 := 135) (pc' := 142) rfl (hb hby at_135) rfl (tlt hc135_46).2.2.1 (by decide) (by decide) hr) ?_
        show OwnR _ _ _ _ _ _ _ (T44.setTop (mkF m 142 #[.val (.long q1), .second, .val (.long q2), .second, .val (.long q3), .second, .val (.int p4), .val (.int p5), .val (.int (3 : Int32)), .val (.int pp), .val (.long (own_floor q1)), .second, .val (.long (own_floor q2)), .second, .val (.long (own_floor q3)), .second, .val (.ref b4), .val (.long (own_e3 pp (own_floor q1) (own_floor q2) (own_floor q3))), .second, .unset, .unset, .val (.int ((3 : Int32) * pp)), .unset, .unset, .unset, .unset, .unset, .unset, .unset] []))
        refine OwnR.of (fun _ hr => XS.iconst X44.here hx rfl (hb hby at_142) hr) ?_
        show OwnR _ _ _ _ _ _ _ (T44.setTop (mkF m 143 #[.val (.long q1), .second, .val (.long q2), .second, .val (.long q3), .second, .val (.int p4), .val (.int p5), .val (.int (3 : Int32)), .val (.int pp), .val (.long (own_floor q1)), .second, .val (.long (own_floor q2)), .second, .val (.long (own_floor q3)), .second, .val (.ref b4), .val (.long (own_e3 pp (own_floor q1) (own_floor q2) (own_floor q3))), .second, .unset, .unset, .val (.int ((3 : Int32) * pp)), .unset, .unset, .unset, .unset, .unset, .unset, .unset] [(.int (3 : Int32))]))
        refine OwnR.of (fun _ hr => XS.istore X44.here hx rfl (hb hby at_143) rfl (l' := #[.val (.long q1), .second, .val (.long q2), .second, .val (.long q3), .second, .val (.int p4), .val (.int p5), .val (.int (3 : Int32)), .val (.int pp), .val (.long (own_floor q1)), .second, .val (.long (own_floor q2)), .second, .val (.long (own_floor q3)), .second, .val (.ref b4), .val (.long (own_e3 pp (own_floor q1) (own_floor q2) (own_floor q3))), .second, .unset, .unset, .val (.int ((3 : Int32) * pp)), .val (.int (3 : Int32)), .unset, .unset, .unset, .unset, .unset, .unset]) rfl hr) ?_
        show OwnR _ _ _ _ _ _ _ (T44.setTop (mkF m 145 #[.val (.long q1), .second, .val (.long q2), .second, .val (.long q3), .second, .val (.int p4), .val (.int p5), .val (.int (3 : Int32)), .val (.int pp), .val (.long (own_floor q1)), .second, .val (.long (own_floor q2)), .second, .val (.long (own_floor q3)), .second, .val (.ref b4), .val (.long (own_e3 pp (own_floor q1) (own_floor q2) (own_floor q3))), .second, .unset, .unset, .val (.int ((3 : Int32) * pp)), .val (.int (3 : Int32)), .unset, .unset, .unset, .unset, .unset, .unset] []))
        refine OwnR.of (fun _ hr => XS.iload X44.here hx rfl (hb hby at_145) rfl hr) ?_
        show OwnR _ _ _ _ _ _ _ (T44.setTop (mkF m 147 #[.val (.long q1), .second, .val (.long q2), .second, .val (.long q3), .second, .val (.int p4), .val (.int p5), .val (.int (3 : Int32)), .val (.int pp), .val (.long (own_floor q1)), .second, .val (.long (own_floor q2)), .second, .val (.long (own_floor q3)), .second, .val (.ref b4), .val (.long (own_e3 pp (own_floor q1) (own_floor q2) (own_floor q3))), .second, .unset, .unset, .val (.int ((3 : Int32) * pp)), .val (.int (3 : Int32)), .unset, .unset, .unset, .unset, .unset, .unset] [(.int (3 : Int32))]))
        refine OwnR.of (fun _ hr => XS.iconst X44.here hx rfl (hb hby at_147) hr) ?_
        show OwnR _ _ _ _ _ _ _ (T44.setTop (mkF m 148 #[.val (.long q1), .second, .val (.long q2), .second, .val (.long q3), .second, .val (.int p4), .val (.int p5), .val (.int (3 : Int32)), .val (.int pp), .val (.long (own_floor q1)), .second, .val (.long (own_floor q2)), .second, .val (.long (own_floor q3)), .second, .val (.ref b4), .val (.long (own_e3 pp (own_floor q1) (own_floor q2) (own_floor q3))), .second, .unset, .unset, .val (.int ((3 : Int32) * pp)), .val (.int (3 : Int32)), .unset, .unset, .unset, .unset, .unset, .unset] [(.int (1 : Int32)), (.int (3 : Int32))]))
        refine OwnR.of (fun _ hr => XS.icmpYes X44.here hx rfl (pc0 := 148) (pc' := 158) rfl (hb hby at_148) rfl (feq (by decide : ¬ ((3 : Int32) = (1 : Int32)))).2 (by decide) (by decide) hr) ?_
        show OwnR _ _ _ _ _ _ _ (T44.setTop (mkF m 158 #[.val (.long q1), .second, .val (.long q2), .second, .val (.long q3), .second, .val (.int p4), .val (.int p5), .val (.int (3 : Int32)), .val (.int pp), .val (.long (own_floor q1)), .second, .val (.long (own_floor q2)), .second, .val (.long (own_floor q3)), .second, .val (.ref b4), .val (.long (own_e3 pp (own_floor q1) (own_floor q2) (own_floor q3))), .second, .unset, .unset, .val (.int ((3 : Int32) * pp)), .val (.int (3 : Int32)), .unset, .unset, .unset, .unset, .unset, .unset] []))
        refine OwnR.of (fun _ hr => XS.iload X44.here hx rfl (hb hby at_158) rfl hr) ?_
        show OwnR _ _ _ _ _ _ _ (T44.setTop (mkF m 160 #[.val (.long q1), .second, .val (.long q2), .second, .val (.long q3), .second, .val (.int p4), .val (.int p5), .val (.int (3 : Int32)), .val (.int pp), .val (.long (own_floor q1)), .second, .val (.long (own_floor q2)), .second, .val (.long (own_floor q3)), .second, .val (.ref b4), .val (.long (own_e3 pp (own_floor q1) (own_floor q2) (own_floor q3))), .second, .unset, .unset, .val (.int ((3 : Int32) * pp)), .val (.int (3 : Int32)), .unset, .unset, .unset, .unset, .unset, .unset] [(.int (3 : Int32))]))
        refine OwnR.of (fun _ hr => XS.iconst X44.here hx rfl (hb hby at_160) hr) ?_
        show OwnR _ _ _ _ _ _ _ (T44.setTop (mkF m 161 #[.val (.long q1), .second, .val (.long q2), .second, .val (.long q3), .second, .val (.int p4), .val (.int p5), .val (.int (3 : Int32)), .val (.int pp), .val (.long (own_floor q1)), .second, .val (.long (own_floor q2)), .second, .val (.long (own_floor q3)), .second, .val (.ref b4), .val (.long (own_e3 pp (own_floor q1) (own_floor q2) (own_floor q3))), .second, .unset, .unset, .val (.int ((3 : Int32) * pp)), .val (.int (3 : Int32)), .unset, .unset, .unset, .unset, .unset, .unset] [(.int (2 : Int32)), (.int (3 : Int32))]))
        refine OwnR.of (fun _ hr => XS.icmpYes X44.here hx rfl (pc0 := 161) (pc' := 192) rfl (hb hby at_161) rfl (feq (by decide : ¬ ((3 : Int32) = (2 : Int32)))).2 (by decide) (by decide) hr) ?_
        show OwnR _ _ _ _ _ _ _ (T44.setTop (mkF m 192 #[.val (.long q1), .second, .val (.long q2), .second, .val (.long q3), .second, .val (.int p4), .val (.int p5), .val (.int (3 : Int32)), .val (.int pp), .val (.long (own_floor q1)), .second, .val (.long (own_floor q2)), .second, .val (.long (own_floor q3)), .second, .val (.ref b4), .val (.long (own_e3 pp (own_floor q1) (own_floor q2) (own_floor q3))), .second, .unset, .unset, .val (.int ((3 : Int32) * pp)), .val (.int (3 : Int32)), .unset, .unset, .unset, .unset, .unset, .unset] []))
        refine OwnR.of (fun _ hr => XS.lload X44.here hx rfl (hb hby at_192) rfl hr) ?_
        show OwnR _ _ _ _ _ _ _ (T44.setTop (mkF m 194 #[.val (.long q1), .second, .val (.long q2), .second, .val (.long q3), .second, .val (.int p4), .val (.int p5), .val (.int (3 : Int32)), .val (.int pp), .val (.long (own_floor q1)), .second, .val (.long (own_floor q2)), .second, .val (.long (own_floor q3)), .second, .val (.ref b4), .val (.long (own_e3 pp (own_floor q1) (own_floor q2) (own_floor q3))), .second, .unset, .unset, .val (.int ((3 : Int32) * pp)), .val (.int (3 : Int32)), .unset, .unset, .unset, .unset, .unset, .unset] [(.long (own_floor q1))]))
        refine OwnR.of (fun _ hr => XS.lload X44.here hx rfl (hb hby at_194) rfl hr) ?_
        show OwnR _ _ _ _ _ _ _ (T44.setTop (mkF m 196 #[.val (.long q1), .second, .val (.long q2), .second, .val (.long q3), .second, .val (.int p4), .val (.int p5), .val (.int (3 : Int32)), .val (.int pp), .val (.long (own_floor q1)), .second, .val (.long (own_floor q2)), .second, .val (.long (own_floor q3)), .second, .val (.ref b4), .val (.long (own_e3 pp (own_floor q1) (own_floor q2) (own_floor q3))), .second, .unset, .unset, .val (.int ((3 : Int32) * pp)), .val (.int (3 : Int32)), .unset, .unset, .unset, .unset, .unset, .unset] [(.long (own_floor q2)), (.long (own_floor q1))]))
        obtain ⟨_, _, ⟨T47, L47, kc47, ns47⟩, -, X47, ⟨Lc47, hQ47, l47, y47, z47⟩, st47⟩ := Jvm.LawKit.callS X44 hx (y := (⟨"java/lang/Math", "min", "(JJ)J"⟩ : MethodName)) hown (mvT hZ (hw _ (List.mem_of_getElem? (i := 77) rfl))) (mvT hZ (hw _ (List.mem_of_getElem? (i := 78) rfl))) (mvT hZ (hw _ (List.mem_of_getElem? (i := 41) rfl))) (mvT hZ (hw _ (List.mem_of_getElem? (i := 79) rfl))) (by decide) (backOf (W := 0) (rmMinJ l Z a0 hw [] (own_floor q1) (own_floor q2) (T43.heap) n0 (Nat.le_trans Z0 K43.1) ) hZ (hw _ (List.mem_of_getElem? (i := 79) rfl)) (hw _ (List.mem_of_getElem? (i := 41) rfl)) (by decide) (by decide)) (g := (mkF m 196 #[.val (.long q1), .second, .val (.long q2), .second, .val (.long q3), .second, .val (.int p4), .val (.int p5), .val (.int (3 : Int32)), .val (.int pp), .val (.long (own_floor q1)), .second, .val (.long (own_floor q2)), .second, .val (.long (own_floor q3)), .second, .val (.ref b4), .val (.long (own_e3 pp (own_floor q1) (own_floor q2) (own_floor q3))), .second, .unset, .unset, .val (.int ((3 : Int32) * pp)), .val (.int (3 : Int32)), .unset, .unset, .unset, .unset, .unset, .unset] [(.long (own_floor q2)), (.long (own_floor q1))])) rfl (by rw [hml]; rfl) (argsL := [(.long (own_floor q1)), (.long (own_floor q2))]) (rest := []) (lenOf pd__JJ_J rfl) rfl (by show 2 * 0 + _ ≤ _; exact Nat.le_of_eq rfl) (hb hby at_196) (fun _ _ => ⟨rfl, e44, (by decide : 5 + 0 ≤ _), (show 52 + sl1 + sl2 + sl3 + 0 ≤ 157376 from hr3)⟩)
        dsimp only [Pt.U, Pt.locs, Pt.cells, Pt.slots] at X47 l47 y47 z47 st47 hQ47
        rw [l47, y47, z47] at X47
        obtain ⟨rfl, N47q, e47⟩ := hQ47
        have N47 := Fr.app N44 N47q
        refine OwnR.of (st47) ?_
        show OwnR _ _ _ _ _ _ _ (T47.setTop (mkF m 199 #[.val (.long q1), .second, .val (.long q2), .second, .val (.long q3), .second, .val (.int p4), .val (.int p5), .val (.int (3 : Int32)), .val (.int pp), .val (.long (own_floor q1)), .second, .val (.long (own_floor q2)), .second, .val (.long (own_floor q3)), .second, .val (.ref b4), .val (.long (own_e3 pp (own_floor q1) (own_floor q2) (own_floor q3))), .second, .unset, .unset, .val (.int ((3 : Int32) * pp)), .val (.int (3 : Int32)), .unset, .unset, .unset, .unset, .unset, .unset] [(.long (own_min (own_floor q1) (own_floor q2)))]))
        refine OwnR.of (fun _ hr => XS.lload X47.here hx rfl (hb hby at_199) rfl hr) ?_
        show OwnR _ _ _ _ _ _ _ (T47.setTop (mkF m 201 #[.val (.long q1), .second, .val (.long q2), .second, .val (.long q3), .second, .val (.int p4), .val (.int p5), .val (.int (3 : Int32)), .val (.int pp), .val (.long (own_floor q1)), .second, .val (.long (own_floor q2)), .second, .val (.long (own_floor q3)), .second, .val (.ref b4), .val (.long (own_e3 pp (own_floor q1) (own_floor q2) (own_floor q3))), .second, .unset, .unset, .val (.int ((3 : Int32) * pp)), .val (.int (3 : Int32)), .unset, .unset, .unset, .unset, .unset, .unset] [(.long (own_floor q3)), (.long (own_min (own_floor q1) (own_floor q2)))]))
        obtain ⟨_, _, ⟨T48, L48, kc48, ns48⟩, -, X48, ⟨Lc48, hQ48, l48, y48, z48⟩, st48⟩ := Jvm.LawKit.callS X47 hx (y := (⟨"java/lang/Math", "min", "(JJ)J"⟩ : MethodName)) hown (mvT hZ (hw _ (List.mem_of_getElem? (i := 77) rfl))) (mvT hZ (hw _ (List.mem_of_getElem? (i := 78) rfl))) (mvT hZ (hw _ (List.mem_of_getElem? (i := 41) rfl))) (mvT hZ (hw _ (List.mem_of_getElem? (i := 79) rfl))) (by decide) (backOf (W := 0) (rmMinJ l Z a0 hw [] (own_min (own_floor q1) (own_floor q2)) (own_floor q3) (T43.heap) n0 (Nat.le_trans Z0 K43.1) ) hZ (hw _ (List.mem_of_getElem? (i := 79) rfl)) (hw _ (List.mem_of_getElem? (i := 41) rfl)) (by decide) (by decide)) (g := (mkF m 201 #[.val (.long q1), .second, .val (.long q2), .second, .val (.long q3), .second, .val (.int p4), .val (.int p5), .val (.int (3 : Int32)), .val (.int pp), .val (.long (own_floor q1)), .second, .val (.long (own_floor q2)), .second, .val (.long (own_floor q3)), .second, .val (.ref b4), .val (.long (own_e3 pp (own_floor q1) (own_floor q2) (own_floor q3))), .second, .unset, .unset, .val (.int ((3 : Int32) * pp)), .val (.int (3 : Int32)), .unset, .unset, .unset, .unset, .unset, .unset] [(.long (own_floor q3)), (.long (own_min (own_floor q1) (own_floor q2)))])) rfl (by rw [hml]; rfl) (argsL := [(.long (own_min (own_floor q1) (own_floor q2))), (.long (own_floor q3))]) (rest := []) (lenOf pd__JJ_J rfl) rfl (by show 2 * 0 + _ ≤ _; exact Nat.le_of_eq rfl) (hb hby at_201) (fun _ _ => ⟨rfl, e47, (by decide : 5 + 0 ≤ _), (show 52 + sl1 + sl2 + sl3 + 0 ≤ 157376 from hr3)⟩)
        dsimp only [Pt.U, Pt.locs, Pt.cells, Pt.slots] at X48 l48 y48 z48 st48 hQ48
        rw [l48, y48, z48] at X48
        obtain ⟨rfl, N48q, e48⟩ := hQ48
        have N48 := Fr.app N47 N48q
        refine OwnR.of (st48) ?_
        show OwnR _ _ _ _ _ _ _ (T48.setTop (mkF m 204 #[.val (.long q1), .second, .val (.long q2), .second, .val (.long q3), .second, .val (.int p4), .val (.int p5), .val (.int (3 : Int32)), .val (.int pp), .val (.long (own_floor q1)), .second, .val (.long (own_floor q2)), .second, .val (.long (own_floor q3)), .second, .val (.ref b4), .val (.long (own_e3 pp (own_floor q1) (own_floor q2) (own_floor q3))), .second, .unset, .unset, .val (.int ((3 : Int32) * pp)), .val (.int (3 : Int32)), .unset, .unset, .unset, .unset, .unset, .unset] [(.long (own_min (own_min (own_floor q1) (own_floor q2)) (own_floor q3)))]))
        refine OwnR.of (fun _ hr => XS.lstore X48.here hx rfl (hb hby at_204) rfl (l' := #[.val (.long q1), .second, .val (.long q2), .second, .val (.long q3), .second, .val (.int p4), .val (.int p5), .val (.int (3 : Int32)), .val (.int pp), .val (.long (own_floor q1)), .second, .val (.long (own_floor q2)), .second, .val (.long (own_floor q3)), .second, .val (.ref b4), .val (.long (own_e3 pp (own_floor q1) (own_floor q2) (own_floor q3))), .second, .unset, .unset, .val (.int ((3 : Int32) * pp)), .val (.int (3 : Int32)), .val (.long (own_min (own_min (own_floor q1) (own_floor q2)) (own_floor q3))), .second, .unset, .unset, .unset, .unset]) rfl hr) ?_
        show OwnR _ _ _ _ _ _ _ (T48.setTop (mkF m 206 #[.val (.long q1), .second, .val (.long q2), .second, .val (.long q3), .second, .val (.int p4), .val (.int p5), .val (.int (3 : Int32)), .val (.int pp), .val (.long (own_floor q1)), .second, .val (.long (own_floor q2)), .second, .val (.long (own_floor q3)), .second, .val (.ref b4), .val (.long (own_e3 pp (own_floor q1) (own_floor q2) (own_floor q3))), .second, .unset, .unset, .val (.int ((3 : Int32) * pp)), .val (.int (3 : Int32)), .val (.long (own_min (own_min (own_floor q1) (own_floor q2)) (own_floor q3))), .second, .unset, .unset, .unset, .unset] []))
        refine OwnR.of (fun _ hr => XS.lload X48.here hx rfl (hb hby at_206) rfl hr) ?_
        show OwnR _ _ _ _ _ _ _ (T48.setTop (mkF m 208 #[.val (.long q1), .second, .val (.long q2), .second, .val (.long q3), .second, .val (.int p4), .val (.int p5), .val (.int (3 : Int32)), .val (.int pp), .val (.long (own_floor q1)), .second, .val (.long (own_floor q2)), .second, .val (.long (own_floor q3)), .second, .val (.ref b4), .val (.long (own_e3 pp (own_floor q1) (own_floor q2) (own_floor q3))), .second, .unset, .unset, .val (.int ((3 : Int32) * pp)), .val (.int (3 : Int32)), .val (.long (own_min (own_min (own_floor q1) (own_floor q2)) (own_floor q3))), .second, .unset, .unset, .unset, .unset] [(.long (own_floor q1))]))
        refine OwnR.of (fun _ hr => XS.lload X48.here hx rfl (hb hby at_208) rfl hr) ?_
        show OwnR _ _ _ _ _ _ _ (T48.setTop (mkF m 210 #[.val (.long q1), .second, .val (.long q2), .second, .val (.long q3), .second, .val (.int p4), .val (.int p5), .val (.int (3 : Int32)), .val (.int pp), .val (.long (own_floor q1)), .second, .val (.long (own_floor q2)), .second, .val (.long (own_floor q3)), .second, .val (.ref b4), .val (.long (own_e3 pp (own_floor q1) (own_floor q2) (own_floor q3))), .second, .unset, .unset, .val (.int ((3 : Int32) * pp)), .val (.int (3 : Int32)), .val (.long (own_min (own_min (own_floor q1) (own_floor q2)) (own_floor q3))), .second, .unset, .unset, .unset, .unset] [(.long (own_floor q2)), (.long (own_floor q1))]))
        obtain ⟨_, _, ⟨T49, L49, kc49, ns49⟩, -, X49, ⟨Lc49, hQ49, l49, y49, z49⟩, st49⟩ := Jvm.LawKit.callS X48 hx (y := (⟨"java/lang/Math", "max", "(JJ)J"⟩ : MethodName)) hown (mvT hZ (hw _ (List.mem_of_getElem? (i := 80) rfl))) (mvT hZ (hw _ (List.mem_of_getElem? (i := 40) rfl))) (mvT hZ (hw _ (List.mem_of_getElem? (i := 41) rfl))) (mvT hZ (hw _ (List.mem_of_getElem? (i := 42) rfl))) (by decide) (backOf (W := 0) (rmMaxJ l Z a0 hw [] (own_floor q1) (own_floor q2) (T43.heap) n0 (Nat.le_trans Z0 K43.1) ) hZ (hw _ (List.mem_of_getElem? (i := 42) rfl)) (hw _ (List.mem_of_getElem? (i := 41) rfl)) (by decide) (by decide)) (g := (mkF m 210 #[.val (.long q1), .second, .val (.long q2), .second, .val (.long q3), .second, .val (.int p4), .val (.int p5), .val (.int (3 : Int32)), .val (.int pp), .val (.long (own_floor q1)), .second, .val (.long (own_floor q2)), .second, .val (.long (own_floor q3)), .second, .val (.ref b4), .val (.long (own_e3 pp (own_floor q1) (own_floor q2) (own_floor q3))), .second, .unset, .unset, .val (.int ((3 : Int32) * pp)), .val (.int (3 : Int32)), .val (.long (own_min (own_min (own_floor q1) (own_floor q2)) (own_floor q3))), .second, .unset, .unset, .unset, .unset] [(.long (own_floor q2)), (.long (own_floor q1))])) rfl (by rw [hml]; rfl) (argsL := [(.long (own_floor q1)), (.long (own_floor q2))]) (rest := []) (lenOf pd__JJ_J rfl) rfl (by show 2 * 0 + _ ≤ _; exact Nat.le_of_eq rfl) (hb hby at_210) (fun _ _ => ⟨rfl, e48, (by decide : 5 + 0 ≤ _), (show 52 + sl1 + sl2 + sl3 + 0 ≤ 157376 from hr3)⟩)
        dsimp only [Pt.U, Pt.locs, Pt.cells, Pt.slots] at X49 l49 y49 z49 st49 hQ49
        rw [l49, y49, z49] at X49
        obtain ⟨rfl, N49q, e49⟩ := hQ49
        have N49 := Fr.app N48 N49q
        refine OwnR.of (st49) ?_
        show OwnR _ _ _ _ _ _ _ (T49.setTop (mkF m 213 #[.val (.long q1), .second, .val (.long q2), .second, .val (.long q3), .second, .val (.int p4), .val (.int p5), .val (.int (3 : Int32)), .val (.int pp), .val (.long (own_floor q1)), .second, .val (.long (own_floor q2)), .second, .val (.long (own_floor q3)), .second, .val (.ref b4), .val (.long (own_e3 pp (own_floor q1) (own_floor q2) (own_floor q3))), .second, .unset, .unset, .val (.int ((3 : Int32) * pp)), .val (.int (3 : Int32)), .val (.long (own_min (own_min (own_floor q1) (own_floor q2)) (own_floor q3))), .second, .unset, .unset, .unset, .unset] [(.long (own_max (own_floor q1) (own_floor q2)))]))
        refine OwnR.of (fun _ hr => XS.lload X49.here hx rfl (hb hby at_213) rfl hr) ?_
        show OwnR _ _ _ _ _ _ _ (T49.setTop (mkF m 215 #[.val (.long q1), .second, .val (.long q2), .second, .val (.long q3), .second, .val (.int p4), .val (.int p5), .val (.int (3 : Int32)), .val (.int pp), .val (.long (own_floor q1)), .second, .val (.long (own_floor q2)), .second, .val (.long (own_floor q3)), .second, .val (.ref b4), .val (.long (own_e3 pp (own_floor q1) (own_floor q2) (own_floor q3))), .second, .unset, .unset, .val (.int ((3 : Int32) * pp)), .val (.int (3 : Int32)), .val (.long (own_min (own_min (own_floor q1) (own_floor q2)) (own_floor q3))), .second, .unset, .unset, .unset, .unset] [(.long (own_floor q3)), (.long (own_max (own_floor q1) (own_floor q2)))]))
        obtain ⟨_, _, ⟨T50, L50, kc50, ns50⟩, -, X50, ⟨Lc50, hQ50, l50, y50, z50⟩, st50⟩ := Jvm.LawKit.callS X49 hx (y := (⟨"java/lang/Math", "max", "(JJ)J"⟩ : MethodName)) hown (mvT hZ (hw _ (List.mem_of_getElem? (i := 80) rfl))) (mvT hZ (hw _ (List.mem_of_getElem? (i := 40) rfl))) (mvT hZ (hw _ (List.mem_of_getElem? (i := 41) rfl))) (mvT hZ (hw _ (List.mem_of_getElem? (i := 42) rfl))) (by decide) (backOf (W := 0) (rmMaxJ l Z a0 hw [] (own_max (own_floor q1) (own_floor q2)) (own_floor q3) (T43.heap) n0 (Nat.le_trans Z0 K43.1) ) hZ (hw _ (List.mem_of_getElem? (i := 42) rfl)) (hw _ (List.mem_of_getElem? (i := 41) rfl)) (by decide) (by decide)) (g := (mkF m 215 #[.val (.long q1), .second, .val (.long q2), .second, .val (.long q3), .second, .val (.int p4), .val (.int p5), .val (.int (3 : Int32)), .val (.int pp), .val (.long (own_floor q1)), .second, .val (.long (own_floor q2)), .second, .val (.long (own_floor q3)), .second, .val (.ref b4), .val (.long (own_e3 pp (own_floor q1) (own_floor q2) (own_floor q3))), .second, .unset, .unset, .val (.int ((3 : Int32) * pp)), .val (.int (3 : Int32)), .val (.long (own_min (own_min (own_floor q1) (own_floor q2)) (own_floor q3))), .second, .unset, .unset, .unset, .unset] [(.long (own_floor q3)), (.long (own_max (own_floor q1) (own_floor q2)))])) rfl (by rw [hml]; rfl) (argsL := [(.long (own_max (own_floor q1) (own_floor q2))), (.long (own_floor q3))]) (rest := []) (lenOf pd__JJ_J rfl) rfl (by show 2 * 0 + _ ≤ _; exact Nat.le_of_eq rfl) (hb hby at_215) (fun _ _ => ⟨rfl, e49, (by decide : 5 + 0 ≤ _), (show 52 + sl1 + sl2 + sl3 + 0 ≤ 157376 from hr3)⟩)
        dsimp only [Pt.U, Pt.locs, Pt.cells, Pt.slots] at X50 l50 y50 z50 st50 hQ50
        rw [l50, y50, z50] at X50
        obtain ⟨rfl, N50q, e50⟩ := hQ50
        have N50 := Fr.app N49 N50q
        refine OwnR.of (st50) ?_
        show OwnR _ _ _ _ _ _ _ (T50.setTop (mkF m 218 #[.val (.long q1), .second, .val (.long q2), .second, .val (.long q3), .second, .val (.int p4), .val (.int p5), .val (.int (3 : Int32)), .val (.int pp), .val (.long (own_floor q1)), .second, .val (.long (own_floor q2)), .second, .val (.long (own_floor q3)), .second, .val (.ref b4), .val (.long (own_e3 pp (own_floor q1) (own_floor q2) (own_floor q3))), .second, .unset, .unset, .val (.int ((3 : Int32) * pp)), .val (.int (3 : Int32)), .val (.long (own_min (own_min (own_floor q1) (own_floor q2)) (own_floor q3))), .second, .unset, .unset, .unset, .unset] [(.long (own_max (own_max (own_floor q1) (own_floor q2)) (own_floor q3)))]))
        refine OwnR.of (fun _ hr => XS.lstore X50.here hx rfl (hb hby at_218) rfl (l' := #[.val (.long q1), .second, .val (.long q2), .second, .val (.long q3), .second, .val (.int p4), .val (.int p5), .val (.int (3 : Int32)), .val (.int pp), .val (.long (own_floor q1)), .second, .val (.long (own_floor q2)), .second, .val (.long (own_floor q3)), .second, .val (.ref b4), .val (.long (own_e3 pp (own_floor q1) (own_floor q2) (own_floor q3))), .second, .unset, .unset, .val (.int ((3 : Int32) * pp)), .val (.int (3 : Int32)), .val (.long (own_min (own_min (own_floor q1) (own_floor q2)) (own_floor q3))), .second, .val (.long (own_max (own_max (own_floor q1) (own_floor q2)) (own_floor q3))), .second, .unset, .unset]) rfl hr) ?_
        show OwnR _ _ _ _ _ _ _ (T50.setTop (mkF m 220 #[.val (.long q1), .second, .val (.long q2), .second, .val (.long q3), .second, .val (.int p4), .val (.int p5), .val (.int (3 : Int32)), .val (.int pp), .val (.long (own_floor q1)), .second, .val (.long (own_floor q2)), .second, .val (.long (own_floor q3)), .second, .val (.ref b4), .val (.long (own_e3 pp (own_floor q1) (own_floor q2) (own_floor q3))), .second, .unset, .unset, .val (.int ((3 : Int32) * pp)), .val (.int (3 : Int32)), .val (.long (own_min (own_min (own_floor q1) (own_floor q2)) (own_floor q3))), .second, .val (.long (own_max (own_max (own_floor q1) (own_floor q2)) (own_floor q3))), .second, .unset, .unset] []))
        refine OwnR.of (fun _ hr => XS.lload X50.here hx rfl (hb hby at_220) rfl hr) ?_
        show OwnR _ _ _ _ _ _ _ (T50.setTop (mkF m 222 #[.val (.long q1), .second, .val (.long q2), .second, .val (.long q3), .second, .val (.int p4), .val (.int p5), .val (.int (3 : Int32)), .val (.int pp), .val (.long (own_floor q1)), .second, .val (.long (own_floor q2)), .second, .val (.long (own_floor q3)), .second, .val (.ref b4), .val (.long (own_e3 pp (own_floor q1) (own_floor q2) (own_floor q3))), .second, .unset, .unset, .val (.int ((3 : Int32) * pp)), .val (.int (3 : Int32)), .val (.long (own_min (own_min (own_floor q1) (own_floor q2)) (own_floor q3))), .second, .val (.long (own_max (own_max (own_floor q1) (own_floor q2)) (own_floor q3))), .second, .unset, .unset] [(.long (own_floor q1))]))
        refine OwnR.of (fun _ hr => XS.lload X50.here hx rfl (hb hby at_222) rfl hr) ?_
        show OwnR _ _ _ _ _ _ _ (T50.setTop (mkF m 224 #[.val (.long q1), .second, .val (.long q2), .second, .val (.long q3), .second, .val (.int p4), .val (.int p5), .val (.int (3 : Int32)), .val (.int pp), .val (.long (own_floor q1)), .second, .val (.long (own_floor q2)), .second, .val (.long (own_floor q3)), .second, .val (.ref b4), .val (.long (own_e3 pp (own_floor q1) (own_floor q2) (own_floor q3))), .second, .unset, .unset, .val (.int ((3 : Int32) * pp)), .val (.int (3 : Int32)), .val (.long (own_min (own_min (own_floor q1) (own_floor q2)) (own_floor q3))), .second, .val (.long (own_max (own_max (own_floor q1) (own_floor q2)) (own_floor q3))), .second, .unset, .unset] [(.long (own_floor q2)), (.long (own_floor q1))]))
        obtain ⟨_, _, ⟨T51, L51, kc51, ns51⟩, -, X51, ⟨Lc51, hQ51, l51, y51, z51⟩, st51⟩ := Jvm.LawKit.callS X50 hx (y := (⟨"java/lang/Math", "min", "(JJ)J"⟩ : MethodName)) hown (mvT hZ (hw _ (List.mem_of_getElem? (i := 77) rfl))) (mvT hZ (hw _ (List.mem_of_getElem? (i := 78) rfl))) (mvT hZ (hw _ (List.mem_of_getElem? (i := 41) rfl))) (mvT hZ (hw _ (List.mem_of_getElem? (i := 79) rfl))) (by decide) (backOf (W := 0) (rmMinJ l Z a0 hw [] (own_floor q1) (own_floor q2) (T43.heap) n0 (Nat.le_trans Z0 K43.1) ) hZ (hw _ (List.mem_of_getElem? (i := 79) rfl)) (hw _ (List.mem_of_getElem? (i := 41) rfl)) (by decide) (by decide)) (g := (mkF m 224 #[.val (.long q1), .second, .val (.long q2), .second, .val (.long q3), .second, .val (.int p4), .val (.int p5), .val (.int (3 : Int32)), .val (.int pp), .val (.long (own_floor q1)), .second, .val (.long (own_floor q2)), .second, .val (.long (own_floor q3)), .second, .val (.ref b4), .val (.long (own_e3 pp (own_floor q1) (own_floor q2) (own_floor q3))), .second, .unset, .unset, .val (.int ((3 : Int32) * pp)), .val (.int (3 : Int32)), .val (.long (own_min (own_min (own_floor q1) (own_floor q2)) (own_floor q3))), .second, .val (.long (own_max (own_max (own_floor q1) (own_floor q2)) (own_floor q3))), .second, .unset, .unset] [(.long (own_floor q2)), (.long (own_floor q1))])) rfl (by rw [hml]; rfl) (argsL := [(.long (own_floor q1)), (.long (own_floor q2))]) (rest := []) (lenOf pd__JJ_J rfl) rfl (by show 2 * 0 + _ ≤ _; exact Nat.le_of_eq rfl) (hb hby at_224) (fun _ _ => ⟨rfl, e50, (by decide : 5 + 0 ≤ _), (show 52 + sl1 + sl2 + sl3 + 0 ≤ 157376 from hr3)⟩)
        dsimp only [Pt.U, Pt.locs, Pt.cells, Pt.slots] at X51 l51 y51 z51 st51 hQ51
        rw [l51, y51, z51] at X51
        obtain ⟨rfl, N51q, e51⟩ := hQ51
        have N51 := Fr.app N50 N51q
        refine OwnR.of (st51) ?_
        show OwnR _ _ _ _ _ _ _ (T51.setTop (mkF m 227 #[.val (.long q1), .second, .val (.long q2), .second, .val (.long q3), .second, .val (.int p4), .val (.int p5), .val (.int (3 : Int32)), .val (.int pp), .val (.long (own_floor q1)), .second, .val (.long (own_floor q2)), .second, .val (.long (own_floor q3)), .second, .val (.ref b4), .val (.long (own_e3 pp (own_floor q1) (own_floor q2) (own_floor q3))), .second, .unset, .unset, .val (.int ((3 : Int32) * pp)), .val (.int (3 : Int32)), .val (.long (own_min (own_min (own_floor q1) (own_floor q2)) (own_floor q3))), .second, .val (.long (own_max (own_max (own_floor q1) (own_floor q2)) (own_floor q3))), .second, .unset, .unset] [(.long (own_min (own_floor q1) (own_floor q2)))]))
        refine OwnR.of (fun _ hr => XS.lload X51.here hx rfl (hb hby at_227) rfl hr) ?_
        show OwnR _ _ _ _ _ _ _ (T51.setTop (mkF m 229 #[.val (.long q1), .second, .val (.long q2), .second, .val (.long q3), .second, .val (.int p4), .val (.int p5), .val (.int (3 : Int32)), .val (.int pp), .val (.long (own_floor q1)), .second, .val (.long (own_floor q2)), .second, .val (.long (own_floor q3)), .second, .val (.ref b4), .val (.long (own_e3 pp (own_floor q1) (own_floor q2) (own_floor q3))), .second, .unset, .unset, .val (.int ((3 : Int32) * pp)), .val (.int (3 : Int32)), .val (.long (own_min (own_min (own_floor q1) (own_floor q2)) (own_floor q3))), .second, .val (.long (own_max (own_max (own_floor q1) (own_floor q2)) (own_floor q3))), .second, .unset, .unset] [(.long (own_floor q1)), (.long (own_min (own_floor q1) (own_floor q2)))]))
        refine OwnR.of (fun _ hr => XS.lload X51.here hx rfl (hb hby at_229) rfl hr) ?_
        show OwnR _ _ _ _ _ _ _ (T51.setTop (mkF m 231 #[.val (.long q1), .second, .val (.long q2), .second, .val (.long q3), .second, .val (.int p4), .val (.int p5), .val (.int (3 : Int32)), .val (.int pp), .val (.long (own_floor q1)), .second, .val (.long (own_floor q2)), .second, .val (.long (own_floor q3)), .second, .val (.ref b4), .val (.long (own_e3 pp (own_floor q1) (own_floor q2) (own_floor q3))), .second, .unset, .unset, .val (.int ((3 : Int32) * pp)), .val (.int (3 : Int32)), .val (.long (own_min (own_min (own_floor q1) (own_floor q2)) (own_floor q3))), .second, .val (.long (own_max (own_max (own_floor q1) (own_floor q2)) (own_floor q3))), .second, .unset, .unset] [(.long (own_floor q2)), (.long (own_floor q1)), (.long (own_min (own_floor q1) (own_floor q2)))]))
        obtain ⟨_, _, ⟨T52, L52, kc52, ns52⟩, -, X52, ⟨Lc52, hQ52, l52, y52, z52⟩, st52⟩ := Jvm.LawKit.callS X51 hx (y := (⟨"java/lang/Math", "max", "(JJ)J"⟩ : MethodName)) hown (mvT hZ (hw _ (List.mem_of_getElem? (i := 80) rfl))) (mvT hZ (hw _ (List.mem_of_getElem? (i := 40) rfl))) (mvT hZ (hw _ (List.mem_of_getElem? (i := 41) rfl))) (mvT hZ (hw _ (List.mem_of_getElem? (i := 42) rfl))) (by decide) (backOf (W := 2) (rmMaxJ l Z a0 hw [] (own_floor q1) (own_floor q2) (T43.heap) n0 (Nat.le_trans Z0 K43.1) ) hZ (hw _ (List.mem_of_getElem? (i := 42) rfl)) (hw _ (List.mem_of_getElem? (i := 41) rfl)) (by decide) (by decide)) (g := (mkF m 231 #[.val (.long q1), .second, .val (.long q2), .second, .val (.long q3), .second, .val (.int p4), .val (.int p5), .val (.int (3 : Int32)), .val (.int pp), .val (.long (own_floor q1)), .second, .val (.long (own_floor q2)), .second, .val (.long (own_floor q3)), .second, .val (.ref b4), .val (.long (own_e3 pp (own_floor q1) (own_floor q2) (own_floor q3))), .second, .unset, .unset, .val (.int ((3 : Int32) * pp)), .val (.int (3 : Int32)), .val (.long (own_min (own_min (own_floor q1) (own_floor q2)) (own_floor q3))), .second, .val (.long (own_max (own_max (own_floor q1) (own_floor q2)) (own_floor q3))), .second, .unset, .unset] [(.long (own_floor q2)), (.long (own_floor q1)), (.long (own_min (own_floor q1) (own_floor q2)))])) rfl (by rw [hml]; rfl) (argsL := [(.long (own_floor q1)), (.long (own_floor q2))]) (rest := [(.long (own_min (own_floor q1) (own_floor q2)))]) (lenOf pd__JJ_J rfl) rfl (by show 2 * 0 + _ ≤ _; exact Nat.le_of_eq rfl) (hb hby at_231) (fun _ _ => ⟨rfl, e51, (by decide : 5 + 0 ≤ _), (show 52 + sl1 + sl2 + sl3 + 0 ≤ 157376 from hr3)⟩)
        dsimp only [Pt.U, Pt.locs, Pt.cells, Pt.slots] at X52 l52 y52 z52 st52 hQ52
        rw [l52, y52, z52] at X52
        obtain ⟨rfl, N52q, e52⟩ := hQ52
        have N52 := Fr.app N51 N52q
        refine OwnR.of (st52) ?_
        show OwnR _ _ _ _ _ _ _ (T52.setTop (mkF m 234 #[.val (.long q1), .second, .val (.long q2), .second, .val (.long q3), .second, .val (.int p4), .val (.int p5), .val (.int (3 : Int32)), .val (.int pp), .val (.long (own_floor q1)), .second, .val (.long (own_floor q2)), .second, .val (.long (own_floor q3)), .second, .val (.ref b4), .val (.long (own_e3 pp (own_floor q1) (own_floor q2) (own_floor q3))), .second, .unset, .unset, .val (.int ((3 : Int32) * pp)), .val (.int (3 : Int32)), .val (.long (own_min (own_min (own_floor q1) (own_floor q2)) (own_floor q3))), .second, .val (.long (own_max (own_max (own_floor q1) (own_floor q2)) (own_floor q3))), .second, .unset, .unset] [(.long (own_max (own_floor q1) (own_floor q2))), (.long (own_min (own_floor q1) (own_floor q2)))]))
        refine OwnR.of (fun _ hr => XS.lload X52.here hx rfl (hb hby at_234) rfl hr) ?_
        show OwnR _ _ _ _ _ _ _ (T52.setTop (mkF m 236 #[.val (.long q1), .second, .val (.long q2), .second, .val (.long q3), .second, .val (.int p4), .val (.int p5), .val (.int (3 : Int32)), .val (.int pp), .val (.long (own_floor q1)), .second, .val (.long (own_floor q2)), .second, .val (.long (own_floor q3)), .second, .val (.ref b4), .val (.long (own_e3 pp (own_floor q1) (own_floor q2) (own_floor q3))), .second, .unset, .unset, .val (.int ((3 : Int32) * pp)), .val (.int (3 : Int32)), .val (.long (own_min (own_min (own_floor q1) (own_floor q2)) (own_floor q3))), .second, .val (.long (own_max (own_max (own_floor q1) (own_floor q2)) (own_floor q3))), .second, .unset, .unset] [(.long (own_floor q3)), (.long (own_max (own_floor q1) (own_floor q2))), (.long (own_min (own_floor q1) (own_floor q2)))]))
        obtain ⟨_, _, ⟨T53, L53, kc53, ns53⟩, -, X53, ⟨Lc53, hQ53, l53, y53, z53⟩, st53⟩ := Jvm.LawKit.callS X52 hx (y := (⟨"java/lang/Math", "min", "(JJ)J"⟩ : MethodName)) hown (mvT hZ (hw _ (List.mem_of_getElem? (i := 77) rfl))) (mvT hZ (hw _ (List.mem_of_getElem? (i := 78) rfl))) (mvT hZ (hw _ (List.mem_of_getElem? (i := 41) rfl))) (mvT hZ (hw _ (List.mem_of_getElem? (i := 79) rfl))) (by decide) (backOf (W := 2) (rmMinJ l Z a0 hw [] (own_max (own_floor q1) (own_floor q2)) (own_floor q3) (T43.heap) n0 (Nat.le_trans Z0 K43.1) ) hZ (hw _ (List.mem_of_getElem? (i := 79) rfl)) (hw _ (List.mem_of_getElem? (i := 41) rfl)) (by decide) (by decide)) (g := (mkF m 236 #[.val (.long q1), .second, .val (.long q2), .second, .val (.long q3), .second, .val (.int p4), .val (.int p5), .val (.int (3 : Int32)), .val (.int pp), .val (.long (own_floor q1)), .second, .val (.long (own_floor q2)), .second, .val (.long (own_floor q3)), .second, .val (.ref b4), .val (.long (own_e3 pp (own_floor q1) (own_floor q2) (own_floor q3))), .second, .unset, .unset, .val (.int ((3 : Int32) * pp)), .val (.int (3 : Int32)), .val (.long (own_min (own_min (own_floor q1) (own_floor q2)) (own_floor q3))), .second, .val (.long (own_max (own_max (own_floor q1) (own_floor q2)) (own_floor q3))), .second, .unset, .unset] [(.long (own_floor q3)), (.long (own_max (own_floor q1) (own_floor q2))), (.long (own_min (own_floor q1) (own_floor q2)))])) rfl (by rw [hml]; rfl) (argsL := [(.long (own_max (own_floor q1) (own_floor q2))), (.long (own_floor q3))]) (rest := [(.long (own_min (own_floor q1) (own_floor q2)))]) (lenOf pd__JJ_J rfl) rfl (by show 2 * 0 + _ ≤ _; exact Nat.le_of_eq rfl) (hb hby at_236) (fun _ _ => ⟨rfl, e52, (by decide : 5 + 0 ≤ _), (show 52 + sl1 + sl2 + sl3 + 0 ≤ 157376 from hr3)⟩)
        dsimp only [Pt.U, Pt.locs, Pt.cells, Pt.slots] at X53 l53 y53 z53 st53 hQ53
        rw [l53, y53, z53] at X53
        obtain ⟨rfl, N53q, e53⟩ := hQ53
        have N53 := Fr.app N52 N53q
        refine OwnR.of (st53) ?_
        show OwnR _ _ _ _ _ _ _ (T53.setTop (mkF m 239 #[.val (.long q1), .second, .val (.long q2), .second, .val (.long q3), .second, .val (.int p4), .val (.int p5), .val (.int (3 : Int32)), .val (.int pp), .val (.long (own_floor q1)), .second, .val (.long (own_floor q2)), .second, .val (.long (own_floor q3)), .second, .val (.ref b4), .val (.long (own_e3 pp (own_floor q1) (own_floor q2) (own_floor q3))), .second, .unset, .unset, .val (.int ((3 : Int32) * pp)), .val (.int (3 : Int32)), .val (.long (own_min (own_min (own_floor q1) (own_floor q2)) (own_floor q3))), .second, .val (.long (own_max (own_max (own_floor q1) (own_floor q2)) (own_floor q3))), .second, .unset, .unset] [(.long (own_min (own_max (own_floor q1) (own_floor q2)) (own_floor q3))), (.long (own_min (own_floor q1) (own_floor q2)))]))
        obtain ⟨_, _, ⟨T54, L54, kc54, ns54⟩, -, X54, ⟨Lc54, hQ54, l54, y54, z54⟩, st54⟩ := Jvm.LawKit.callS X53 hx (y := (⟨"java/lang/Math", "max", "(JJ)J"⟩ : MethodName)) hown (mvT hZ (hw _ (List.mem_of_getElem? (i := 80) rfl))) (mvT hZ (hw _ (List.mem_of_getElem? (i := 40) rfl))) (mvT hZ (hw _ (List.mem_of_getElem? (i := 41) rfl))) (mvT hZ (hw _ (List.mem_of_getElem? (i := 42) rfl))) (by decide) (backOf (W := 0) (rmMaxJ l Z a0 hw [] (own_min (own_floor q1) (own_floor q2)) (own_min (own_max (own_floor q1) (own_floor q2)) (own_floor q3)) (T43.heap) n0 (Nat.le_trans Z0 K43.1) ) hZ (hw _ (List.mem_of_getElem? (i := 42) rfl)) (hw _ (List.mem_of_getElem? (i := 41) rfl)) (by decide) (by decide)) (g := (mkF m 239 #[.val (.long q1), .second, .val (.long q2), .second, .val (.long q3), .second, .val (.int p4), .val (.int p5), .val (.int (3 : Int32)), .val (.int pp), .val (.long (own_floor q1)), .second, .val (.long (own_floor q2)), .second, .val (.long (own_floor q3)), .second, .val (.ref b4), .val (.long (own_e3 pp (own_floor q1) (own_floor q2) (own_floor q3))), .second, .unset, .unset, .val (.int ((3 : Int32) * pp)), .val (.int (3 : Int32)), .val (.long (own_min (own_min (own_floor q1) (own_floor q2)) (own_floor q3))), .second, .val (.long (own_max (own_max (own_floor q1) (own_floor q2)) (own_floor q3))), .second, .unset, .unset] [(.long (own_min (own_max (own_floor q1) (own_floor q2)) (own_floor q3))), (.long (own_min (own_floor q1) (own_floor q2)))])) rfl (by rw [hml]; rfl) (argsL := [(.long (own_min (own_floor q1) (own_floor q2))), (.long (own_min (own_max (own_floor q1) (own_floor q2)) (own_floor q3)))]) (rest := []) (lenOf pd__JJ_J rfl) rfl (by show 2 * 0 + _ ≤ _; exact Nat.le_of_eq rfl) (hb hby at_239) (fun _ _ => ⟨rfl, e53, (by decide : 5 + 0 ≤ _), (show 52 + sl1 + sl2 + sl3 + 0 ≤ 157376 from hr3)⟩)
        dsimp only [Pt.U, Pt.locs, Pt.cells, Pt.slots] at X54 l54 y54 z54 st54 hQ54
        rw [l54, y54, z54] at X54
        obtain ⟨rfl, N54q, e54⟩ := hQ54
        have N54 := Fr.app N53 N54q
        refine OwnR.of (st54) ?_
        show OwnR _ _ _ _ _ _ _ (T54.setTop (mkF m 242 #[.val (.long q1), .second, .val (.long q2), .second, .val (.long q3), .second, .val (.int p4), .val (.int p5), .val (.int (3 : Int32)), .val (.int pp), .val (.long (own_floor q1)), .second, .val (.long (own_floor q2)), .second, .val (.long (own_floor q3)), .second, .val (.ref b4), .val (.long (own_e3 pp (own_floor q1) (own_floor q2) (own_floor q3))), .second, .unset, .unset, .val (.int ((3 : Int32) * pp)), .val (.int (3 : Int32)), .val (.long (own_min (own_min (own_floor q1) (own_floor q2)) (own_floor q3))), .second, .val (.long (own_max (own_max (own_floor q1) (own_floor q2)) (own_floor q3))), .second, .unset, .unset] [(.long (own_max (own_min (own_floor q1) (own_floor q2)) (own_min (own_max (own_floor q1) (own_floor q2)) (own_floor q3))))]))
        refine OwnR.of (fun _ hr => XS.lstore X54.here hx rfl (hb hby at_242) rfl (l' := #[.val (.long q1), .second, .val (.long q2), .second, .val (.long q3), .second, .val (.int p4), .val (.int p5), .val (.int (3 : Int32)), .val (.int pp), .val (.long (own_floor q1)), .second, .val (.long (own_floor q2)), .second, .val (.long (own_floor q3)), .second, .val (.ref b4), .val (.long (own_e3 pp (own_floor q1) (own_floor q2) (own_floor q3))), .second, .unset, .unset, .val (.int ((3 : Int32) * pp)), .val (.int (3 : Int32)), .val (.long (own_min (own_min (own_floor q1) (own_floor q2)) (own_floor q3))), .second, .val (.long (own_max (own_max (own_floor q1) (own_floor q2)) (own_floor q3))), .second, .val (.long (own_max (own_min (own_floor q1) (own_floor q2)) (own_min (own_max (own_floor q1) (own_floor q2)) (own_floor q3)))), .second]) rfl hr) ?_
        show OwnR _ _ _ _ _ _ _ (T54.setTop (mkF m 244 #[.val (.long q1), .second, .val (.long q2), .second, .val (.long q3), .second, .val (.int p4), .val (.int p5), .val (.int (3 : Int32)), .val (.int pp), .val (.long (own_floor q1)), .second, .val (.long (own_floor q2)), .second, .val (.long (own_floor q3)), .second, .val (.ref b4), .val (.long (own_e3 pp (own_floor q1) (own_floor q2) (own_floor q3))), .second, .unset, .unset, .val (.int ((3 : Int32) * pp)), .val (.int (3 : Int32)), .val (.long (own_min (own_min (own_floor q1) (own_floor q2)) (own_floor q3))), .second, .val (.long (own_max (own_max (own_floor q1) (own_floor q2)) (own_floor q3))), .second, .val (.long (own_max (own_min (own_floor q1) (own_floor q2)) (own_min (own_max (own_floor q1) (own_floor q2)) (own_floor q3)))), .second] []))
        refine OwnR.of (fun _ hr => XS.iload X54.here hx rfl (hb hby at_244) rfl hr) ?_
        show OwnR _ _ _ _ _ _ _ (T54.setTop (mkF m 246 #[.val (.long q1), .second, .val (.long q2), .second, .val (.long q3), .second, .val (.int p4), .val (.int p5), .val (.int (3 : Int32)), .val (.int pp), .val (.long (own_floor q1)), .second, .val (.long (own_floor q2)), .second, .val (.long (own_floor q3)), .second, .val (.ref b4), .val (.long (own_e3 pp (own_floor q1) (own_floor q2) (own_floor q3))), .second, .unset, .unset, .val (.int ((3 : Int32) * pp)), .val (.int (3 : Int32)), .val (.long (own_min (own_min (own_floor q1) (own_floor q2)) (own_floor q3))), .second, .val (.long (own_max (own_max (own_floor q1) (own_floor q2)) (own_floor q3))), .second, .val (.long (own_max (own_min (own_floor q1) (own_floor q2)) (own_min (own_max (own_floor q1) (own_floor q2)) (own_floor q3)))), .second] [(.int (3 : Int32))]))
        refine OwnR.of (fun _ hr => XS.iconst X54.here hx rfl (hb hby at_246) hr) ?_
        show OwnR _ _ _ _ _ _ _ (T54.setTop (mkF m 247 #[.val (.long q1), .second, .val (.long q2), .second, .val (.long q3), .second, .val (.int p4), .val (.int p5), .val (.int (3 : Int32)), .val (.int pp), .val (.long (own_floor q1)), .second, .val (.long (own_floor q2)), .second, .val (.long (own_floor q3)), .second, .val (.ref b4), .val (.long (own_e3 pp (own_floor q1) (own_floor q2) (own_floor q3))), .second, .unset, .unset, .val (.int ((3 : Int32) * pp)), .val (.int (3 : Int32)), .val (.long (own_min (own_min (own_floor q1) (own_floor q2)) (own_floor q3))), .second, .val (.long (own_max (own_max (own_floor q1) (own_floor q2)) (own_floor q3))), .second, .val (.long (own_max (own_min (own_floor q1) (own_floor q2)) (own_min (own_max (own_floor q1) (own_floor q2)) (own_floor q3)))), .second] [(.int (1 : Int32)), (.int (3 : Int32))]))
        refine OwnR.of (fun _ hr => XS.icmpYes X54.here hx rfl (pc0 := 247) (pc' := 255) rfl (hb hby at_247) rfl (feq (by decide : ¬ ((3 : Int32) = (1 : Int32)))).2 (by decide) (by decide) hr) ?_
        show OwnR _ _ _ _ _ _ _ (T54.setTop (mkF m 255 #[.val (.long q1), .second, .val (.long q2), .second, .val (.long q3), .second, .val (.int p4), .val (.int p5), .val (.int (3 : Int32)), .val (.int pp), .val (.long (own_floor q1)), .second, .val (.long (own_floor q2)), .second, .val (.long (own_floor q3)), .second, .val (.ref b4), .val (.long (own_e3 pp (own_floor q1) (own_floor q2) (own_floor q3))), .second, .unset, .unset, .val (.int ((3 : Int32) * pp)), .val (.int (3 : Int32)), .val (.long (own_min (own_min (own_floor q1) (own_floor q2)) (own_floor q3))), .second, .val (.long (own_max (own_max (own_floor q1) (own_floor q2)) (own_floor q3))), .second, .val (.long (own_max (own_min (own_floor q1) (own_floor q2)) (own_min (own_max (own_floor q1) (own_floor q2)) (own_floor q3)))), .second] []))
        refine OwnR.of (fun _ hr => XS.iload X54.here hx rfl (hb hby at_255) rfl hr) ?_
        show OwnR _ _ _ _ _ _ _ (T54.setTop (mkF m 257 #[.val (.long q1), .second, .val (.long q2), .second, .val (.long q3), .second, .val (.int p4), .val (.int p5), .val (.int (3 : Int32)), .val (.int pp), .val (.long (own_floor q1)), .second, .val (.long (own_floor q2)), .second, .val (.long (own_floor q3)), .second, .val (.ref b4), .val (.long (own_e3 pp (own_floor q1) (own_floor q2) (own_floor q3))), .second, .unset, .unset, .val (.int ((3 : Int32) * pp)), .val (.int (3 : Int32)), .val (.long (own_min (own_min (own_floor q1) (own_floor q2)) (own_floor q3))), .second, .val (.long (own_max (own_max (own_floor q1) (own_floor q2)) (own_floor q3))), .second, .val (.long (own_max (own_min (own_floor q1) (own_floor q2)) (own_min (own_max (own_floor q1) (own_floor q2)) (own_floor q3)))), .second] [(.int (3 : Int32))]))
        refine OwnR.of (fun _ hr => XS.iconst X54.here hx rfl (hb hby at_257) hr) ?_
        show OwnR _ _ _ _ _ _ _ (T54.setTop (mkF m 258 #[.val (.long q1), .second, .val (.long q2), .second, .val (.long q3), .second, .val (.int p4), .val (.int p5), .val (.int (3 : Int32)), .val (.int pp), .val (.long (own_floor q1)), .second, .val (.long (own_floor q2)), .second, .val (.long (own_floor q3)), .second, .val (.ref b4), .val (.long (own_e3 pp (own_floor q1) (own_floor q2) (own_floor q3))), .second, .unset, .unset, .val (.int ((3 : Int32) * pp)), .val (.int (3 : Int32)), .val (.long (own_min (own_min (own_floor q1) (own_floor q2)) (own_floor q3))), .second, .val (.long (own_max (own_max (own_floor q1) (own_floor q2)) (own_floor q3))), .second, .val (.long (own_max (own_min (own_floor q1) (own_floor q2)) (own_min (own_max (own_floor q1) (own_floor q2)) (own_floor q3)))), .second] [(.int (2 : Int32)), (.int (3 : Int32))]))
        refine OwnR.of (fun _ hr => XS.icmpYes X54.here hx rfl (pc0 := 258) (pc' := 266) rfl (hb hby at_258) rfl (feq (by decide : ¬ ((3 : Int32) = (2 : Int32)))).2 (by decide) (by decide) hr) ?_
        show OwnR _ _ _ _ _ _ _ (T54.setTop (mkF m 266 #[.val (.long q1), .second, .val (.long q2), .second, .val (.long q3), .second, .val (.int p4), .val (.int p5), .val (.int (3 : Int32)), .val (.int pp), .val (.long (own_floor q1)), .second, .val (.long (own_floor q2)), .second, .val (.long (own_floor q3)), .second, .val (.ref b4), .val (.long (own_e3 pp (own_floor q1) (own_floor q2) (own_floor q3))), .second, .unset, .unset, .val (.int ((3 : Int32) * pp)), .val (.int (3 : Int32)), .val (.long (own_min (own_min (own_floor q1) (own_floor q2)) (own_floor q3))), .second, .val (.long (own_max (own_max (own_floor q1) (own_floor q2)) (own_floor q3))), .second, .val (.long (own_max (own_min (own_floor q1) (own_floor q2)) (own_min (own_max (own_floor q1) (own_floor q2)) (own_floor q3)))), .second] []))
        refine OwnR.of (fun _ hr => XS.lload X54.here hx rfl (hb hby at_266) rfl hr) ?_
        show OwnR _ _ _ _ _ _ _ (T54.setTop (mkF m 268 #[.val (.long q1), .second, .val (.long q2), .second, .val (.long q3), .second, .val (.int p4), .val (.int p5), .val (.int (3 : Int32)), .val (.int pp), .val (.long (own_floor q1)), .second, .val (.long (own_floor q2)), .second, .val (.long (own_floor q3)), .second, .val (.ref b4), .val (.long (own_e3 pp (own_floor q1) (own_floor q2) (own_floor q3))), .second, .unset, .unset, .val (.int ((3 : Int32) * pp)), .val (.int (3 : Int32)), .val (.long (own_min (own_min (own_floor q1) (own_floor q2)) (own_floor q3))), .second, .val (.long (own_max (own_max (own_floor q1) (own_floor q2)) (own_floor q3))), .second, .val (.long (own_max (own_min (own_floor q1) (own_floor q2)) (own_min (own_max (own_floor q1) (own_floor q2)) (own_floor q3)))), .second] [(.long (own_max (own_max (own_floor q1) (own_floor q2)) (own_floor q3)))]))
        refine OwnR.of (fun _ hr => XS.lstore X54.here hx rfl (hb hby at_268) rfl (l' := #[.val (.long q1), .second, .val (.long q2), .second, .val (.long q3), .second, .val (.int p4), .val (.int p5), .val (.int (3 : Int32)), .val (.int pp), .val (.long (own_floor q1)), .second, .val (.long (own_floor q2)), .second, .val (.long (own_floor q3)), .second, .val (.ref b4), .val (.long (own_e3 pp (own_floor q1) (own_floor q2) (own_floor q3))), .second, .val (.long (own_max (own_max (own_floor q1) (own_floor q2)) (own_floor q3))), .second, .val (.int ((3 : Int32) * pp)), .val (.int (3 : Int32)), .val (.long (own_min (own_min (own_floor q1) (own_floor q2)) (own_floor q3))), .second, .val (.long (own_max (own_max (own_floor q1) (own_floor q2)) (own_floor q3))), .second, .val (.long (own_max (own_min (own_floor q1) (own_floor q2)) (own_min (own_max (own_floor q1) (own_floor q2)) (own_floor q3)))), .second]) rfl hr) ?_
        show OwnR _ _ _ _ _ _ _ (T54.setTop (mkF m 270 #[.val (.long q1), .second, .val (.long q2), .second, .val (.long q3), .second, .val (.int p4), .val (.int p5), .val (.int (3 : Int32)), .val (.int pp), .val (.long (own_floor q1)), .second, .val (.long (own_floor q2)), .second, .val (.long (own_floor q3)), .second, .val (.ref b4), .val (.long (own_e3 pp (own_floor q1) (own_floor q2) (own_floor q3))), .second, .val (.long (own_max (own_max (own_floor q1) (own_floor q2)) (own_floor q3))), .second, .val (.int ((3 : Int32) * pp)), .val (.int (3 : Int32)), .val (.long (own_min (own_min (own_floor q1) (own_floor q2)) (own_floor q3))), .second, .val (.long (own_max (own_max (own_floor q1) (own_floor q2)) (own_floor q3))), .second, .val (.long (own_max (own_min (own_floor q1) (own_floor q2)) (own_min (own_max (own_floor q1) (own_floor q2)) (own_floor q3)))), .second] []))
        refine OwnR.of (fun _ hr => XS.lload X54.here hx rfl (hb hby at_270) rfl hr) ?_
        show OwnR _ _ _ _ _ _ _ (T54.setTop (mkF m 272 #[.val (.long q1), .second, .val (.long q2), .second, .val (.long q3), .second, .val (.int p4), .val (.int p5), .val (.int (3 : Int32)), .val (.int pp), .val (.long (own_floor q1)), .second, .val (.long (own_floor q2)), .second, .val (.long (own_floor q3)), .second, .val (.ref b4), .val (.long (own_e3 pp (own_floor q1) (own_floor q2) (own_floor q3))), .second, .val (.long (own_max (own_max (own_floor q1) (own_floor q2)) (own_floor q3))), .second, .val (.int ((3 : Int32) * pp)), .val (.int (3 : Int32)), .val (.long (own_min (own_min (own_floor q1) (own_floor q2)) (own_floor q3))), .second, .val (.long (own_max (own_max (own_floor q1) (own_floor q2)) (own_floor q3))), .second, .val (.long (own_max (own_min (own_floor q1) (own_floor q2)) (own_min (own_max (own_floor q1) (own_floor q2)) (own_floor q3)))), .second] [(.long (own_e3 pp (own_floor q1) (own_floor q2) (own_floor q3)))]))
        refine OwnR.of (fun _ hr => XS.lload X54.here hx rfl (hb hby at_272) rfl hr) ?_
        show OwnR _ _ _ _ _ _ _ (T54.setTop (mkF m 274 #[.val (.long q1), .second, .val (.long q2), .second, .val (.long q3), .second, .val (.int p4), .val (.int p5), .val (.int (3 : Int32)), .val (.int pp), .val (.long (own_floor q1)), .second, .val (.long (own_floor q2)), .second, .val (.long (own_floor q3)), .second, .val (.ref b4), .val (.long (own_e3 pp (own_floor q1) (own_floor q2) (own_floor q3))), .second, .val (.long (own_max (own_max (own_floor q1) (own_floor q2)) (own_floor q3))), .second, .val (.int ((3 : Int32) * pp)), .val (.int (3 : Int32)), .val (.long (own_min (own_min (own_floor q1) (own_floor q2)) (own_floor q3))), .second, .val (.long (own_max (own_max (own_floor q1) (own_floor q2)) (own_floor q3))), .second, .val (.long (own_max (own_min (own_floor q1) (own_floor q2)) (own_min (own_max (own_floor q1) (own_floor q2)) (own_floor q3)))), .second] [(.long (own_max (own_max (own_floor q1) (own_floor q2)) (own_floor q3))), (.long (own_e3 pp (own_floor q1) (own_floor q2) (own_floor q3)))]))
        refine OwnR.of (fun _ hr => XS.lcmp X54.here hx rfl (hb hby at_274) rfl hr) ?_
        show OwnR _ _ _ _ _ _ _ (T54.setTop (mkF m 275 #[.val (.long q1), .second, .val (.long q2), .second, .val (.long q3), .second, .val (.int p4), .val (.int p5), .val (.int (3 : Int32)), .val (.int pp), .val (.long (own_floor q1)), .second, .val (.long (own_floor q2)), .second, .val (.long (own_floor q3)), .second, .val (.ref b4), .val (.long (own_e3 pp (own_floor q1) (own_floor q2) (own_floor q3))), .second, .val (.long (own_max (own_max (own_floor q1) (own_floor q2)) (own_floor q3))), .second, .val (.int ((3 : Int32) * pp)), .val (.int (3 : Int32)), .val (.long (own_min (own_min (own_floor q1) (own_floor q2)) (own_floor q3))), .second, .val (.long (own_max (own_max (own_floor q1) (own_floor q2)) (own_floor q3))), .second, .val (.long (own_max (own_min (own_floor q1) (own_floor q2)) (own_min (own_max (own_floor q1) (own_floor q2)) (own_floor q3)))), .second] [(.int (lcmpW (own_e3 pp (own_floor q1) (own_floor q2) (own_floor q3)) (own_max (own_max (own_floor q1) (own_floor q2)) (own_floor q3))))]))
        have hc275_55 : (own_e3 pp (own_floor q1) (own_floor q2) (own_floor q3)) = (own_max (own_max (own_floor q1) (own_floor q2)) (own_floor q3)) := by
          refine Classical.byContradiction fun hbad => ?_
          exact hbad (by first | rfl | simp only [own_e2, own_e3, own_lo, own_mid, own_hi, if_pos hc123_45, if_pos hc135_46])
        refine OwnR.of (fun _ hr => XS.ifNo X54.here hx rfl (hb hby at_275) rfl ((if0 _ _).trans (teq ((own_lceq _ _).mpr hc275_55)).2) hr) ?_
        show OwnR _ _ _ _ _ _ _ (T54.setTop (mkF m 278 #[.val (.long q1), .second, .val (.long q2), .second, .val (.long q3), .second, .val (.int p4), .val (.int p5), .val (.int (3 : Int32)), .val (.int pp), .val (.long (own_floor q1)), .second, .val (.long (own_floor q2)), .second, .val (.long (own_floor q3)), .second, .val (.ref b4), .val (.long (own_e3 pp (own_floor q1) (own_floor q2) (own_floor q3))), .second, .val (.long (own_max (own_max (own_floor q1) (own_floor q2)) (own_floor q3))), .second, .val (.int ((3 : Int32) * pp)), .val (.int (3 : Int32)), .val (.long (own_min (own_min (own_floor q1) (own_floor q2)) (own_floor q3))), .second, .val (.long (own_max (own_max (own_floor q1) (own_floor q2)) (own_floor q3))), .second, .val (.long (own_max (own_min (own_floor q1) (own_floor q2)) (own_min (own_max (own_floor q1) (own_floor q2)) (own_floor q3)))), .second] []))
        refine OwnR.of (fun _ hr => XS.aload X54.here hx rfl (hb hby at_278) rfl rfl hr) ?_
        show OwnR _ _ _ _ _ _ _ (T54.setTop (mkF m 280 #[.val (.long q1), .second, .val (.long q2), .second, .val (.long q3), .second, .val (.int p4), .val (.int p5), .val (.int (3 : Int32)), .val (.int pp), .val (.long (own_floor q1)), .second, .val (.long (own_floor q2)), .second, .val (.long (own_floor q3)), .second, .val (.ref b4), .val (.long (own_e3 pp (own_floor q1) (own_floor q2) (own_floor q3))), .second, .val (.long (own_max (own_max (own_floor q1) (own_floor q2)) (own_floor q3))), .second, .val (.int ((3 : Int32) * pp)), .val (.int (3 : Int32)), .val (.long (own_min (own_min (own_floor q1) (own_floor q2)) (own_floor q3))), .second, .val (.long (own_max (own_max (own_floor q1) (own_floor q2)) (own_floor q3))), .second, .val (.long (own_max (own_min (own_floor q1) (own_floor q2)) (own_min (own_max (own_floor q1) (own_floor q2)) (own_floor q3)))), .second] [(.ref b4)]))
        obtain ⟨cq56, kq56, q56a, q56b, q56c⟩ := isOf hZ e54 P43_0
        obtain ⟨_, _, ⟨T56, L56, kc56, ns56⟩, -, X56, ⟨Lc56, hQ56, l56, y56, z56⟩, st56⟩ := X54.virtualBack hx (y := (⟨"com/example/kurir/kurir/bench/Latencies", "count", "()J"⟩ : MethodName)) (z := (⟨"com/example/kurir/kurir/bench/Latencies", "count", "()J"⟩ : MethodName)) hown (mvT hZ (hw _ (List.mem_of_getElem? (i := 81) rfl))) (mvT hZ (hw _ (List.mem_of_getElem? (i := 82) rfl))) (notFace_of_selects (args := #[]) (mvT hZ (hw _ (List.mem_of_getElem? (i := 84) rfl)))) (mvT hZ (hw _ (List.mem_of_getElem? (i := 84) rfl))) (mvT hZ (hw _ (List.mem_of_getElem? (i := 83) rfl))) (by decide) (backOf (W := 0) (rmCount l Z a0 hw [] b4 ((((0 : Int64) + (1 : Int64)) + (1 : Int64)) + (1 : Int64)) (T43.heap) n0 (Nat.le_trans Z0 K43.1) P43_0 P43_2) hZ (hw _ (List.mem_of_getElem? (i := 85) rfl)) (hw _ (List.mem_of_getElem? (i := 16) rfl)) (by decide) (by decide)) q56a q56c (g := (mkF m 280 #[.val (.long q1), .second, .val (.long q2), .second, .val (.long q3), .second, .val (.int p4), .val (.int p5), .val (.int (3 : Int32)), .val (.int pp), .val (.long (own_floor q1)), .second, .val (.long (own_floor q2)), .second, .val (.long (own_floor q3)), .second, .val (.ref b4), .val (.long (own_e3 pp (own_floor q1) (own_floor q2) (own_floor q3))), .second, .val (.long (own_max (own_max (own_floor q1) (own_floor q2)) (own_floor q3))), .second, .val (.int ((3 : Int32) * pp)), .val (.int (3 : Int32)), .val (.long (own_min (own_min (own_floor q1) (own_floor q2)) (own_floor q3))), .second, .val (.long (own_max (own_max (own_floor q1) (own_floor q2)) (own_floor q3))), .second, .val (.long (own_max (own_min (own_floor q1) (own_floor q2)) (own_min (own_max (own_floor q1) (own_floor q2)) (own_floor q3)))), .second] [(.ref b4)])) rfl (by rw [hml]; rfl) (Steps.refl _) (argsL := []) (rest := []) (lenOf pd___J rfl) rfl (by show 2 * 0 + _ ≤ _; exact Nat.le_of_eq rfl) (hb hby at_280) (fun _ _ => ⟨rfl, e54, (by decide : 5 + 0 ≤ _), (show 52 + sl1 + sl2 + sl3 + 0 ≤ 157376 from hr3)⟩)
        dsimp only [Pt.U, Pt.locs, Pt.cells, Pt.slots] at X56 l56 y56 z56 st56 hQ56
        rw [l56, y56, z56] at X56
        obtain ⟨rfl, N56q, e56⟩ := hQ56
        have N56 := Fr.app N54 N56q
        refine OwnR.of (fun _ hr => st56.trans hr) ?_
        show OwnR _ _ _ _ _ _ _ (T56.setTop (mkF m 283 #[.val (.long q1), .second, .val (.long q2), .second, .val (.long q3), .second, .val (.int p4), .val (.int p5), .val (.int (3 : Int32)), .val (.int pp), .val (.long (own_floor q1)), .second, .val (.long (own_floor q2)), .second, .val (.long (own_floor q3)), .second, .val (.ref b4), .val (.long (own_e3 pp (own_floor q1) (own_floor q2) (own_floor q3))), .second, .val (.long (own_max (own_max (own_floor q1) (own_floor q2)) (own_floor q3))), .second, .val (.int ((3 : Int32) * pp)), .val (.int (3 : Int32)), .val (.long (own_min (own_min (own_floor q1) (own_floor q2)) (own_floor q3))), .second, .val (.long (own_max (own_max (own_floor q1) (own_floor q2)) (own_floor q3))), .second, .val (.long (own_max (own_min (own_floor q1) (own_floor q2)) (own_min (own_max (own_floor q1) (own_floor q2)) (own_floor q3)))), .second] [(.long ((((0 : Int64) + (1 : Int64)) + (1 : Int64)) + (1 : Int64)))]))
        refine OwnR.of (fun _ hr => XS.iload X56.here hx rfl (hb hby at_283) rfl hr) ?_
        show OwnR _ _ _ _ _ _ _ (T56.setTop (mkF m 285 #[.val (.long q1), .second, .val (.long q2), .second, .val (.long q3), .second, .val (.int p4), .val (.int p5), .val (.int (3 : Int32)), .val (.int pp), .val (.long (own_floor q1)), .second, .val (.long (own_floor q2)), .second, .val (.long (own_floor q3)), .second, .val (.ref b4), .val (.long (own_e3 pp (own_floor q1) (own_floor q2) (own_floor q3))), .second, .val (.long (own_max (own_max (own_floor q1) (own_floor q2)) (own_floor q3))), .second, .val (.int ((3 : Int32) * pp)), .val (.int (3 : Int32)), .val (.long (own_min (own_min (own_floor q1) (own_floor q2)) (own_floor q3))), .second, .val (.long (own_max (own_max (own_floor q1) (own_floor q2)) (own_floor q3))), .second, .val (.long (own_max (own_min (own_floor q1) (own_floor q2)) (own_min (own_max (own_floor q1) (own_floor q2)) (own_floor q3)))), .second] [(.int (3 : Int32)), (.long ((((0 : Int64) + (1 : Int64)) + (1 : Int64)) + (1 : Int64)))]))
        refine OwnR.of (fun _ hr => XS.i2l X56.here hx rfl (hb hby at_285) rfl hr) ?_
        show OwnR _ _ _ _ _ _ _ (T56.setTop (mkF m 286 #[.val (.long q1), .second, .val (.long q2), .second, .val (.long q3), .second, .val (.int p4), .val (.int p5), .val (.int (3 : Int32)), .val (.int pp), .val (.long (own_floor q1)), .second, .val (.long (own_floor q2)), .second, .val (.long (own_floor q3)), .second, .val (.ref b4), .val (.long (own_e3 pp (own_floor q1) (own_floor q2) (own_floor q3))), .second, .val (.long (own_max (own_max (own_floor q1) (own_floor q2)) (own_floor q3))), .second, .val (.int ((3 : Int32) * pp)), .val (.int (3 : Int32)), .val (.long (own_min (own_min (own_floor q1) (own_floor q2)) (own_floor q3))), .second, .val (.long (own_max (own_max (own_floor q1) (own_floor q2)) (own_floor q3))), .second, .val (.long (own_max (own_min (own_floor q1) (own_floor q2)) (own_min (own_max (own_floor q1) (own_floor q2)) (own_floor q3)))), .second] [(.long ((3 : Int32).toInt64)), (.long ((((0 : Int64) + (1 : Int64)) + (1 : Int64)) + (1 : Int64)))]))
        rw [(by decide : ((3 : Int32).toInt64) = (3 : Int64))]
        show OwnR _ _ _ _ _ _ _ (T56.setTop (mkF m 286 #[.val (.long q1), .second, .val (.long q2), .second, .val (.long q3), .second, .val (.int p4), .val (.int p5), .val (.int (3 : Int32)), .val (.int pp), .val (.long (own_floor q1)), .second, .val (.long (own_floor q2)), .second, .val (.long (own_floor q3)), .second, .val (.ref b4), .val (.long (own_e3 pp (own_floor q1) (own_floor q2) (own_floor q3))), .second, .val (.long (own_max (own_max (own_floor q1) (own_floor q2)) (own_floor q3))), .second, .val (.int ((3 : Int32) * pp)), .val (.int (3 : Int32)), .val (.long (own_min (own_min (own_floor q1) (own_floor q2)) (own_floor q3))), .second, .val (.long (own_max (own_max (own_floor q1) (own_floor q2)) (own_floor q3))), .second, .val (.long (own_max (own_min (own_floor q1) (own_floor q2)) (own_min (own_max (own_floor q1) (own_floor q2)) (own_floor q3)))), .second] [(.long (3 : Int64)), (.long ((((0 : Int64) + (1 : Int64)) + (1 : Int64)) + (1 : Int64)))]))
        refine OwnR.of (fun _ hr => XS.lcmp X56.here hx rfl (hb hby at_286) rfl hr) ?_
        show OwnR _ _ _ _ _ _ _ (T56.setTop (mkF m 287 #[.val (.long q1), .second, .val (.long q2), .second, .val (.long q3), .second, .val (.int p4), .val (.int p5), .val (.int (3 : Int32)), .val (.int pp), .val (.long (own_floor q1)), .second, .val (.long (own_floor q2)), .second, .val (.long (own_floor q3)), .second, .val (.ref b4), .val (.long (own_e3 pp (own_floor q1) (own_floor q2) (own_floor q3))), .second, .val (.long (own_max (own_max (own_floor q1) (own_floor q2)) (own_floor q3))), .second, .val (.int ((3 : Int32) * pp)), .val (.int (3 : Int32)), .val (.long (own_min (own_min (own_floor q1) (own_floor q2)) (own_floor q3))), .second, .val (.long (own_max (own_max (own_floor q1) (own_floor q2)) (own_floor q3))), .second, .val (.long (own_max (own_min (own_floor q1) (own_floor q2)) (own_min (own_max (own_floor q1) (own_floor q2)) (own_floor q3)))), .second] [(.int (lcmpW ((((0 : Int64) + (1 : Int64)) + (1 : Int64)) + (1 : Int64)) (3 : Int64)))]))
        have hc287_57 : ((((0 : Int64) + (1 : Int64)) + (1 : Int64)) + (1 : Int64)) = (3 : Int64) := by
          refine Classical.byContradiction fun hbad => ?_
          exact hbad (by decide)
        refine OwnR.of (fun _ hr => XS.ifNo X56.here hx rfl (hb hby at_287) rfl ((if0 _ _).trans (teq ((own_lceq _ _).mpr hc287_57)).2) hr) ?_
        show OwnR _ _ _ _ _ _ _ (T56.setTop (mkF m 290 #[.val (.long q1), .second, .val (.long q2), .second, .val (.long q3), .second, .val (.int p4), .val (.int p5), .val (.int (3 : Int32)), .val (.int pp), .val (.long (own_floor q1)), .second, .val (.long (own_floor q2)), .second, .val (.long (own_floor q3)), .second, .val (.ref b4), .val (.long (own_e3 pp (own_floor q1) (own_floor q2) (own_floor q3))), .second, .val (.long (own_max (own_max (own_floor q1) (own_floor q2)) (own_floor q3))), .second, .val (.int ((3 : Int32) * pp)), .val (.int (3 : Int32)), .val (.long (own_min (own_min (own_floor q1) (own_floor q2)) (own_floor q3))), .second, .val (.long (own_max (own_max (own_floor q1) (own_floor q2)) (own_floor q3))), .second, .val (.long (own_max (own_min (own_floor q1) (own_floor q2)) (own_min (own_max (own_floor q1) (own_floor q2)) (own_floor q3)))), .second] []))
        refine OwnR.of (fun _ hr => XS.iconst X56.here hx rfl (hb hby at_290) hr) ?_
        show OwnR _ _ _ _ _ _ _ (T56.setTop (mkF m 291 #[.val (.long q1), .second, .val (.long q2), .second, .val (.long q3), .second, .val (.int p4), .val (.int p5), .val (.int (3 : Int32)), .val (.int pp), .val (.long (own_floor q1)), .second, .val (.long (own_floor q2)), .second, .val (.long (own_floor q3)), .second, .val (.ref b4), .val (.long (own_e3 pp (own_floor q1) (own_floor q2) (own_floor q3))), .second, .val (.long (own_max (own_max (own_floor q1) (own_floor q2)) (own_floor q3))), .second, .val (.int ((3 : Int32) * pp)), .val (.int (3 : Int32)), .val (.long (own_min (own_min (own_floor q1) (own_floor q2)) (own_floor q3))), .second, .val (.long (own_max (own_max (own_floor q1) (own_floor q2)) (own_floor q3))), .second, .val (.long (own_max (own_min (own_floor q1) (own_floor q2)) (own_min (own_max (own_floor q1) (own_floor q2)) (own_floor q3)))), .second] [(.int (1 : Int32))]))
        refine OwnR.of (fun _ hr => XS.goto X56.here hx rfl (pc0 := 291) (pc' := 295) rfl (hb hby at_291) (by decide) (by decide) hr) ?_
        show OwnR _ _ _ _ _ _ _ (T56.setTop (mkF m 295 #[.val (.long q1), .second, .val (.long q2), .second, .val (.long q3), .second, .val (.int p4), .val (.int p5), .val (.int (3 : Int32)), .val (.int pp), .val (.long (own_floor q1)), .second, .val (.long (own_floor q2)), .second, .val (.long (own_floor q3)), .second, .val (.ref b4), .val (.long (own_e3 pp (own_floor q1) (own_floor q2) (own_floor q3))), .second, .val (.long (own_max (own_max (own_floor q1) (own_floor q2)) (own_floor q3))), .second, .val (.int ((3 : Int32) * pp)), .val (.int (3 : Int32)), .val (.long (own_min (own_min (own_floor q1) (own_floor q2)) (own_floor q3))), .second, .val (.long (own_max (own_max (own_floor q1) (own_floor q2)) (own_floor q3))), .second, .val (.long (own_max (own_min (own_floor q1) (own_floor q2)) (own_min (own_max (own_floor q1) (own_floor q2)) (own_floor q3)))), .second] [(.int (1 : Int32))]))
        refine own_leafN X56 hx hlk (t := .boolean) Bd.returns (by simp) (hb hby at_295) (z' := (1 : Int32)) rfl (by decide) (show 52 + sl1 + sl2 + sl3 ≤ 157376 from hr3) ?_
        show Q0 Z  h0 n0 _ T56.heap _
        rw [show T56.heap = T43.heap from e56]
        refine ⟨?_, N56⟩
        show (some (.int (1 : Int32)) : Option Value) = some (.int (1 : Int32))
        rfl
      · skip
        refine OwnR.of (fun _ hr => XS.icmpNo X44.here hx rfl (hb hby at_135) rfl (flt hc135_46).2.2.1 hr) ?_
        show OwnR _ _ _ _ _ _ _ (T44.setTop (mkF m 138 #[.val (.long q1), .second, .val (.long q2), .second, .val (.long q3), .second, .val (.int p4), .val (.int p5), .val (.int (3 : Int32)), .val (.int pp), .val (.long (own_floor q1)), .second, .val (.long (own_floor q2)), .second, .val (.long (own_floor q3)), .second, .val (.ref b4), .val (.long (own_e3 pp (own_floor q1) (own_floor q2) (own_floor q3))), .second, .unset, .unset, .val (.int ((3 : Int32) * pp)), .unset, .unset, .unset, .unset, .unset, .unset, .unset] []))
        refine OwnR.of (fun _ hr => XS.iconst X44.here hx rfl (hb hby at_138) hr) ?_
        show OwnR _ _ _ _ _ _ _ (T44.setTop (mkF m 139 #[.val (.long q1), .second, .val (.long q2), .second, .val (.long q3), .second, .val (.int p4), .val (.int p5), .val (.int (3 : Int32)), .val (.int pp), .val (.long (own_floor q1)), .second, .val (.long (own_floor q2)), .second, .val (.long (own_floor q3)), .second, .val (.ref b4), .val (.long (own_e3 pp (own_floor q1) (own_floor q2) (own_floor q3))), .second, .unset, .unset, .val (.int ((3 : Int32) * pp)), .unset, .unset, .unset, .unset, .unset, .unset, .unset] [(.int (2 : Int32))]))
        refine OwnR.of (fun _ hr => XS.goto X44.here hx rfl (pc0 := 139) (pc' := 143) rfl (hb hby at_139) (by decide) (by decide) hr) ?_
        show OwnR _ _ _ _ _ _ _ (T44.setTop (mkF m 143 #[.val (.long q1), .second, .val (.long q2), .second, .val (.long q3), .second, .val (.int p4), .val (.int p5), .val (.int (3 : Int32)), .val (.int pp), .val (.long (own_floor q1)), .second, .val (.long (own_floor q2)), .second, .val (.long (own_floor q3)), .second, .val (.ref b4), .val (.long (own_e3 pp (own_floor q1) (own_floor q2) (own_floor q3))), .second, .unset, .unset, .val (.int ((3 : Int32) * pp)), .unset, .unset, .unset, .unset, .unset, .unset, .unset] [(.int (2 : Int32))]))
        refine OwnR.of (fun _ hr => XS.istore X44.here hx rfl (hb hby at_143) rfl (l' := #[.val (.long q1), .second, .val (.long q2), .second, .val (.long q3), .second, .val (.int p4), .val (.int p5), .val (.int (3 : Int32)), .val (.int pp), .val (.long (own_floor q1)), .second, .val (.long (own_floor q2)), .second, .val (.long (own_floor q3)), .second, .val (.ref b4), .val (.long (own_e3 pp (own_floor q1) (own_floor q2) (own_floor q3))), .second, .unset, .unset, .val (.int ((3 : Int32) * pp)), .val (.int (2 : Int32)), .unset, .unset, .unset, .unset, .unset, .unset]) rfl hr) ?_
        show OwnR _ _ _ _ _ _ _ (T44.setTop (mkF m 145 #[.val (.long q1), .second, .val (.long q2), .second, .val (.long q3), .second, .val (.int p4), .val (.int p5), .val (.int (3 : Int32)), .val (.int pp), .val (.long (own_floor q1)), .second, .val (.long (own_floor q2)), .second, .val (.long (own_floor q3)), .second, .val (.ref b4), .val (.long (own_e3 pp (own_floor q1) (own_floor q2) (own_floor q3))), .second, .unset, .unset, .val (.int ((3 : Int32) * pp)), .val (.int (2 : Int32)), .unset, .unset, .unset, .unset, .unset, .unset] []))
        refine OwnR.of (fun _ hr => XS.iload X44.here hx rfl (hb hby at_145) rfl hr) ?_
        show OwnR _ _ _ _ _ _ _ (T44.setTop (mkF m 147 #[.val (.long q1), .second, .val (.long q2), .second, .val (.long q3), .second, .val (.int p4), .val (.int p5), .val (.int (3 : Int32)), .val (.int pp), .val (.long (own_floor q1)), .second, .val (.long (own_floor q2)), .second, .val (.long (own_floor q3)), .second, .val (.ref b4), .val (.long (own_e3 pp (own_floor q1) (own_floor q2) (own_floor q3))), .second, .unset, .unset, .val (.int ((3 : Int32) * pp)), .val (.int (2 : Int32)), .unset, .unset, .unset, .unset, .unset, .unset] [(.int (3 : Int32))]))
        refine OwnR.of (fun _ hr => XS.iconst X44.here hx rfl (hb hby at_147) hr) ?_
        show OwnR _ _ _ _ _ _ _ (T44.setTop (mkF m 148 #[.val (.long q1), .second, .val (.long q2), .second, .val (.long q3), .second, .val (.int p4), .val (.int p5), .val (.int (3 : Int32)), .val (.int pp), .val (.long (own_floor q1)), .second, .val (.long (own_floor q2)), .second, .val (.long (own_floor q3)), .second, .val (.ref b4), .val (.long (own_e3 pp (own_floor q1) (own_floor q2) (own_floor q3))), .second, .unset, .unset, .val (.int ((3 : Int32) * pp)), .val (.int (2 : Int32)), .unset, .unset, .unset, .unset, .unset, .unset] [(.int (1 : Int32)), (.int (3 : Int32))]))
        refine OwnR.of (fun _ hr => XS.icmpYes X44.here hx rfl (pc0 := 148) (pc' := 158) rfl (hb hby at_148) rfl (feq (by decide : ¬ ((3 : Int32) = (1 : Int32)))).2 (by decide) (by decide) hr) ?_
        show OwnR _ _ _ _ _ _ _ (T44.setTop (mkF m 158 #[.val (.long q1), .second, .val (.long q2), .second, .val (.long q3), .second, .val (.int p4), .val (.int p5), .val (.int (3 : Int32)), .val (.int pp), .val (.long (own_floor q1)), .second, .val (.long (own_floor q2)), .second, .val (.long (own_floor q3)), .second, .val (.ref b4), .val (.long (own_e3 pp (own_floor q1) (own_floor q2) (own_floor q3))), .second, .unset, .unset, .val (.int ((3 : Int32) * pp)), .val (.int (2 : Int32)), .unset, .unset, .unset, .unset, .unset, .unset] []))
        refine OwnR.of (fun _ hr => XS.iload X44.here hx rfl (hb hby at_158) rfl hr) ?_
        show OwnR _ _ _ _ _ _ _ (T44.setTop (mkF m 160 #[.val (.long q1), .second, .val (.long q2), .second, .val (.long q3), .second, .val (.int p4), .val (.int p5), .val (.int (3 : Int32)), .val (.int pp), .val (.long (own_floor q1)), .second, .val (.long (own_floor q2)), .second, .val (.long (own_floor q3)), .second, .val (.ref b4), .val (.long (own_e3 pp (own_floor q1) (own_floor q2) (own_floor q3))), .second, .unset, .unset, .val (.int ((3 : Int32) * pp)), .val (.int (2 : Int32)), .unset, .unset, .unset, .unset, .unset, .unset] [(.int (3 : Int32))]))
        refine OwnR.of (fun _ hr => XS.iconst X44.here hx rfl (hb hby at_160) hr) ?_
        show OwnR _ _ _ _ _ _ _ (T44.setTop (mkF m 161 #[.val (.long q1), .second, .val (.long q2), .second, .val (.long q3), .second, .val (.int p4), .val (.int p5), .val (.int (3 : Int32)), .val (.int pp), .val (.long (own_floor q1)), .second, .val (.long (own_floor q2)), .second, .val (.long (own_floor q3)), .second, .val (.ref b4), .val (.long (own_e3 pp (own_floor q1) (own_floor q2) (own_floor q3))), .second, .unset, .unset, .val (.int ((3 : Int32) * pp)), .val (.int (2 : Int32)), .unset, .unset, .unset, .unset, .unset, .unset] [(.int (2 : Int32)), (.int (3 : Int32))]))
        refine OwnR.of (fun _ hr => XS.icmpYes X44.here hx rfl (pc0 := 161) (pc' := 192) rfl (hb hby at_161) rfl (feq (by decide : ¬ ((3 : Int32) = (2 : Int32)))).2 (by decide) (by decide) hr) ?_
        show OwnR _ _ _ _ _ _ _ (T44.setTop (mkF m 192 #[.val (.long q1), .second, .val (.long q2), .second, .val (.long q3), .second, .val (.int p4), .val (.int p5), .val (.int (3 : Int32)), .val (.int pp), .val (.long (own_floor q1)), .second, .val (.long (own_floor q2)), .second, .val (.long (own_floor q3)), .second, .val (.ref b4), .val (.long (own_e3 pp (own_floor q1) (own_floor q2) (own_floor q3))), .second, .unset, .unset, .val (.int ((3 : Int32) * pp)), .val (.int (2 : Int32)), .unset, .unset, .unset, .unset, .unset, .unset] []))
        refine OwnR.of (fun _ hr => XS.lload X44.here hx rfl (hb hby at_192) rfl hr) ?_
        show OwnR _ _ _ _ _ _ _ (T44.setTop (mkF m 194 #[.val (.long q1), .second, .val (.long q2), .second, .val (.long q3), .second, .val (.int p4), .val (.int p5), .val (.int (3 : Int32)), .val (.int pp), .val (.long (own_floor q1)), .second, .val (.long (own_floor q2)), .second, .val (.long (own_floor q3)), .second, .val (.ref b4), .val (.long (own_e3 pp (own_floor q1) (own_floor q2) (own_floor q3))), .second, .unset, .unset, .val (.int ((3 : Int32) * pp)), .val (.int (2 : Int32)), .unset, .unset, .unset, .unset, .unset, .unset] [(.long (own_floor q1))]))
        refine OwnR.of (fun _ hr => XS.lload X44.here hx rfl (hb hby at_194) rfl hr) ?_
        show OwnR _ _ _ _ _ _ _ (T44.setTop (mkF m 196 #[.val (.long q1), .second, .val (.long q2), .second, .val (.long q3), .second, .val (.int p4), .val (.int p5), .val (.int (3 : Int32)), .val (.int pp), .val (.long (own_floor q1)), .second, .val (.long (own_floor q2)), .second, .val (.long (own_floor q3)), .second, .val (.ref b4), .val (.long (own_e3 pp (own_floor q1) (own_floor q2) (own_floor q3))), .second, .unset, .unset, .val (.int ((3 : Int32) * pp)), .val (.int (2 : Int32)), .unset, .unset, .unset, .unset, .unset, .unset] [(.long (own_floor q2)), (.long (own_floor q1))]))
        obtain ⟨_, _, ⟨T58, L58, kc58, ns58⟩, -, X58, ⟨Lc58, hQ58, l58, y58, z58⟩, st58⟩ := Jvm.LawKit.callS X44 hx (y := (⟨"java/lang/Math", "min", "(JJ)J"⟩ : MethodName)) hown (mvT hZ (hw _ (List.mem_of_getElem? (i := 77) rfl))) (mvT hZ (hw _ (List.mem_of_getElem? (i := 78) rfl))) (mvT hZ (hw _ (List.mem_of_getElem? (i := 41) rfl))) (mvT hZ (hw _ (List.mem_of_getElem? (i := 79) rfl))) (by decide) (backOf (W := 0) (rmMinJ l Z a0 hw [] (own_floor q1) (own_floor q2) (T43.heap) n0 (Nat.le_trans Z0 K43.1) ) hZ (hw _ (List.mem_of_getElem? (i := 79) rfl)) (hw _ (List.mem_of_getElem? (i := 41) rfl)) (by decide) (by decide)) (g := (mkF m 196 #[.val (.long q1), .second, .val (.long q2), .second, .val (.long q3), .second, .val (.int p4), .val (.int p5), .val (.int (3 : Int32)), .val (.int pp), .val (.long (own_floor q1)), .second, .val (.long (own_floor q2)), .second, .val (.long (own_floor q3)), .second, .val (.ref b4), .val (.long (own_e3 pp (own_floor q1) (own_floor q2) (own_floor q3))), .second, .unset, .unset, .val (.int ((3 : Int32) * pp)), .val (.int (2 : Int32)), .unset, .unset, .unset, .unset, .unset, .unset] [(.long (own_floor q2)), (.long (own_floor q1))])) rfl (by rw [hml]; rfl) (argsL := [(.long (own_floor q1)), (.long (own_floor q2))]) (rest := []) (lenOf pd__JJ_J rfl) rfl (by show 2 * 0 + _ ≤ _; exact Nat.le_of_eq rfl) (hb hby at_196) (fun _ _ => ⟨rfl, e44, (by decide : 5 + 0 ≤ _), (show 52 + sl1 + sl2 + sl3 + 0 ≤ 157376 from hr3)⟩)
        dsimp only [Pt.U, Pt.locs, Pt.cells, Pt.slots] at X58 l58 y58 z58 st58 hQ58
        rw [l58, y58, z58] at X58
        obtain ⟨rfl, N58q, e58⟩ := hQ58
        have N58 := Fr.app N44 N58q
        refine OwnR.of (st58) ?_
        show OwnR _ _ _ _ _ _ _ (T58.setTop (mkF m 199 #[.val (.long q1), .second, .val (.long q2), .second, .val (.long q3), .second, .val (.int p4), .val (.int p5), .val (.int (3 : Int32)), .val (.int pp), .val (.long (own_floor q1)), .second, .val (.long (own_floor q2)), .second, .val (.long (own_floor q3)), .second, .val (.ref b4), .val (.long (own_e3 pp (own_floor q1) (own_floor q2) (own_floor q3))), .second, .unset, .unset, .val (.int ((3 : Int32) * pp)), .val (.int (2 : Int32)), .unset, .unset, .unset, .unset, .unset, .unset] [(.long (own_min (own_floor q1) (own_floor q2)))]))
        refine OwnR.of (fun _ hr => XS.lload X58.here hx rfl (hb hby at_199) rfl hr) ?_
        show OwnR _ _ _ _ _ _ _ (T58.setTop (mkF m 201 #[.val (.long q1), .second, .val (.long q2), .second, .val (.long q3), .second, .val (.int p4), .val (.int p5), .val (.int (3 : Int32)), .val (.int pp), .val (.long (own_floor q1)), .second, .val (.long (own_floor q2)), .second, .val (.long (own_floor q3)), .second, .val (.ref b4), .val (.long (own_e3 pp (own_floor q1) (own_floor q2) (own_floor q3))), .second, .unset, .unset, .val (.int ((3 : Int32) * pp)), .val (.int (2 : Int32)), .unset, .unset, .unset, .unset, .unset, .unset] [(.long (own_floor q3)), (.long (own_min (own_floor q1) (own_floor q2)))]))
        obtain ⟨_, _, ⟨T59, L59, kc59, ns59⟩, -, X59, ⟨Lc59, hQ59, l59, y59, z59⟩, st59⟩ := Jvm.LawKit.callS X58 hx (y := (⟨"java/lang/Math", "min", "(JJ)J"⟩ : MethodName)) hown (mvT hZ (hw _ (List.mem_of_getElem? (i := 77) rfl))) (mvT hZ (hw _ (List.mem_of_getElem? (i := 78) rfl))) (mvT hZ (hw _ (List.mem_of_getElem? (i := 41) rfl))) (mvT hZ (hw _ (List.mem_of_getElem? (i := 79) rfl))) (by decide) (backOf (W := 0) (rmMinJ l Z a0 hw [] (own_min (own_floor q1) (own_floor q2)) (own_floor q3) (T43.heap) n0 (Nat.le_trans Z0 K43.1) ) hZ (hw _ (List.mem_of_getElem? (i := 79) rfl)) (hw _ (List.mem_of_getElem? (i := 41) rfl)) (by decide) (by decide)) (g := (mkF m 201 #[.val (.long q1), .second, .val (.long q2), .second, .val (.long q3), .second, .val (.int p4), .val (.int p5), .val (.int (3 : Int32)), .val (.int pp), .val (.long (own_floor q1)), .second, .val (.long (own_floor q2)), .second, .val (.long (own_floor q3)), .second, .val (.ref b4), .val (.long (own_e3 pp (own_floor q1) (own_floor q2) (own_floor q3))), .second, .unset, .unset, .val (.int ((3 : Int32) * pp)), .val (.int (2 : Int32)), .unset, .unset, .unset, .unset, .unset, .unset] [(.long (own_floor q3)), (.long (own_min (own_floor q1) (own_floor q2)))])) rfl (by rw [hml]; rfl) (argsL := [(.long (own_min (own_floor q1) (own_floor q2))), (.long (own_floor q3))]) (rest := []) (lenOf pd__JJ_J rfl) rfl (by show 2 * 0 + _ ≤ _; exact Nat.le_of_eq rfl) (hb hby at_201) (fun _ _ => ⟨rfl, e58, (by decide : 5 + 0 ≤ _), (show 52 + sl1 + sl2 + sl3 + 0 ≤ 157376 from hr3)⟩)
        dsimp only [Pt.U, Pt.locs, Pt.cells, Pt.slots] at X59 l59 y59 z59 st59 hQ59
        rw [l59, y59, z59] at X59
        obtain ⟨rfl, N59q, e59⟩ := hQ59
        have N59 := Fr.app N58 N59q
        refine OwnR.of (st59) ?_
        show OwnR _ _ _ _ _ _ _ (T59.setTop (mkF m 204 #[.val (.long q1), .second, .val (.long q2), .second, .val (.long q3), .second, .val (.int p4), .val (.int p5), .val (.int (3 : Int32)), .val (.int pp), .val (.long (own_floor q1)), .second, .val (.long (own_floor q2)), .second, .val (.long (own_floor q3)), .second, .val (.ref b4), .val (.long (own_e3 pp (own_floor q1) (own_floor q2) (own_floor q3))), .second, .unset, .unset, .val (.int ((3 : Int32) * pp)), .val (.int (2 : Int32)), .unset, .unset, .unset, .unset, .unset, .unset] [(.long (own_min (own_min (own_floor q1) (own_floor q2)) (own_floor q3)))]))
        refine OwnR.of (fun _ hr => XS.lstore X59.here hx rfl (hb hby at_204) rfl (l' := #[.val (.long q1), .second, .val (.long q2), .second, .val (.long q3), .second, .val (.int p4), .val (.int p5), .val (.int (3 : Int32)), .val (.int pp), .val (.long (own_floor q1)), .second, .val (.long (own_floor q2)), .second, .val (.long (own_floor q3)), .second, .val (.ref b4), .val (.long (own_e3 pp (own_floor q1) (own_floor q2) (own_floor q3))), .second, .unset, .unset, .val (.int ((3 : Int32) * pp)), .val (.int (2 : Int32)), .val (.long (own_min (own_min (own_floor q1) (own_floor q2)) (own_floor q3))), .second, .unset, .unset, .unset, .unset]) rfl hr) ?_
        show OwnR _ _ _ _ _ _ _ (T59.setTop (mkF m 206 #[.val (.long q1), .second, .val (.long q2), .second, .val (.long q3), .second, .val (.int p4), .val (.int p5), .val (.int (3 : Int32)), .val (.int pp), .val (.long (own_floor q1)), .second, .val (.long (own_floor q2)), .second, .val (.long (own_floor q3)), .second, .val (.ref b4), .val (.long (own_e3 pp (own_floor q1) (own_floor q2) (own_floor q3))), .second, .unset, .unset, .val (.int ((3 : Int32) * pp)), .val (.int (2 : Int32)), .val (.long (own_min (own_min (own_floor q1) (own_floor q2)) (own_floor q3))), .second, .unset, .unset, .unset, .unset] []))
        refine OwnR.of (fun _ hr => XS.lload X59.here hx rfl (hb hby at_206) rfl hr) ?_
        show OwnR _ _ _ _ _ _ _ (T59.setTop (mkF m 208 #[.val (.long q1), .second, .val (.long q2), .second, .val (.long q3), .second, .val (.int p4), .val (.int p5), .val (.int (3 : Int32)), .val (.int pp), .val (.long (own_floor q1)), .second, .val (.long (own_floor q2)), .second, .val (.long (own_floor q3)), .second, .val (.ref b4), .val (.long (own_e3 pp (own_floor q1) (own_floor q2) (own_floor q3))), .second, .unset, .unset, .val (.int ((3 : Int32) * pp)), .val (.int (2 : Int32)), .val (.long (own_min (own_min (own_floor q1) (own_floor q2)) (own_floor q3))), .second, .unset, .unset, .unset, .unset] [(.long (own_floor q1))]))
        refine OwnR.of (fun _ hr => XS.lload X59.here hx rfl (hb hby at_208) rfl hr) ?_
        show OwnR _ _ _ _ _ _ _ (T59.setTop (mkF m 210 #[.val (.long q1), .second, .val (.long q2), .second, .val (.long q3), .second, .val (.int p4), .val (.int p5), .val (.int (3 : Int32)), .val (.int pp), .val (.long (own_floor q1)), .second, .val (.long (own_floor q2)), .second, .val (.long (own_floor q3)), .second, .val (.ref b4), .val (.long (own_e3 pp (own_floor q1) (own_floor q2) (own_floor q3))), .second, .unset, .unset, .val (.int ((3 : Int32) * pp)), .val (.int (2 : Int32)), .val (.long (own_min (own_min (own_floor q1) (own_floor q2)) (own_floor q3))), .second, .unset, .unset, .unset, .unset] [(.long (own_floor q2)), (.long (own_floor q1))]))
        obtain ⟨_, _, ⟨T60, L60, kc60, ns60⟩, -, X60, ⟨Lc60, hQ60, l60, y60, z60⟩, st60⟩ := Jvm.LawKit.callS X59 hx (y := (⟨"java/lang/Math", "max", "(JJ)J"⟩ : MethodName)) hown (mvT hZ (hw _ (List.mem_of_getElem? (i := 80) rfl))) (mvT hZ (hw _ (List.mem_of_getElem? (i := 40) rfl))) (mvT hZ (hw _ (List.mem_of_getElem? (i := 41) rfl))) (mvT hZ (hw _ (List.mem_of_getElem? (i := 42) rfl))) (by decide) (backOf (W := 0) (rmMaxJ l Z a0 hw [] (own_floor q1) (own_floor q2) (T43.heap) n0 (Nat.le_trans Z0 K43.1) ) hZ (hw _ (List.mem_of_getElem? (i := 42) rfl)) (hw _ (List.mem_of_getElem? (i := 41) rfl)) (by decide) (by decide)) (g := (mkF m 210 #[.val (.long q1), .second, .val (.long q2), .second, .val (.long q3), .second, .val (.int p4), .val (.int p5), .val (.int (3 : Int32)), .val (.int pp), .val (.long (own_floor q1)), .second, .val (.long (own_floor q2)), .second, .val (.long (own_floor q3)), .second, .val (.ref b4), .val (.long (own_e3 pp (own_floor q1) (own_floor q2) (own_floor q3))), .second, .unset, .unset, .val (.int ((3 : Int32) * pp)), .val (.int (2 : Int32)), .val (.long (own_min (own_min (own_floor q1) (own_floor q2)) (own_floor q3))), .second, .unset, .unset, .unset, .unset] [(.long (own_floor q2)), (.long (own_floor q1))])) rfl (by rw [hml]; rfl) (argsL := [(.long (own_floor q1)), (.long (own_floor q2))]) (rest := []) (lenOf pd__JJ_J rfl) rfl (by show 2 * 0 + _ ≤ _; exact Nat.le_of_eq rfl) (hb hby at_210) (fun _ _ => ⟨rfl, e59, (by decide : 5 + 0 ≤ _), (show 52 + sl1 + sl2 + sl3 + 0 ≤ 157376 from hr3)⟩)
        dsimp only [Pt.U, Pt.locs, Pt.cells, Pt.slots] at X60 l60 y60 z60 st60 hQ60
        rw [l60, y60, z60] at X60
        obtain ⟨rfl, N60q, e60⟩ := hQ60
        have N60 := Fr.app N59 N60q
        refine OwnR.of (st60) ?_
        show OwnR _ _ _ _ _ _ _ (T60.setTop (mkF m 213 #[.val (.long q1), .second, .val (.long q2), .second, .val (.long q3), .second, .val (.int p4), .val (.int p5), .val (.int (3 : Int32)), .val (.int pp), .val (.long (own_floor q1)), .second, .val (.long (own_floor q2)), .second, .val (.long (own_floor q3)), .second, .val (.ref b4), .val (.long (own_e3 pp (own_floor q1) (own_floor q2) (own_floor q3))), .second, .unset, .unset, .val (.int ((3 : Int32) * pp)), .val (.int (2 : Int32)), .val (.long (own_min (own_min (own_floor q1) (own_floor q2)) (own_floor q3))), .second, .unset, .unset, .unset, .unset] [(.long (own_max (own_floor q1) (own_floor q2)))]))
        refine OwnR.of (fun _ hr => XS.lload X60.here hx rfl (hb hby at_213) rfl hr) ?_
        show OwnR _ _ _ _ _ _ _ (T60.setTop (mkF m 215 #[.val (.long q1), .second, .val (.long q2), .second, .val (.long q3), .second, .val (.int p4), .val (.int p5), .val (.int (3 : Int32)), .val (.int pp), .val (.long (own_floor q1)), .second, .val (.long (own_floor q2)), .second, .val (.long (own_floor q3)), .second, .val (.ref b4), .val (.long (own_e3 pp (own_floor q1) (own_floor q2) (own_floor q3))), .second, .unset, .unset, .val (.int ((3 : Int32) * pp)), .val (.int (2 : Int32)), .val (.long (own_min (own_min (own_floor q1) (own_floor q2)) (own_floor q3))), .second, .unset, .unset, .unset, .unset] [(.long (own_floor q3)), (.long (own_max (own_floor q1) (own_floor q2)))]))
        obtain ⟨_, _, ⟨T61, L61, kc61, ns61⟩, -, X61, ⟨Lc61, hQ61, l61, y61, z61⟩, st61⟩ := Jvm.LawKit.callS X60 hx (y := (⟨"java/lang/Math", "max", "(JJ)J"⟩ : MethodName)) hown (mvT hZ (hw _ (List.mem_of_getElem? (i := 80) rfl))) (mvT hZ (hw _ (List.mem_of_getElem? (i := 40) rfl))) (mvT hZ (hw _ (List.mem_of_getElem? (i := 41) rfl))) (mvT hZ (hw _ (List.mem_of_getElem? (i := 42) rfl))) (by decide) (backOf (W := 0) (rmMaxJ l Z a0 hw [] (own_max (own_floor q1) (own_floor q2)) (own_floor q3) (T43.heap) n0 (Nat.le_trans Z0 K43.1) ) hZ (hw _ (List.mem_of_getElem? (i := 42) rfl)) (hw _ (List.mem_of_getElem? (i := 41) rfl)) (by decide) (by decide)) (g := (mkF m 215 #[.val (.long q1), .second, .val (.long q2), .second, .val (.long q3), .second, .val (.int p4), .val (.int p5), .val (.int (3 : Int32)), .val (.int pp), .val (.long (own_floor q1)), .second, .val (.long (own_floor q2)), .second, .val (.long (own_floor q3)), .second, .val (.ref b4), .val (.long (own_e3 pp (own_floor q1) (own_floor q2) (own_floor q3))), .second, .unset, .unset, .val (.int ((3 : Int32) * pp)), .val (.int (2 : Int32)), .val (.long (own_min (own_min (own_floor q1) (own_floor q2)) (own_floor q3))), .second, .unset, .unset, .unset, .unset] [(.long (own_floor q3)), (.long (own_max (own_floor q1) (own_floor q2)))])) rfl (by rw [hml]; rfl) (argsL := [(.long (own_max (own_floor q1) (own_floor q2))), (.long (own_floor q3))]) (rest := []) (lenOf pd__JJ_J rfl) rfl (by show 2 * 0 + _ ≤ _; exact Nat.le_of_eq rfl) (hb hby at_215) (fun _ _ => ⟨rfl, e60, (by decide : 5 + 0 ≤ _), (show 52 + sl1 + sl2 + sl3 + 0 ≤ 157376 from hr3)⟩)
        dsimp only [Pt.U, Pt.locs, Pt.cells, Pt.slots] at X61 l61 y61 z61 st61 hQ61
        rw [l61, y61, z61] at X61
        obtain ⟨rfl, N61q, e61⟩ := hQ61
        have N61 := Fr.app N60 N61q
        refine OwnR.of (st61) ?_
        show OwnR _ _ _ _ _ _ _ (T61.setTop (mkF m 218 #[.val (.long q1), .second, .val (.long q2), .second, .val (.long q3), .second, .val (.int p4), .val (.int p5), .val (.int (3 : Int32)), .val (.int pp), .val (.long (own_floor q1)), .second, .val (.long (own_floor q2)), .second, .val (.long (own_floor q3)), .second, .val (.ref b4), .val (.long (own_e3 pp (own_floor q1) (own_floor q2) (own_floor q3))), .second, .unset, .unset, .val (.int ((3 : Int32) * pp)), .val (.int (2 : Int32)), .val (.long (own_min (own_min (own_floor q1) (own_floor q2)) (own_floor q3))), .second, .unset, .unset, .unset, .unset] [(.long (own_max (own_max (own_floor q1) (own_floor q2)) (own_floor q3)))]))
        refine OwnR.of (fun _ hr => XS.lstore X61.here hx rfl (hb hby at_218) rfl (l' := #[.val (.long q1), .second, .val (.long q2), .second, .val (.long q3), .second, .val (.int p4), .val (.int p5), .val (.int (3 : Int32)), .val (.int pp), .val (.long (own_floor q1)), .second, .val (.long (own_floor q2)), .second, .val (.long (own_floor q3)), .second, .val (.ref b4), .val (.long (own_e3 pp (own_floor q1) (own_floor q2) (own_floor q3))), .second, .unset, .unset, .val (.int ((3 : Int32) * pp)), .val (.int (2 : Int32)), .val (.long (own_min (own_min (own_floor q1) (own_floor q2)) (own_floor q3))), .second, .val (.long (own_max (own_max (own_floor q1) (own_floor q2)) (own_floor q3))), .second, .unset, .unset]) rfl hr) ?_
        show OwnR _ _ _ _ _ _ _ (T61.setTop (mkF m 220 #[.val (.long q1), .second, .val (.long q2), .second, .val (.long q3), .second, .val (.int p4), .val (.int p5), .val (.int (3 : Int32)), .val (.int pp), .val (.long (own_floor q1)), .second, .val (.long (own_floor q2)), .second, .val (.long (own_floor q3)), .second, .val (.ref b4), .val (.long (own_e3 pp (own_floor q1) (own_floor q2) (own_floor q3))), .second, .unset, .unset, .val (.int ((3 : Int32) * pp)), .val (.int (2 : Int32)), .val (.long (own_min (own_min (own_floor q1) (own_floor q2)) (own_floor q3))), .second, .val (.long (own_max (own_max (own_floor q1) (own_floor q2)) (own_floor q3))), .second, .unset, .unset] []))
        refine OwnR.of (fun _ hr => XS.lload X61.here hx rfl (hb hby at_220) rfl hr) ?_
        show OwnR _ _ _ _ _ _ _ (T61.setTop (mkF m 222 #[.val (.long q1), .second, .val (.long q2), .second, .val (.long q3), .second, .val (.int p4), .val (.int p5), .val (.int (3 : Int32)), .val (.int pp), .val (.long (own_floor q1)), .second, .val (.long (own_floor q2)), .second, .val (.long (own_floor q3)), .second, .val (.ref b4), .val (.long (own_e3 pp (own_floor q1) (own_floor q2) (own_floor q3))), .second, .unset, .unset, .val (.int ((3 : Int32) * pp)), .val (.int (2 : Int32)), .val (.long (own_min (own_min (own_floor q1) (own_floor q2)) (own_floor q3))), .second, .val (.long (own_max (own_max (own_floor q1) (own_floor q2)) (own_floor q3))), .second, .unset, .unset] [(.long (own_floor q1))]))
        refine OwnR.of (fun _ hr => XS.lload X61.here hx rfl (hb hby at_222) rfl hr) ?_
        show OwnR _ _ _ _ _ _ _ (T61.setTop (mkF m 224 #[.val (.long q1), .second, .val (.long q2), .second, .val (.long q3), .second, .val (.int p4), .val (.int p5), .val (.int (3 : Int32)), .val (.int pp), .val (.long (own_floor q1)), .second, .val (.long (own_floor q2)), .second, .val (.long (own_floor q3)), .second, .val (.ref b4), .val (.long (own_e3 pp (own_floor q1) (own_floor q2) (own_floor q3))), .second, .unset, .unset, .val (.int ((3 : Int32) * pp)), .val (.int (2 : Int32)), .val (.long (own_min (own_min (own_floor q1) (own_floor q2)) (own_floor q3))), .second, .val (.long (own_max (own_max (own_floor q1) (own_floor q2)) (own_floor q3))), .second, .unset, .unset] [(.long (own_floor q2)), (.long (own_floor q1))]))
        obtain ⟨_, _, ⟨T62, L62, kc62, ns62⟩, -, X62, ⟨Lc62, hQ62, l62, y62, z62⟩, st62⟩ := Jvm.LawKit.callS X61 hx (y := (⟨"java/lang/Math", "min", "(JJ)J"⟩ : MethodName)) hown (mvT hZ (hw _ (List.mem_of_getElem? (i := 77) rfl))) (mvT hZ (hw _ (List.mem_of_getElem? (i := 78) rfl))) (mvT hZ (hw _ (List.mem_of_getElem? (i := 41) rfl))) (mvT hZ (hw _ (List.mem_of_getElem? (i := 79) rfl))) (by decide) (backOf (W := 0) (rmMinJ l Z a0 hw [] (own_floor q1) (own_floor q2) (T43.heap) n0 (Nat.le_trans Z0 K43.1) ) hZ (hw _ (List.mem_of_getElem? (i := 79) rfl)) (hw _ (List.mem_of_getElem? (i := 41) rfl)) (by decide) (by decide)) (g := (mkF m 224 #[.val (.long q1), .second, .val (.long q2), .second, .val (.long q3), .second, .val (.int p4), .val (.int p5), .val (.int (3 : Int32)), .val (.int pp), .val (.long (own_floor q1)), .second, .val (.long (own_floor q2)), .second, .val (.long (own_floor q3)), .second, .val (.ref b4), .val (.long (own_e3 pp (own_floor q1) (own_floor q2) (own_floor q3))), .second, .unset, .unset, .val (.int ((3 : Int32) * pp)), .val (.int (2 : Int32)), .val (.long (own_min (own_min (own_floor q1) (own_floor q2)) (own_floor q3))), .second, .val (.long (own_max (own_max (own_floor q1) (own_floor q2)) (own_floor q3))), .second, .unset, .unset] [(.long (own_floor q2)), (.long (own_floor q1))])) rfl (by rw [hml]; rfl) (argsL := [(.long (own_floor q1)), (.long (own_floor q2))]) (rest := []) (lenOf pd__JJ_J rfl) rfl (by show 2 * 0 + _ ≤ _; exact Nat.le_of_eq rfl) (hb hby at_224) (fun _ _ => ⟨rfl, e61, (by decide : 5 + 0 ≤ _), (show 52 + sl1 + sl2 + sl3 + 0 ≤ 157376 from hr3)⟩)
        dsimp only [Pt.U, Pt.locs, Pt.cells, Pt.slots] at X62 l62 y62 z62 st62 hQ62
        rw [l62, y62, z62] at X62
        obtain ⟨rfl, N62q, e62⟩ := hQ62
        have N62 := Fr.app N61 N62q
        refine OwnR.of (st62) ?_
        show OwnR _ _ _ _ _ _ _ (T62.setTop (mkF m 227 #[.val (.long q1), .second, .val (.long q2), .second, .val (.long q3), .second, .val (.int p4), .val (.int p5), .val (.int (3 : Int32)), .val (.int pp), .val (.long (own_floor q1)), .second, .val (.long (own_floor q2)), .second, .val (.long (own_floor q3)), .second, .val (.ref b4), .val (.long (own_e3 pp (own_floor q1) (own_floor q2) (own_floor q3))), .second, .unset, .unset, .val (.int ((3 : Int32) * pp)), .val (.int (2 : Int32)), .val (.long (own_min (own_min (own_floor q1) (own_floor q2)) (own_floor q3))), .second, .val (.long (own_max (own_max (own_floor q1) (own_floor q2)) (own_floor q3))), .second, .unset, .unset] [(.long (own_min (own_floor q1) (own_floor q2)))]))
        refine OwnR.of (fun _ hr => XS.lload X62.here hx rfl (hb hby at_227) rfl hr) ?_
        show OwnR _ _ _ _ _ _ _ (T62.setTop (mkF m 229 #[.val (.long q1), .second, .val (.long q2), .second, .val (.long q3), .second, .val (.int p4), .val (.int p5), .val (.int (3 : Int32)), .val (.int pp), .val (.long (own_floor q1)), .second, .val (.long (own_floor q2)), .second, .val (.long (own_floor q3)), .second, .val (.ref b4), .val (.long (own_e3 pp (own_floor q1) (own_floor q2) (own_floor q3))), .second, .unset, .unset, .val (.int ((3 : Int32) * pp)), .val (.int (2 : Int32)), .val (.long (own_min (own_min (own_floor q1) (own_floor q2)) (own_floor q3))), .second, .val (.long (own_max (own_max (own_floor q1) (own_floor q2)) (own_floor q3))), .second, .unset, .unset] [(.long (own_floor q1)), (.long (own_min (own_floor q1) (own_floor q2)))]))
        refine OwnR.of (fun _ hr => XS.lload X62.here hx rfl (hb hby at_229) rfl hr) ?_
        show OwnR _ _ _ _ _ _ _ (T62.setTop (mkF m 231 #[.val (.long q1), .second, .val (.long q2), .second, .val (.long q3), .second, .val (.int p4), .val (.int p5), .val (.int (3 : Int32)), .val (.int pp), .val (.long (own_floor q1)), .second, .val (.long (own_floor q2)), .second, .val (.long (own_floor q3)), .second, .val (.ref b4), .val (.long (own_e3 pp (own_floor q1) (own_floor q2) (own_floor q3))), .second, .unset, .unset, .val (.int ((3 : Int32) * pp)), .val (.int (2 : Int32)), .val (.long (own_min (own_min (own_floor q1) (own_floor q2)) (own_floor q3))), .second, .val (.long (own_max (own_max (own_floor q1) (own_floor q2)) (own_floor q3))), .second, .unset, .unset] [(.long (own_floor q2)), (.long (own_floor q1)), (.long (own_min (own_floor q1) (own_floor q2)))]))
        obtain ⟨_, _, ⟨T63, L63, kc63, ns63⟩, -, X63, ⟨Lc63, hQ63, l63, y63, z63⟩, st63⟩ := Jvm.LawKit.callS X62 hx (y := (⟨"java/lang/Math", "max", "(JJ)J"⟩ : MethodName)) hown (mvT hZ (hw _ (List.mem_of_getElem? (i := 80) rfl))) (mvT hZ (hw _ (List.mem_of_getElem? (i := 40) rfl))) (mvT hZ (hw _ (List.mem_of_getElem? (i := 41) rfl))) (mvT hZ (hw _ (List.mem_of_getElem? (i := 42) rfl))) (by decide) (backOf (W := 2) (rmMaxJ l Z a0 hw [] (own_floor q1) (own_floor q2) (T43.heap) n0 (Nat.le_trans Z0 K43.1) ) hZ (hw _ (List.mem_of_getElem? (i := 42) rfl)) (hw _ (List.mem_of_getElem? (i := 41) rfl)) (by decide) (by decide)) (g := (mkF m 231 #[.val (.long q1), .second, .val (.long q2), .second, .val (.long q3), .second, .val (.int p4), .val (.int p5), .val (.int (3 : Int32)), .val (.int pp), .val (.long (own_floor q1)), .second, .val (.long (own_floor q2)), .second, .val (.long (own_floor q3)), .second, .val (.ref b4), .val (.long (own_e3 pp (own_floor q1) (own_floor q2) (own_floor q3))), .second, .unset, .unset, .val (.int ((3 : Int32) * pp)), .val (.int (2 : Int32)), .val (.long (own_min (own_min (own_floor q1) (own_floor q2)) (own_floor q3))), .second, .val (.long (own_max (own_max (own_floor q1) (own_floor q2)) (own_floor q3))), .second, .unset, .unset] [(.long (own_floor q2)), (.long (own_floor q1)), (.long (own_min (own_floor q1) (own_floor q2)))])) rfl (by rw [hml]; rfl) (argsL := [(.long (own_floor q1)), (.long (own_floor q2))]) (rest := [(.long (own_min (own_floor q1) (own_floor q2)))]) (lenOf pd__JJ_J rfl) rfl (by show 2 * 0 + _ ≤ _; exact Nat.le_of_eq rfl) (hb hby at_231) (fun _ _ => ⟨rfl, e62, (by decide : 5 + 0 ≤ _), (show 52 + sl1 + sl2 + sl3 + 0 ≤ 157376 from hr3)⟩)
        dsimp only [Pt.U, Pt.locs, Pt.cells, Pt.slots] at X63 l63 y63 z63 st63 hQ63
        rw [l63, y63, z63] at X63
        obtain ⟨rfl, N63q, e63⟩ := hQ63
        have N63 := Fr.app N62 N63q
        refine OwnR.of (st63) ?_
        show OwnR _ _ _ _ _ _ _ (T63.setTop (mkF m 234 #[.val (.long q1), .second, .val (.long q2), .second, .val (.long q3), .second, .val (.int p4), .val (.int p5), .val (.int (3 : Int32)), .val (.int pp), .val (.long (own_floor q1)), .second, .val (.long (own_floor q2)), .second, .val (.long (own_floor q3)), .second, .val (.ref b4), .val (.long (own_e3 pp (own_floor q1) (own_floor q2) (own_floor q3))), .second, .unset, .unset, .val (.int ((3 : Int32) * pp)), .val (.int (2 : Int32)), .val (.long (own_min (own_min (own_floor q1) (own_floor q2)) (own_floor q3))), .second, .val (.long (own_max (own_max (own_floor q1) (own_floor q2)) (own_floor q3))), .second, .unset, .unset] [(.long (own_max (own_floor q1) (own_floor q2))), (.long (own_min (own_floor q1) (own_floor q2)))]))
        refine OwnR.of (fun _ hr => XS.lload X63.here hx rfl (hb hby at_234) rfl hr) ?_
        show OwnR _ _ _ _ _ _ _ (T63.setTop (mkF m 236 #[.val (.long q1), .second, .val (.long q2), .second, .val (.long q3), .second, .val (.int p4), .val (.int p5), .val (.int (3 : Int32)), .val (.int pp), .val (.long (own_floor q1)), .second, .val (.long (own_floor q2)), .second, .val (.long (own_floor q3)), .second, .val (.ref b4), .val (.long (own_e3 pp (own_floor q1) (own_floor q2) (own_floor q3))), .second, .unset, .unset, .val (.int ((3 : Int32) * pp)), .val (.int (2 : Int32)), .val (.long (own_min (own_min (own_floor q1) (own_floor q2)) (own_floor q3))), .second, .val (.long (own_max (own_max (own_floor q1) (own_floor q2)) (own_floor q3))), .second, .unset, .unset] [(.long (own_floor q3)), (.long (own_max (own_floor q1) (own_floor q2))), (.long (own_min (own_floor q1) (own_floor q2)))]))
        obtain ⟨_, _, ⟨T64, L64, kc64, ns64⟩, -, X64, ⟨Lc64, hQ64, l64, y64, z64⟩, st64⟩ := Jvm.LawKit.callS X63 hx (y := (⟨"java/lang/Math", "min", "(JJ)J"⟩ : MethodName)) hown (mvT hZ (hw _ (List.mem_of_getElem? (i := 77) rfl))) (mvT hZ (hw _ (List.mem_of_getElem? (i := 78) rfl))) (mvT hZ (hw _ (List.mem_of_getElem? (i := 41) rfl))) (mvT hZ (hw _ (List.mem_of_getElem? (i := 79) rfl))) (by decide) (backOf (W := 2) (rmMinJ l Z a0 hw [] (own_max (own_floor q1) (own_floor q2)) (own_floor q3) (T43.heap) n0 (Nat.le_trans Z0 K43.1) ) hZ (hw _ (List.mem_of_getElem? (i := 79) rfl)) (hw _ (List.mem_of_getElem? (i := 41) rfl)) (by decide) (by decide)) (g := (mkF m 236 #[.val (.long q1), .second, .val (.long q2), .second, .val (.long q3), .second, .val (.int p4), .val (.int p5), .val (.int (3 : Int32)), .val (.int pp), .val (.long (own_floor q1)), .second, .val (.long (own_floor q2)), .second, .val (.long (own_floor q3)), .second, .val (.ref b4), .val (.long (own_e3 pp (own_floor q1) (own_floor q2) (own_floor q3))), .second, .unset, .unset, .val (.int ((3 : Int32) * pp)), .val (.int (2 : Int32)), .val (.long (own_min (own_min (own_floor q1) (own_floor q2)) (own_floor q3))), .second, .val (.long (own_max (own_max (own_floor q1) (own_floor q2)) (own_floor q3))), .second, .unset, .unset] [(.long (own_floor q3)), (.long (own_max (own_floor q1) (own_floor q2))), (.long (own_min (own_floor q1) (own_floor q2)))])) rfl (by rw [hml]; rfl) (argsL := [(.long (own_max (own_floor q1) (own_floor q2))), (.long (own_floor q3))]) (rest := [(.long (own_min (own_floor q1) (own_floor q2)))]) (lenOf pd__JJ_J rfl) rfl (by show 2 * 0 + _ ≤ _; exact Nat.le_of_eq rfl) (hb hby at_236) (fun _ _ => ⟨rfl, e63, (by decide : 5 + 0 ≤ _), (show 52 + sl1 + sl2 + sl3 + 0 ≤ 157376 from hr3)⟩)
        dsimp only [Pt.U, Pt.locs, Pt.cells, Pt.slots] at X64 l64 y64 z64 st64 hQ64
        rw [l64, y64, z64] at X64
        obtain ⟨rfl, N64q, e64⟩ := hQ64
        have N64 := Fr.app N63 N64q
        refine OwnR.of (st64) ?_
        show OwnR _ _ _ _ _ _ _ (T64.setTop (mkF m 239 #[.val (.long q1), .second, .val (.long q2), .second, .val (.long q3), .second, .val (.int p4), .val (.int p5), .val (.int (3 : Int32)), .val (.int pp), .val (.long (own_floor q1)), .second, .val (.long (own_floor q2)), .second, .val (.long (own_floor q3)), .second, .val (.ref b4), .val (.long (own_e3 pp (own_floor q1) (own_floor q2) (own_floor q3))), .second, .unset, .unset, .val (.int ((3 : Int32) * pp)), .val (.int (2 : Int32)), .val (.long (own_min (own_min (own_floor q1) (own_floor q2)) (own_floor q3))), .second, .val (.long (own_max (own_max (own_floor q1) (own_floor q2)) (own_floor q3))), .second, .unset, .unset] [(.long (own_min (own_max (own_floor q1) (own_floor q2)) (own_floor q3))), (.long (own_min (own_floor q1) (own_floor q2)))]))
        obtain ⟨_, _, ⟨T65, L65, kc65, ns65⟩, -, X65, ⟨Lc65, hQ65, l65, y65, z65⟩, st65⟩ := Jvm.LawKit.callS X64 hx (y := (⟨"java/lang/Math", "max", "(JJ)J"⟩ : MethodName)) hown (mvT hZ (hw _ (List.mem_of_getElem? (i := 80) rfl))) (mvT hZ (hw _ (List.mem_of_getElem? (i := 40) rfl))) (mvT hZ (hw _ (List.mem_of_getElem? (i := 41) rfl))) (mvT hZ (hw _ (List.mem_of_getElem? (i := 42) rfl))) (by decide) (backOf (W := 0) (rmMaxJ l Z a0 hw [] (own_min (own_floor q1) (own_floor q2)) (own_min (own_max (own_floor q1) (own_floor q2)) (own_floor q3)) (T43.heap) n0 (Nat.le_trans Z0 K43.1) ) hZ (hw _ (List.mem_of_getElem? (i := 42) rfl)) (hw _ (List.mem_of_getElem? (i := 41) rfl)) (by decide) (by decide)) (g := (mkF m 239 #[.val (.long q1), .second, .val (.long q2), .second, .val (.long q3), .second, .val (.int p4), .val (.int p5), .val (.int (3 : Int32)), .val (.int pp), .val (.long (own_floor q1)), .second, .val (.long (own_floor q2)), .second, .val (.long (own_floor q3)), .second, .val (.ref b4), .val (.long (own_e3 pp (own_floor q1) (own_floor q2) (own_floor q3))), .second, .unset, .unset, .val (.int ((3 : Int32) * pp)), .val (.int (2 : Int32)), .val (.long (own_min (own_min (own_floor q1) (own_floor q2)) (own_floor q3))), .second, .val (.long (own_max (own_max (own_floor q1) (own_floor q2)) (own_floor q3))), .second, .unset, .unset] [(.long (own_min (own_max (own_floor q1) (own_floor q2)) (own_floor q3))), (.long (own_min (own_floor q1) (own_floor q2)))])) rfl (by rw [hml]; rfl) (argsL := [(.long (own_min (own_floor q1) (own_floor q2))), (.long (own_min (own_max (own_floor q1) (own_floor q2)) (own_floor q3)))]) (rest := []) (lenOf pd__JJ_J rfl) rfl (by show 2 * 0 + _ ≤ _; exact Nat.le_of_eq rfl) (hb hby at_239) (fun _ _ => ⟨rfl, e64, (by decide : 5 + 0 ≤ _), (show 52 + sl1 + sl2 + sl3 + 0 ≤ 157376 from hr3)⟩)
        dsimp only [Pt.U, Pt.locs, Pt.cells, Pt.slots] at X65 l65 y65 z65 st65 hQ65
        rw [l65, y65, z65] at X65
        obtain ⟨rfl, N65q, e65⟩ := hQ65
        have N65 := Fr.app N64 N65q
        refine OwnR.of (st65) ?_
        show OwnR _ _ _ _ _ _ _ (T65.setTop (mkF m 242 #[.val (.long q1), .second, .val (.long q2), .second, .val (.long q3), .second, .val (.int p4), .val (.int p5), .val (.int (3 : Int32)), .val (.int pp), .val (.long (own_floor q1)), .second, .val (.long (own_floor q2)), .second, .val (.long (own_floor q3)), .second, .val (.ref b4), .val (.long (own_e3 pp (own_floor q1) (own_floor q2) (own_floor q3))), .second, .unset, .unset, .val (.int ((3 : Int32) * pp)), .val (.int (2 : Int32)), .val (.long (own_min (own_min (own_floor q1) (own_floor q2)) (own_floor q3))), .second, .val (.long (own_max (own_max (own_floor q1) (own_floor q2)) (own_floor q3))), .second, .unset, .unset] [(.long (own_max (own_min (own_floor q1) (own_floor q2)) (own_min (own_max (own_floor q1) (own_floor q2)) (own_floor q3))))]))
        refine OwnR.of (fun _ hr => XS.lstore X65.here hx rfl (hb hby at_242) rfl (l' := #[.val (.long q1), .second, .val (.long q2), .second, .val (.long q3), .second, .val (.int p4), .val (.int p5), .val (.int (3 : Int32)), .val (.int pp), .val (.long (own_floor q1)), .second, .val (.long (own_floor q2)), .second, .val (.long (own_floor q3)), .second, .val (.ref b4), .val (.long (own_e3 pp (own_floor q1) (own_floor q2) (own_floor q3))), .second, .unset, .unset, .val (.int ((3 : Int32) * pp)), .val (.int (2 : Int32)), .val (.long (own_min (own_min (own_floor q1) (own_floor q2)) (own_floor q3))), .second, .val (.long (own_max (own_max (own_floor q1) (own_floor q2)) (own_floor q3))), .second, .val (.long (own_max (own_min (own_floor q1) (own_floor q2)) (own_min (own_max (own_floor q1) (own_floor q2)) (own_floor q3)))), .second]) rfl hr) ?_
        show OwnR _ _ _ _ _ _ _ (T65.setTop (mkF m 244 #[.val (.long q1), .second, .val (.long q2), .second, .val (.long q3), .second, .val (.int p4), .val (.int p5), .val (.int (3 : Int32)), .val (.int pp), .val (.long (own_floor q1)), .second, .val (.long (own_floor q2)), .second, .val (.long (own_floor q3)), .second, .val (.ref b4), .val (.long (own_e3 pp (own_floor q1) (own_floor q2) (own_floor q3))), .second, .unset, .unset, .val (.int ((3 : Int32) * pp)), .val (.int (2 : Int32)), .val (.long (own_min (own_min (own_floor q1) (own_floor q2)) (own_floor q3))), .second, .val (.long (own_max (own_max (own_floor q1) (own_floor q2)) (own_floor q3))), .second, .val (.long (own_max (own_min (own_floor q1) (own_floor q2)) (own_min (own_max (own_floor q1) (own_floor q2)) (own_floor q3)))), .second] []))
        refine OwnR.of (fun _ hr => XS.iload X65.here hx rfl (hb hby at_244) rfl hr) ?_
        show OwnR _ _ _ _ _ _ _ (T65.setTop (mkF m 246 #[.val (.long q1), .second, .val (.long q2), .second, .val (.long q3), .second, .val (.int p4), .val (.int p5), .val (.int (3 : Int32)), .val (.int pp), .val (.long (own_floor q1)), .second, .val (.long (own_floor q2)), .second, .val (.long (own_floor q3)), .second, .val (.ref b4), .val (.long (own_e3 pp (own_floor q1) (own_floor q2) (own_floor q3))), .second, .unset, .unset, .val (.int ((3 : Int32) * pp)), .val (.int (2 : Int32)), .val (.long (own_min (own_min (own_floor q1) (own_floor q2)) (own_floor q3))), .second, .val (.long (own_max (own_max (own_floor q1) (own_floor q2)) (own_floor q3))), .second, .val (.long (own_max (own_min (own_floor q1) (own_floor q2)) (own_min (own_max (own_floor q1) (own_floor q2)) (own_floor q3)))), .second] [(.int (2 : Int32))]))
        refine OwnR.of (fun _ hr => XS.iconst X65.here hx rfl (hb hby at_246) hr) ?_
        show OwnR _ _ _ _ _ _ _ (T65.setTop (mkF m 247 #[.val (.long q1), .second, .val (.long q2), .second, .val (.long q3), .second, .val (.int p4), .val (.int p5), .val (.int (3 : Int32)), .val (.int pp), .val (.long (own_floor q1)), .second, .val (.long (own_floor q2)), .second, .val (.long (own_floor q3)), .second, .val (.ref b4), .val (.long (own_e3 pp (own_floor q1) (own_floor q2) (own_floor q3))), .second, .unset, .unset, .val (.int ((3 : Int32) * pp)), .val (.int (2 : Int32)), .val (.long (own_min (own_min (own_floor q1) (own_floor q2)) (own_floor q3))), .second, .val (.long (own_max (own_max (own_floor q1) (own_floor q2)) (own_floor q3))), .second, .val (.long (own_max (own_min (own_floor q1) (own_floor q2)) (own_min (own_max (own_floor q1) (own_floor q2)) (own_floor q3)))), .second] [(.int (1 : Int32)), (.int (2 : Int32))]))
        refine OwnR.of (fun _ hr => XS.icmpYes X65.here hx rfl (pc0 := 247) (pc' := 255) rfl (hb hby at_247) rfl (feq (by decide : ¬ ((2 : Int32) = (1 : Int32)))).2 (by decide) (by decide) hr) ?_
        show OwnR _ _ _ _ _ _ _ (T65.setTop (mkF m 255 #[.val (.long q1), .second, .val (.long q2), .second, .val (.long q3), .second, .val (.int p4), .val (.int p5), .val (.int (3 : Int32)), .val (.int pp), .val (.long (own_floor q1)), .second, .val (.long (own_floor q2)), .second, .val (.long (own_floor q3)), .second, .val (.ref b4), .val (.long (own_e3 pp (own_floor q1) (own_floor q2) (own_floor q3))), .second, .unset, .unset, .val (.int ((3 : Int32) * pp)), .val (.int (2 : Int32)), .val (.long (own_min (own_min (own_floor q1) (own_floor q2)) (own_floor q3))), .second, .val (.long (own_max (own_max (own_floor q1) (own_floor q2)) (own_floor q3))), .second, .val (.long (own_max (own_min (own_floor q1) (own_floor q2)) (own_min (own_max (own_floor q1) (own_floor q2)) (own_floor q3)))), .second] []))
        refine OwnR.of (fun _ hr => XS.iload X65.here hx rfl (hb hby at_255) rfl hr) ?_
        show OwnR _ _ _ _ _ _ _ (T65.setTop (mkF m 257 #[.val (.long q1), .second, .val (.long q2), .second, .val (.long q3), .second, .val (.int p4), .val (.int p5), .val (.int (3 : Int32)), .val (.int pp), .val (.long (own_floor q1)), .second, .val (.long (own_floor q2)), .second, .val (.long (own_floor q3)), .second, .val (.ref b4), .val (.long (own_e3 pp (own_floor q1) (own_floor q2) (own_floor q3))), .second, .unset, .unset, .val (.int ((3 : Int32) * pp)), .val (.int (2 : Int32)), .val (.long (own_min (own_min (own_floor q1) (own_floor q2)) (own_floor q3))), .second, .val (.long (own_max (own_max (own_floor q1) (own_floor q2)) (own_floor q3))), .second, .val (.long (own_max (own_min (own_floor q1) (own_floor q2)) (own_min (own_max (own_floor q1) (own_floor q2)) (own_floor q3)))), .second] [(.int (2 : Int32))]))
        refine OwnR.of (fun _ hr => XS.iconst X65.here hx rfl (hb hby at_257) hr) ?_
        show OwnR _ _ _ _ _ _ _ (T65.setTop (mkF m 258 #[.val (.long q1), .second, .val (.long q2), .second, .val (.long q3), .second, .val (.int p4), .val (.int p5), .val (.int (3 : Int32)), .val (.int pp), .val (.long (own_floor q1)), .second, .val (.long (own_floor q2)), .second, .val (.long (own_floor q3)), .second, .val (.ref b4), .val (.long (own_e3 pp (own_floor q1) (own_floor q2) (own_floor q3))), .second, .unset, .unset, .val (.int ((3 : Int32) * pp)), .val (.int (2 : Int32)), .val (.long (own_min (own_min (own_floor q1) (own_floor q2)) (own_floor q3))), .second, .val (.long (own_max (own_max (own_floor q1) (own_floor q2)) (own_floor q3))), .second, .val (.long (own_max (own_min (own_floor q1) (own_floor q2)) (own_min (own_max (own_floor q1) (own_floor q2)) (own_floor q3)))), .second] [(.int (2 : Int32)), (.int (2 : Int32))]))
        refine OwnR.of (fun _ hr => XS.icmpNo X65.here hx rfl (hb hby at_258) rfl (teq (by decide : (2 : Int32) = (2 : Int32))).2 hr) ?_
        show OwnR _ _ _ _ _ _ _ (T65.setTop (mkF m 261 #[.val (.long q1), .second, .val (.long q2), .second, .val (.long q3), .second, .val (.int p4), .val (.int p5), .val (.int (3 : Int32)), .val (.int pp), .val (.long (own_floor q1)), .second, .val (.long (own_floor q2)), .second, .val (.long (own_floor q3)), .second, .val (.ref b4), .val (.long (own_e3 pp (own_floor q1) (own_floor q2) (own_floor q3))), .second, .unset, .unset, .val (.int ((3 : Int32) * pp)), .val (.int (2 : Int32)), .val (.long (own_min (own_min (own_floor q1) (own_floor q2)) (own_floor q3))), .second, .val (.long (own_max (own_max (own_floor q1) (own_floor q2)) (own_floor q3))), .second, .val (.long (own_max (own_min (own_floor q1) (own_floor q2)) (own_min (own_max (own_floor q1) (own_floor q2)) (own_floor q3)))), .second] []))
        refine OwnR.of (fun _ hr => XS.lload X65.here hx rfl (hb hby at_261) rfl hr) ?_
        show OwnR _ _ _ _ _ _ _ (T65.setTop (mkF m 263 #[.val (.long q1), .second, .val (.long q2), .second, .val (.long q3), .second, .val (.int p4), .val (.int p5), .val (.int (3 : Int32)), .val (.int pp), .val (.long (own_floor q1)), .second, .val (.long (own_floor q2)), .second, .val (.long (own_floor q3)), .second, .val (.ref b4), .val (.long (own_e3 pp (own_floor q1) (own_floor q2) (own_floor q3))), .second, .unset, .unset, .val (.int ((3 : Int32) * pp)), .val (.int (2 : Int32)), .val (.long (own_min (own_min (own_floor q1) (own_floor q2)) (own_floor q3))), .second, .val (.long (own_max (own_max (own_floor q1) (own_floor q2)) (own_floor q3))), .second, .val (.long (own_max (own_min (own_floor q1) (own_floor q2)) (own_min (own_max (own_floor q1) (own_floor q2)) (own_floor q3)))), .second] [(.long (own_max (own_min (own_floor q1) (own_floor q2)) (own_min (own_max (own_floor q1) (own_floor q2)) (own_floor q3))))]))
        refine OwnR.of (fun _ hr => XS.goto X65.here hx rfl (pc0 := 263) (pc' := 268) rfl (hb hby at_263) (by decide) (by decide) hr) ?_
        show OwnR _ _ _ _ _ _ _ (T65.setTop (mkF m 268 #[.val (.long q1), .second, .val (.long q2), .second, .val (.long q3), .second, .val (.int p4), .val (.int p5), .val (.int (3 : Int32)), .val (.int pp), .val (.long (own_floor q1)), .second, .val (.long (own_floor q2)), .second, .val (.long (own_floor q3)), .second, .val (.ref b4), .val (.long (own_e3 pp (own_floor q1) (own_floor q2) (own_floor q3))), .second, .unset, .unset, .val (.int ((3 : Int32) * pp)), .val (.int (2 : Int32)), .val (.long (own_min (own_min (own_floor q1) (own_floor q2)) (own_floor q3))), .second, .val (.long (own_max (own_max (own_floor q1) (own_floor q2)) (own_floor q3))), .second, .val (.long (own_max (own_min (own_floor q1) (own_floor q2)) (own_min (own_max (own_floor q1) (own_floor q2)) (own_floor q3)))), .second] [(.long (own_max (own_min (own_floor q1) (own_floor q2)) (own_min (own_max (own_floor q1) (own_floor q2)) (own_floor q3))))]))
        refine OwnR.of (fun _ hr => XS.lstore X65.here hx rfl (hb hby at_268) rfl (l' := #[.val (.long q1), .second, .val (.long q2), .second, .val (.long q3), .second, .val (.int p4), .val (.int p5), .val (.int (3 : Int32)), .val (.int pp), .val (.long (own_floor q1)), .second, .val (.long (own_floor q2)), .second, .val (.long (own_floor q3)), .second, .val (.ref b4), .val (.long (own_e3 pp (own_floor q1) (own_floor q2) (own_floor q3))), .second, .val (.long (own_max (own_min (own_floor q1) (own_floor q2)) (own_min (own_max (own_floor q1) (own_floor q2)) (own_floor q3)))), .second, .val (.int ((3 : Int32) * pp)), .val (.int (2 : Int32)), .val (.long (own_min (own_min (own_floor q1) (own_floor q2)) (own_floor q3))), .second, .val (.long (own_max (own_max (own_floor q1) (own_floor q2)) (own_floor q3))), .second, .val (.long (own_max (own_min (own_floor q1) (own_floor q2)) (own_min (own_max (own_floor q1) (own_floor q2)) (own_floor q3)))), .second]) rfl hr) ?_
        show OwnR _ _ _ _ _ _ _ (T65.setTop (mkF m 270 #[.val (.long q1), .second, .val (.long q2), .second, .val (.long q3), .second, .val (.int p4), .val (.int p5), .val (.int (3 : Int32)), .val (.int pp), .val (.long (own_floor q1)), .second, .val (.long (own_floor q2)), .second, .val (.long (own_floor q3)), .second, .val (.ref b4), .val (.long (own_e3 pp (own_floor q1) (own_floor q2) (own_floor q3))), .second, .val (.long (own_max (own_min (own_floor q1) (own_floor q2)) (own_min (own_max (own_floor q1) (own_floor q2)) (own_floor q3)))), .second, .val (.int ((3 : Int32) * pp)), .val (.int (2 : Int32)), .val (.long (own_min (own_min (own_floor q1) (own_floor q2)) (own_floor q3))), .second, .val (.long (own_max (own_max (own_floor q1) (own_floor q2)) (own_floor q3))), .second, .val (.long (own_max (own_min (own_floor q1) (own_floor q2)) (own_min (own_max (own_floor q1) (own_floor q2)) (own_floor q3)))), .second] []))
        refine OwnR.of (fun _ hr => XS.lload X65.here hx rfl (hb hby at_270) rfl hr) ?_
        show OwnR _ _ _ _ _ _ _ (T65.setTop (mkF m 272 #[.val (.long q1), .second, .val (.long q2), .second, .val (.long q3), .second, .val (.int p4), .val (.int p5), .val (.int (3 : Int32)), .val (.int pp), .val (.long (own_floor q1)), .second, .val (.long (own_floor q2)), .second, .val (.long (own_floor q3)), .second, .val (.ref b4), .val (.long (own_e3 pp (own_floor q1) (own_floor q2) (own_floor q3))), .second, .val (.long (own_max (own_min (own_floor q1) (own_floor q2)) (own_min (own_max (own_floor q1) (own_floor q2)) (own_floor q3)))), .second, .val (.int ((3 : Int32) * pp)), .val (.int (2 : Int32)), .val (.long (own_min (own_min (own_floor q1) (own_floor q2)) (own_floor q3))), .second, .val (.long (own_max (own_max (own_floor q1) (own_floor q2)) (own_floor q3))), .second, .val (.long (own_max (own_min (own_floor q1) (own_floor q2)) (own_min (own_max (own_floor q1) (own_floor q2)) (own_floor q3)))), .second] [(.long (own_e3 pp (own_floor q1) (own_floor q2) (own_floor q3)))]))
        refine OwnR.of (fun _ hr => XS.lload X65.here hx rfl (hb hby at_272) rfl hr) ?_
        show OwnR _ _ _ _ _ _ _ (T65.setTop (mkF m 274 #[.val (.long q1), .second, .val (.long q2), .second, .val (.long q3), .second, .val (.int p4), .val (.int p5), .val (.int (3 : Int32)), .val (.int pp), .val (.long (own_floor q1)), .second, .val (.long (own_floor q2)), .second, .val (.long (own_floor q3)), .second, .val (.ref b4), .val (.long (own_e3 pp (own_floor q1) (own_floor q2) (own_floor q3))), .second, .val (.long (own_max (own_min (own_floor q1) (own_floor q2)) (own_min (own_max (own_floor q1) (own_floor q2)) (own_floor q3)))), .second, .val (.int ((3 : Int32) * pp)), .val (.int (2 : Int32)), .val (.long (own_min (own_min (own_floor q1) (own_floor q2)) (own_floor q3))), .second, .val (.long (own_max (own_max (own_floor q1) (own_floor q2)) (own_floor q3))), .second, .val (.long (own_max (own_min (own_floor q1) (own_floor q2)) (own_min (own_max (own_floor q1) (own_floor q2)) (own_floor q3)))), .second] [(.long (own_max (own_min (own_floor q1) (own_floor q2)) (own_min (own_max (own_floor q1) (own_floor q2)) (own_floor q3)))), (.long (own_e3 pp (own_floor q1) (own_floor q2) (own_floor q3)))]))
        refine OwnR.of (fun _ hr => XS.lcmp X65.here hx rfl (hb hby at_274) rfl hr) ?_
        show OwnR _ _ _ _ _ _ _ (T65.setTop (mkF m 275 #[.val (.long q1), .second, .val (.long q2), .second, .val (.long q3), .second, .val (.int p4), .val (.int p5), .val (.int (3 : Int32)), .val (.int pp), .val (.long (own_floor q1)), .second, .val (.long (own_floor q2)), .second, .val (.long (own_floor q3)), .second, .val (.ref b4), .val (.long (own_e3 pp (own_floor q1) (own_floor q2) (own_floor q3))), .second, .val (.long (own_max (own_min (own_floor q1) (own_floor q2)) (own_min (own_max (own_floor q1) (own_floor q2)) (own_floor q3)))), .second, .val (.int ((3 : Int32) * pp)), .val (.int (2 : Int32)), .val (.long (own_min (own_min (own_floor q1) (own_floor q2)) (own_floor q3))), .second, .val (.long (own_max (own_max (own_floor q1) (own_floor q2)) (own_floor q3))), .second, .val (.long (own_max (own_min (own_floor q1) (own_floor q2)) (own_min (own_max (own_floor q1) (own_floor q2)) (own_floor q3)))), .second] [(.int (lcmpW (own_e3 pp (own_floor q1) (own_floor q2) (own_floor q3)) (own_max (own_min (own_floor q1) (own_floor q2)) (own_min (own_max (own_floor q1) (own_floor q2)) (own_floor q3)))))]))
        have hc275_66 : (own_e3 pp (own_floor q1) (own_floor q2) (own_floor q3)) = (own_max (own_min (own_floor q1) (own_floor q2)) (own_min (own_max (own_floor q1) (own_floor q2)) (own_floor q3))) := by
          refine Classical.byContradiction fun hbad => ?_
          exact hbad (by first | rfl | simp only [own_e2, own_e3, own_lo, own_mid, own_hi, if_pos hc123_45, if_neg hc135_46])
        refine OwnR.of (fun _ hr => XS.ifNo X65.here hx rfl (hb hby at_275) rfl ((if0 _ _).trans (teq ((own_lceq _ _).mpr hc275_66)).2) hr) ?_
        show OwnR _ _ _ _ _ _ _ (T65.setTop (mkF m 278 #[.val (.long q1), .second, .val (.long q2), .second, .val (.long q3), .second, .val (.int p4), .val (.int p5), .val (.int (3 : Int32)), .val (.int pp), .val (.long (own_floor q1)), .second, .val (.long (own_floor q2)), .second, .val (.long (own_floor q3)), .second, .val (.ref b4), .val (.long (own_e3 pp (own_floor q1) (own_floor q2) (own_floor q3))), .second, .val (.long (own_max (own_min (own_floor q1) (own_floor q2)) (own_min (own_max (own_floor q1) (own_floor q2)) (own_floor q3)))), .second, .val (.int ((3 : Int32) * pp)), .val (.int (2 : Int32)), .val (.long (own_min (own_min (own_floor q1) (own_floor q2)) (own_floor q3))), .second, .val (.long (own_max (own_max (own_floor q1) (own_floor q2)) (own_floor q3))), .second, .val (.long (own_max (own_min (own_floor q1) (own_floor q2)) (own_min (own_max (own_floor q1) (own_floor q2)) (own_floor q3)))), .second] []))
        refine OwnR.of (fun _ hr => XS.aload X65.here hx rfl (hb hby at_278) rfl rfl hr) ?_
        show OwnR _ _ _ _ _ _ _ (T65.setTop (mkF m 280 #[.val (.long q1), .second, .val (.long q2), .second, .val (.long q3), .second, .val (.int p4), .val (.int p5), .val (.int (3 : Int32)), .val (.int pp), .val (.long (own_floor q1)), .second, .val (.long (own_floor q2)), .second, .val (.long (own_floor q3)), .second, .val (.ref b4), .val (.long (own_e3 pp (own_floor q1) (own_floor q2) (own_floor q3))), .second, .val (.long (own_max (own_min (own_floor q1) (own_floor q2)) (own_min (own_max (own_floor q1) (own_floor q2)) (own_floor q3)))), .second, .val (.int ((3 : Int32) * pp)), .val (.int (2 : Int32)), .val (.long (own_min (own_min (own_floor q1) (own_floor q2)) (own_floor q3))), .second, .val (.long (own_max (own_max (own_floor q1) (own_floor q2)) (own_floor q3))), .second, .val (.long (own_max (own_min (own_floor q1) (own_floor q2)) (own_min (own_max (own_floor q1) (own_floor q2)) (own_floor q3)))), .second] [(.ref b4)]))
        obtain ⟨cq67, kq67, q67a, q67b, q67c⟩ := isOf hZ e65 P43_0
        obtain ⟨_, _, ⟨T67, L67, kc67, ns67⟩, -, X67, ⟨Lc67, hQ67, l67, y67, z67⟩, st67⟩ := X65.virtualBack hx (y := (⟨"com/example/kurir/kurir/bench/Latencies", "count", "()J"⟩ : MethodName)) (z := (⟨"com/example/kurir/kurir/bench/Latencies", "count", "()J"⟩ : MethodName)) hown (mvT hZ (hw _ (List.mem_of_getElem? (i := 81) rfl))) (mvT hZ (hw _ (List.mem_of_getElem? (i := 82) rfl))) (notFace_of_selects (args := #[]) (mvT hZ (hw _ (List.mem_of_getElem? (i := 84) rfl)))) (mvT hZ (hw _ (List.mem_of_getElem? (i := 84) rfl))) (mvT hZ (hw _ (List.mem_of_getElem? (i := 83) rfl))) (by decide) (backOf (W := 0) (rmCount l Z a0 hw [] b4 ((((0 : Int64) + (1 : Int64)) + (1 : Int64)) + (1 : Int64)) (T43.heap) n0 (Nat.le_trans Z0 K43.1) P43_0 P43_2) hZ (hw _ (List.mem_of_getElem? (i := 85) rfl)) (hw _ (List.mem_of_getElem? (i := 16) rfl)) (by decide) (by decide)) q67a q67c (g := (mkF m 280 #[.val (.long q1), .second, .val (.long q2), .second, .val (.long q3), .second, .val (.int p4), .val (.int p5), .val (.int (3 : Int32)), .val (.int pp), .val (.long (own_floor q1)), .second, .val (.long (own_floor q2)), .second, .val (.long (own_floor q3)), .second, .val (.ref b4), .val (.long (own_e3 pp (own_floor q1) (own_floor q2) (own_floor q3))), .second, .val (.long (own_max (own_min (own_floor q1) (own_floor q2)) (own_min (own_max (own_floor q1) (own_floor q2)) (own_floor q3)))), .second, .val (.int ((3 : Int32) * pp)), .val (.int (2 : Int32)), .val (.long (own_min (own_min (own_floor q1) (own_floor q2)) (own_floor q3))), .second, .val (.long (own_max (own_max (own_floor q1) (own_floor q2)) (own_floor q3))), .second, .val (.long (own_max (own_min (own_floor q1) (own_floor q2)) (own_min (own_max (own_floor q1) (own_floor q2)) (own_floor q3)))), .second] [(.ref b4)])) rfl (by rw [hml]; rfl) (Steps.refl _) (argsL := []) (rest := []) (lenOf pd___J rfl) rfl (by show 2 * 0 + _ ≤ _; exact Nat.le_of_eq rfl) (hb hby at_280) (fun _ _ => ⟨rfl, e65, (by decide : 5 + 0 ≤ _), (show 52 + sl1 + sl2 + sl3 + 0 ≤ 157376 from hr3)⟩)
        dsimp only [Pt.U, Pt.locs, Pt.cells, Pt.slots] at X67 l67 y67 z67 st67 hQ67
        rw [l67, y67, z67] at X67
        obtain ⟨rfl, N67q, e67⟩ := hQ67
        have N67 := Fr.app N65 N67q
        refine OwnR.of (fun _ hr => st67.trans hr) ?_
        show OwnR _ _ _ _ _ _ _ (T67.setTop (mkF m 283 #[.val (.long q1), .second, .val (.long q2), .second, .val (.long q3), .second, .val (.int p4), .val (.int p5), .val (.int (3 : Int32)), .val (.int pp), .val (.long (own_floor q1)), .second, .val (.long (own_floor q2)), .second, .val (.long (own_floor q3)), .second, .val (.ref b4), .val (.long (own_e3 pp (own_floor q1) (own_floor q2) (own_floor q3))), .second, .val (.long (own_max (own_min (own_floor q1) (own_floor q2)) (own_min (own_max (own_floor q1) (own_floor q2)) (own_floor q3)))), .second, .val (.int ((3 : Int32) * pp)), .val (.int (2 : Int32)), .val (.long (own_min (own_min (own_floor q1) (own_floor q2)) (own_floor q3))), .second, .val (.long (own_max (own_max (own_floor q1) (own_floor q2)) (own_floor q3))), .second, .val (.long (own_max (own_min (own_floor q1) (own_floor q2)) (own_min (own_max (own_floor q1) (own_floor q2)) (own_floor q3)))), .second] [(.long ((((0 : Int64) + (1 : Int64)) + (1 : Int64)) + (1 : Int64)))]))
        refine OwnR.of (fun _ hr => XS.iload X67.here hx rfl (hb hby at_283) rfl hr) ?_
        show OwnR _ _ _ _ _ _ _ (T67.setTop (mkF m 285 #[.val (.long q1), .second, .val (.long q2), .second, .val (.long q3), .second, .val (.int p4), .val (.int p5), .val (.int (3 : Int32)), .val (.int pp), .val (.long (own_floor q1)), .second, .val (.long (own_floor q2)), .second, .val (.long (own_floor q3)), .second, .val (.ref b4), .val (.long (own_e3 pp (own_floor q1) (own_floor q2) (own_floor q3))), .second, .val (.long (own_max (own_min (own_floor q1) (own_floor q2)) (own_min (own_max (own_floor q1) (own_floor q2)) (own_floor q3)))), .second, .val (.int ((3 : Int32) * pp)), .val (.int (2 : Int32)), .val (.long (own_min (own_min (own_floor q1) (own_floor q2)) (own_floor q3))), .second, .val (.long (own_max (own_max (own_floor q1) (own_floor q2)) (own_floor q3))), .second, .val (.long (own_max (own_min (own_floor q1) (own_floor q2)) (own_min (own_max (own_floor q1) (own_floor q2)) (own_floor q3)))), .second] [(.int (3 : Int32)), (.long ((((0 : Int64) + (1 : Int64)) + (1 : Int64)) + (1 : Int64)))]))
        refine OwnR.of (fun _ hr => XS.i2l X67.here hx rfl (hb hby at_285) rfl hr) ?_
        show OwnR _ _ _ _ _ _ _ (T67.setTop (mkF m 286 #[.val (.long q1), .second, .val (.long q2), .second, .val (.long q3), .second, .val (.int p4), .val (.int p5), .val (.int (3 : Int32)), .val (.int pp), .val (.long (own_floor q1)), .second, .val (.long (own_floor q2)), .second, .val (.long (own_floor q3)), .second, .val (.ref b4), .val (.long (own_e3 pp (own_floor q1) (own_floor q2) (own_floor q3))), .second, .val (.long (own_max (own_min (own_floor q1) (own_floor q2)) (own_min (own_max (own_floor q1) (own_floor q2)) (own_floor q3)))), .second, .val (.int ((3 : Int32) * pp)), .val (.int (2 : Int32)), .val (.long (own_min (own_min (own_floor q1) (own_floor q2)) (own_floor q3))), .second, .val (.long (own_max (own_max (own_floor q1) (own_floor q2)) (own_floor q3))), .second, .val (.long (own_max (own_min (own_floor q1) (own_floor q2)) (own_min (own_max (own_floor q1) (own_floor q2)) (own_floor q3)))), .second] [(.long ((3 : Int32).toInt64)), (.long ((((0 : Int64) + (1 : Int64)) + (1 : Int64)) + (1 : Int64)))]))
        rw [(by decide : ((3 : Int32).toInt64) = (3 : Int64))]
        show OwnR _ _ _ _ _ _ _ (T67.setTop (mkF m 286 #[.val (.long q1), .second, .val (.long q2), .second, .val (.long q3), .second, .val (.int p4), .val (.int p5), .val (.int (3 : Int32)), .val (.int pp), .val (.long (own_floor q1)), .second, .val (.long (own_floor q2)), .second, .val (.long (own_floor q3)), .second, .val (.ref b4), .val (.long (own_e3 pp (own_floor q1) (own_floor q2) (own_floor q3))), .second, .val (.long (own_max (own_min (own_floor q1) (own_floor q2)) (own_min (own_max (own_floor q1) (own_floor q2)) (own_floor q3)))), .second, .val (.int ((3 : Int32) * pp)), .val (.int (2 : Int32)), .val (.long (own_min (own_min (own_floor q1) (own_floor q2)) (own_floor q3))), .second, .val (.long (own_max (own_max (own_floor q1) (own_floor q2)) (own_floor q3))), .second, .val (.long (own_max (own_min (own_floor q1) (own_floor q2)) (own_min (own_max (own_floor q1) (own_floor q2)) (own_floor q3)))), .second] [(.long (3 : Int64)), (.long ((((0 : Int64) + (1 : Int64)) + (1 : Int64)) + (1 : Int64)))]))
        refine OwnR.of (fun _ hr => XS.lcmp X67.here hx rfl (hb hby at_286) rfl hr) ?_
        show OwnR _ _ _ _ _ _ _ (T67.setTop (mkF m 287 #[.val (.long q1), .second, .val (.long q2), .second, .val (.long q3), .second, .val (.int p4), .val (.int p5), .val (.int (3 : Int32)), .val (.int pp), .val (.long (own_floor q1)), .second, .val (.long (own_floor q2)), .second, .val (.long (own_floor q3)), .second, .val (.ref b4), .val (.long (own_e3 pp (own_floor q1) (own_floor q2) (own_floor q3))), .second, .val (.long (own_max (own_min (own_floor q1) (own_floor q2)) (own_min (own_max (own_floor q1) (own_floor q2)) (own_floor q3)))), .second, .val (.int ((3 : Int32) * pp)), .val (.int (2 : Int32)), .val (.long (own_min (own_min (own_floor q1) (own_floor q2)) (own_floor q3))), .second, .val (.long (own_max (own_max (own_floor q1) (own_floor q2)) (own_floor q3))), .second, .val (.long (own_max (own_min (own_floor q1) (own_floor q2)) (own_min (own_max (own_floor q1) (own_floor q2)) (own_floor q3)))), .second] [(.int (lcmpW ((((0 : Int64) + (1 : Int64)) + (1 : Int64)) + (1 : Int64)) (3 : Int64)))]))
        have hc287_68 : ((((0 : Int64) + (1 : Int64)) + (1 : Int64)) + (1 : Int64)) = (3 : Int64) := by
          refine Classical.byContradiction fun hbad => ?_
          exact hbad (by decide)
        refine OwnR.of (fun _ hr => XS.ifNo X67.here hx rfl (hb hby at_287) rfl ((if0 _ _).trans (teq ((own_lceq _ _).mpr hc287_68)).2) hr) ?_
        show OwnR _ _ _ _ _ _ _ (T67.setTop (mkF m 290 #[.val (.long q1), .second, .val (.long q2), .second, .val (.long q3), .second, .val (.int p4), .val (.int p5), .val (.int (3 : Int32)), .val (.int pp), .val (.long (own_floor q1)), .second, .val (.long (own_floor q2)), .second, .val (.long (own_floor q3)), .second, .val (.ref b4), .val (.long (own_e3 pp (own_floor q1) (own_floor q2) (own_floor q3))), .second, .val (.long (own_max (own_min (own_floor q1) (own_floor q2)) (own_min (own_max (own_floor q1) (own_floor q2)) (own_floor q3)))), .second, .val (.int ((3 : Int32) * pp)), .val (.int (2 : Int32)), .val (.long (own_min (own_min (own_floor q1) (own_floor q2)) (own_floor q3))), .second, .val (.long (own_max (own_max (own_floor q1) (own_floor q2)) (own_floor q3))), .second, .val (.long (own_max (own_min (own_floor q1) (own_floor q2)) (own_min (own_max (own_floor q1) (own_floor q2)) (own_floor q3)))), .second] []))
        refine OwnR.of (fun _ hr => XS.iconst X67.here hx rfl (hb hby at_290) hr) ?_
        show OwnR _ _ _ _ _ _ _ (T67.setTop (mkF m 291 #[.val (.long q1), .second, .val (.long q2), .second, .val (.long q3), .second, .val (.int p4), .val (.int p5), .val (.int (3 : Int32)), .val (.int pp), .val (.long (own_floor q1)), .second, .val (.long (own_floor q2)), .second, .val (.long (own_floor q3)), .second, .val (.ref b4), .val (.long (own_e3 pp (own_floor q1) (own_floor q2) (own_floor q3))), .second, .val (.long (own_max (own_min (own_floor q1) (own_floor q2)) (own_min (own_max (own_floor q1) (own_floor q2)) (own_floor q3)))), .second, .val (.int ((3 : Int32) * pp)), .val (.int (2 : Int32)), .val (.long (own_min (own_min (own_floor q1) (own_floor q2)) (own_floor q3))), .second, .val (.long (own_max (own_max (own_floor q1) (own_floor q2)) (own_floor q3))), .second, .val (.long (own_max (own_min (own_floor q1) (own_floor q2)) (own_min (own_max (own_floor q1) (own_floor q2)) (own_floor q3)))), .second] [(.int (1 : Int32))]))
        refine OwnR.of (fun _ hr => XS.goto X67.here hx rfl (pc0 := 291) (pc' := 295) rfl (hb hby at_291) (by decide) (by decide) hr) ?_
        show OwnR _ _ _ _ _ _ _ (T67.setTop (mkF m 295 #[.val (.long q1), .second, .val (.long q2), .second, .val (.long q3), .second, .val (.int p4), .val (.int p5), .val (.int (3 : Int32)), .val (.int pp), .val (.long (own_floor q1)), .second, .val (.long (own_floor q2)), .second, .val (.long (own_floor q3)), .second, .val (.ref b4), .val (.long (own_e3 pp (own_floor q1) (own_floor q2) (own_floor q3))), .second, .val (.long (own_max (own_min (own_floor q1) (own_floor q2)) (own_min (own_max (own_floor q1) (own_floor q2)) (own_floor q3)))), .second, .val (.int ((3 : Int32) * pp)), .val (.int (2 : Int32)), .val (.long (own_min (own_min (own_floor q1) (own_floor q2)) (own_floor q3))), .second, .val (.long (own_max (own_max (own_floor q1) (own_floor q2)) (own_floor q3))), .second, .val (.long (own_max (own_min (own_floor q1) (own_floor q2)) (own_min (own_max (own_floor q1) (own_floor q2)) (own_floor q3)))), .second] [(.int (1 : Int32))]))
        refine own_leafN X67 hx hlk (t := .boolean) Bd.returns (by simp) (hb hby at_295) (z' := (1 : Int32)) rfl (by decide) (show 52 + sl1 + sl2 + sl3 ≤ 157376 from hr3) ?_
        show Q0 Z  h0 n0 _ T67.heap _
        rw [show T67.heap = T43.heap from e67]
        refine ⟨?_, N67⟩
        show (some (.int (1 : Int32)) : Option Value) = some (.int (1 : Int32))
        rfl
    · skip
      refine OwnR.of (fun _ hr => XS.icmpNo X44.here hx rfl (hb hby at_123) rfl (flt hc123_45).2.2.1 hr) ?_
      show OwnR _ _ _ _ _ _ _ (T44.setTop (mkF m 126 #[.val (.long q1), .second, .val (.long q2), .second, .val (.long q3), .second, .val (.int p4), .val (.int p5), .val (.int (3 : Int32)), .val (.int pp), .val (.long (own_floor q1)), .second, .val (.long (own_floor q2)), .second, .val (.long (own_floor q3)), .second, .val (.ref b4), .val (.long (own_e3 pp (own_floor q1) (own_floor q2) (own_floor q3))), .second, .unset, .unset, .val (.int ((3 : Int32) * pp)), .unset, .unset, .unset, .unset, .unset, .unset, .unset] []))
      refine OwnR.of (fun _ hr => XS.iconst X44.here hx rfl (hb hby at_126) hr) ?_
      show OwnR _ _ _ _ _ _ _ (T44.setTop (mkF m 127 #[.val (.long q1), .second, .val (.long q2), .second, .val (.long q3), .second, .val (.int p4), .val (.int p5), .val (.int (3 : Int32)), .val (.int pp), .val (.long (own_floor q1)), .second, .val (.long (own_floor q2)), .second, .val (.long (own_floor q3)), .second, .val (.ref b4), .val (.long (own_e3 pp (own_floor q1) (own_floor q2) (own_floor q3))), .second, .unset, .unset, .val (.int ((3 : Int32) * pp)), .unset, .unset, .unset, .unset, .unset, .unset, .unset] [(.int (1 : Int32))]))
      refine OwnR.of (fun _ hr => XS.goto X44.here hx rfl (pc0 := 127) (pc' := 143) rfl (hb hby at_127) (by decide) (by decide) hr) ?_
      show OwnR _ _ _ _ _ _ _ (T44.setTop (mkF m 143 #[.val (.long q1), .second, .val (.long q2), .second, .val (.long q3), .second, .val (.int p4), .val (.int p5), .val (.int (3 : Int32)), .val (.int pp), .val (.long (own_floor q1)), .second, .val (.long (own_floor q2)), .second, .val (.long (own_floor q3)), .second, .val (.ref b4), .val (.long (own_e3 pp (own_floor q1) (own_floor q2) (own_floor q3))), .second, .unset, .unset, .val (.int ((3 : Int32) * pp)), .unset, .unset, .unset, .unset, .unset, .unset, .unset] [(.int (1 : Int32))]))
      refine OwnR.of (fun _ hr => XS.istore X44.here hx rfl (hb hby at_143) rfl (l' := #[.val (.long q1), .second, .val (.long q2), .second, .val (.long q3), .second, .val (.int p4), .val (.int p5), .val (.int (3 : Int32)), .val (.int pp), .val (.long (own_floor q1)), .second, .val (.long (own_floor q2)), .second, .val (.long (own_floor q3)), .second, .val (.ref b4), .val (.long (own_e3 pp (own_floor q1) (own_floor q2) (own_floor q3))), .second, .unset, .unset, .val (.int ((3 : Int32) * pp)), .val (.int (1 : Int32)), .unset, .unset, .unset, .unset, .unset, .unset]) rfl hr) ?_
      show OwnR _ _ _ _ _ _ _ (T44.setTop (mkF m 145 #[.val (.long q1), .second, .val (.long q2), .second, .val (.long q3), .second, .val (.int p4), .val (.int p5), .val (.int (3 : Int32)), .val (.int pp), .val (.long (own_floor q1)), .second, .val (.long (own_floor q2)), .second, .val (.long (own_floor q3)), .second, .val (.ref b4), .val (.long (own_e3 pp (own_floor q1) (own_floor q2) (own_floor q3))), .second, .unset, .unset, .val (.int ((3 : Int32) * pp)), .val (.int (1 : Int32)), .unset, .unset, .unset, .unset, .unset, .unset] []))
      refine OwnR.of (fun _ hr => XS.iload X44.here hx rfl (hb hby at_145) rfl hr) ?_
      show OwnR _ _ _ _ _ _ _ (T44.setTop (mkF m 147 #[.val (.long q1), .second, .val (.long q2), .second, .val (.long q3), .second, .val (.int p4), .val (.int p5), .val (.int (3 : Int32)), .val (.int pp), .val (.long (own_floor q1)), .second, .val (.long (own_floor q2)), .second, .val (.long (own_floor q3)), .second, .val (.ref b4), .val (.long (own_e3 pp (own_floor q1) (own_floor q2) (own_floor q3))), .second, .unset, .unset, .val (.int ((3 : Int32) * pp)), .val (.int (1 : Int32)), .unset, .unset, .unset, .unset, .unset, .unset] [(.int (3 : Int32))]))
      refine OwnR.of (fun _ hr => XS.iconst X44.here hx rfl (hb hby at_147) hr) ?_
      show OwnR _ _ _ _ _ _ _ (T44.setTop (mkF m 148 #[.val (.long q1), .second, .val (.long q2), .second, .val (.long q3), .second, .val (.int p4), .val (.int p5), .val (.int (3 : Int32)), .val (.int pp), .val (.long (own_floor q1)), .second, .val (.long (own_floor q2)), .second, .val (.long (own_floor q3)), .second, .val (.ref b4), .val (.long (own_e3 pp (own_floor q1) (own_floor q2) (own_floor q3))), .second, .unset, .unset, .val (.int ((3 : Int32) * pp)), .val (.int (1 : Int32)), .unset, .unset, .unset, .unset, .unset, .unset] [(.int (1 : Int32)), (.int (3 : Int32))]))
      refine OwnR.of (fun _ hr => XS.icmpYes X44.here hx rfl (pc0 := 148) (pc' := 158) rfl (hb hby at_148) rfl (feq (by decide : ¬ ((3 : Int32) = (1 : Int32)))).2 (by decide) (by decide) hr) ?_
      show OwnR _ _ _ _ _ _ _ (T44.setTop (mkF m 158 #[.val (.long q1), .second, .val (.long q2), .second, .val (.long q3), .second, .val (.int p4), .val (.int p5), .val (.int (3 : Int32)), .val (.int pp), .val (.long (own_floor q1)), .second, .val (.long (own_floor q2)), .second, .val (.long (own_floor q3)), .second, .val (.ref b4), .val (.long (own_e3 pp (own_floor q1) (own_floor q2) (own_floor q3))), .second, .unset, .unset, .val (.int ((3 : Int32) * pp)), .val (.int (1 : Int32)), .unset, .unset, .unset, .unset, .unset, .unset] []))
      refine OwnR.of (fun _ hr => XS.iload X44.here hx rfl (hb hby at_158) rfl hr) ?_
      show OwnR _ _ _ _ _ _ _ (T44.setTop (mkF m 160 #[.val (.long q1), .second, .val (.long q2), .second, .val (.long q3), .second, .val (.int p4), .val (.int p5), .val (.int (3 : Int32)), .val (.int pp), .val (.long (own_floor q1)), .second, .val (.long (own_floor q2)), .second, .val (.long (own_floor q3)), .second, .val (.ref b4), .val (.long (own_e3 pp (own_floor q1) (own_floor q2) (own_floor q3))), .second, .unset, .unset, .val (.int ((3 : Int32) * pp)), .val (.int (1 : Int32)), .unset, .unset, .unset, .unset, .unset, .unset] [(.int (3 : Int32))]))
      refine OwnR.of (fun _ hr => XS.iconst X44.here hx rfl (hb hby at_160) hr) ?_
      show OwnR _ _ _ _ _ _ _ (T44.setTop (mkF m 161 #[.val (.long q1), .second, .val (.long q2), .second, .val (.long q3), .second, .val (.int p4), .val (.int p5), .val (.int (3 : Int32)), .val (.int pp), .val (.long (own_floor q1)), .second, .val (.long (own_floor q2)), .second, .val (.long (own_floor q3)), .second, .val (.ref b4), .val (.long (own_e3 pp (own_floor q1) (own_floor q2) (own_floor q3))), .second, .unset, .unset, .val (.int ((3 : Int32) * pp)), .val (.int (1 : Int32)), .unset, .unset, .unset, .unset, .unset, .unset] [(.int (2 : Int32)), (.int (3 : Int32))]))
      refine OwnR.of (fun _ hr => XS.icmpYes X44.here hx rfl (pc0 := 161) (pc' := 192) rfl (hb hby at_161) rfl (feq (by decide : ¬ ((3 : Int32) = (2 : Int32)))).2 (by decide) (by decide) hr) ?_
      show OwnR _ _ _ _ _ _ _ (T44.setTop (mkF m 192 #[.val (.long q1), .second, .val (.long q2), .second, .val (.long q3), .second, .val (.int p4), .val (.int p5), .val (.int (3 : Int32)), .val (.int pp), .val (.long (own_floor q1)), .second, .val (.long (own_floor q2)), .second, .val (.long (own_floor q3)), .second, .val (.ref b4), .val (.long (own_e3 pp (own_floor q1) (own_floor q2) (own_floor q3))), .second, .unset, .unset, .val (.int ((3 : Int32) * pp)), .val (.int (1 : Int32)), .unset, .unset, .unset, .unset, .unset, .unset] []))
      refine OwnR.of (fun _ hr => XS.lload X44.here hx rfl (hb hby at_192) rfl hr) ?_
      show OwnR _ _ _ _ _ _ _ (T44.setTop (mkF m 194 #[.val (.long q1), .second, .val (.long q2), .second, .val (.long q3), .second, .val (.int p4), .val (.int p5), .val (.int (3 : Int32)), .val (.int pp), .val (.long (own_floor q1)), .second, .val (.long (own_floor q2)), .second, .val (.long (own_floor q3)), .second, .val (.ref b4), .val (.long (own_e3 pp (own_floor q1) (own_floor q2) (own_floor q3))), .second, .unset, .unset, .val (.int ((3 : Int32) * pp)), .val (.int (1 : Int32)), .unset, .unset, .unset, .unset, .unset, .unset] [(.long (own_floor q1))]))
      refine OwnR.of (fun _ hr => XS.lload X44.here hx rfl (hb hby at_194) rfl hr) ?_
      show OwnR _ _ _ _ _ _ _ (T44.setTop (mkF m 196 #[.val (.long q1), .second, .val (.long q2), .second, .val (.long q3), .second, .val (.int p4), .val (.int p5), .val (.int (3 : Int32)), .val (.int pp), .val (.long (own_floor q1)), .second, .val (.long (own_floor q2)), .second, .val (.long (own_floor q3)), .second, .val (.ref b4), .val (.long (own_e3 pp (own_floor q1) (own_floor q2) (own_floor q3))), .second, .unset, .unset, .val (.int ((3 : Int32) * pp)), .val (.int (1 : Int32)), .unset, .unset, .unset, .unset, .unset, .unset] [(.long (own_floor q2)), (.long (own_floor q1))]))
      obtain ⟨_, _, ⟨T69, L69, kc69, ns69⟩, -, X69, ⟨Lc69, hQ69, l69, y69, z69⟩, st69⟩ := Jvm.LawKit.callS X44 hx (y := (⟨"java/lang/Math", "min", "(JJ)J"⟩ : MethodName)) hown (mvT hZ (hw _ (List.mem_of_getElem? (i := 77) rfl))) (mvT hZ (hw _ (List.mem_of_getElem? (i := 78) rfl))) (mvT hZ (hw _ (List.mem_of_getElem? (i := 41) rfl))) (mvT hZ (hw _ (List.mem_of_getElem? (i := 79) rfl))) (by decide) (backOf (W := 0) (rmMinJ l Z a0 hw [] (own_floor q1) (own_floor q2) (T43.heap) n0 (Nat.le_trans Z0 K43.1) ) hZ (hw _ (List.mem_of_getElem? (i := 79) rfl)) (hw _ (List.mem_of_getElem? (i := 41) rfl)) (by decide) (by decide)) (g := (mkF m 196 #[.val (.long q1), .second, .val (.long q2), .second, .val (.long q3), .second, .val (.int p4), .val (.int p5), .val (.int (3 : Int32)), .val (.int pp), .val (.long (own_floor q1)), .second, .val (.long (own_floor q2)), .second, .val (.long (own_floor q3)), .second, .val (.ref b4), .val (.long (own_e3 pp (own_floor q1) (own_floor q2) (own_floor q3))), .second, .unset, .unset, .val (.int ((3 : Int32) * pp)), .val (.int (1 : Int32)), .unset, .unset, .unset, .unset, .unset, .unset] [(.long (own_floor q2)), (.long (own_floor q1))])) rfl (by rw [hml]; rfl) (argsL := [(.long (own_floor q1)), (.long (own_floor q2))]) (rest := []) (lenOf pd__JJ_J rfl) rfl (by show 2 * 0 + _ ≤ _; exact Nat.le_of_eq rfl) (hb hby at_196) (fun _ _ => ⟨rfl, e44, (by decide : 5 + 0 ≤ _), (show 52 + sl1 + sl2 + sl3 + 0 ≤ 157376 from hr3)⟩)
      dsimp only [Pt.U, Pt.locs, Pt.cells, Pt.slots] at X69 l69 y69 z69 st69 hQ69
      rw [l69, y69, z69] at X69
      obtain ⟨rfl, N69q, e69⟩ := hQ69
      have N69 := Fr.app N44 N69q
      refine OwnR.of (st69) ?_
      show OwnR _ _ _ _ _ _ _ (T69.setTop (mkF m 199 #[.val (.long q1), .second, .val (.long q2), .second, .val (.long q3), .second, .val (.int p4), .val (.int p5), .val (.int (3 : Int32)), .val (.int pp), .val (.long (own_floor q1)), .second, .val (.long (own_floor q2)), .second, .val (.long (own_floor q3)), .second, .val (.ref b4), .val (.long (own_e3 pp (own_floor q1) (own_floor q2) (own_floor q3))), .second, .unset, .unset, .val (.int ((3 : Int32) * pp)), .val (.int (1 : Int32)), .unset, .unset, .unset, .unset, .unset, .unset] [(.long (own_min (own_floor q1) (own_floor q2)))]))
      refine OwnR.of (fun _ hr => XS.lload X69.here hx rfl (hb hby at_199) rfl hr) ?_
      show OwnR _ _ _ _ _ _ _ (T69.setTop (mkF m 201 #[.val (.long q1), .second, .val (.long q2), .second, .val (.long q3), .second, .val (.int p4), .val (.int p5), .val (.int (3 : Int32)), .val (.int pp), .val (.long (own_floor q1)), .second, .val (.long (own_floor q2)), .second, .val (.long (own_floor q3)), .second, .val (.ref b4), .val (.long (own_e3 pp (own_floor q1) (own_floor q2) (own_floor q3))), .second, .unset, .unset, .val (.int ((3 : Int32) * pp)), .val (.int (1 : Int32)), .unset, .unset, .unset, .unset, .unset, .unset] [(.long (own_floor q3)), (.long (own_min (own_floor q1) (own_floor q2)))]))
      obtain ⟨_, _, ⟨T70, L70, kc70, ns70⟩, -, X70, ⟨Lc70, hQ70, l70, y70, z70⟩, st70⟩ := Jvm.LawKit.callS X69 hx (y := (⟨"java/lang/Math", "min", "(JJ)J"⟩ : MethodName)) hown (mvT hZ (hw _ (List.mem_of_getElem? (i := 77) rfl))) (mvT hZ (hw _ (List.mem_of_getElem? (i := 78) rfl))) (mvT hZ (hw _ (List.mem_of_getElem? (i := 41) rfl))) (mvT hZ (hw _ (List.mem_of_getElem? (i := 79) rfl))) (by decide) (backOf (W := 0) (rmMinJ l Z a0 hw [] (own_min (own_floor q1) (own_floor q2)) (own_floor q3) (T43.heap) n0 (Nat.le_trans Z0 K43.1) ) hZ (hw _ (List.mem_of_getElem? (i := 79) rfl)) (hw _ (List.mem_of_getElem? (i := 41) rfl)) (by decide) (by decide)) (g := (mkF m 201 #[.val (.long q1), .second, .val (.long q2), .second, .val (.long q3), .second, .val (.int p4), .val (.int p5), .val (.int (3 : Int32)), .val (.int pp), .val (.long (own_floor q1)), .second, .val (.long (own_floor q2)), .second, .val (.long (own_floor q3)), .second, .val (.ref b4), .val (.long (own_e3 pp (own_floor q1) (own_floor q2) (own_floor q3))), .second, .unset, .unset, .val (.int ((3 : Int32) * pp)), .val (.int (1 : Int32)), .unset, .unset, .unset, .unset, .unset, .unset] [(.long (own_floor q3)), (.long (own_min (own_floor q1) (own_floor q2)))])) rfl (by rw [hml]; rfl) (argsL := [(.long (own_min (own_floor q1) (own_floor q2))), (.long (own_floor q3))]) (rest := []) (lenOf pd__JJ_J rfl) rfl (by show 2 * 0 + _ ≤ _; exact Nat.le_of_eq rfl) (hb hby at_201) (fun _ _ => ⟨rfl, e69, (by decide : 5 + 0 ≤ _), (show 52 + sl1 + sl2 + sl3 + 0 ≤ 157376 from hr3)⟩)
      dsimp only [Pt.U, Pt.locs, Pt.cells, Pt.slots] at X70 l70 y70 z70 st70 hQ70
      rw [l70, y70, z70] at X70
      obtain ⟨rfl, N70q, e70⟩ := hQ70
      have N70 := Fr.app N69 N70q
      refine OwnR.of (st70) ?_
      show OwnR _ _ _ _ _ _ _ (T70.setTop (mkF m 204 #[.val (.long q1), .second, .val (.long q2), .second, .val (.long q3), .second, .val (.int p4), .val (.int p5), .val (.int (3 : Int32)), .val (.int pp), .val (.long (own_floor q1)), .second, .val (.long (own_floor q2)), .second, .val (.long (own_floor q3)), .second, .val (.ref b4), .val (.long (own_e3 pp (own_floor q1) (own_floor q2) (own_floor q3))), .second, .unset, .unset, .val (.int ((3 : Int32) * pp)), .val (.int (1 : Int32)), .unset, .unset, .unset, .unset, .unset, .unset] [(.long (own_min (own_min (own_floor q1) (own_floor q2)) (own_floor q3)))]))
      refine OwnR.of (fun _ hr => XS.lstore X70.here hx rfl (hb hby at_204) rfl (l' := #[.val (.long q1), .second, .val (.long q2), .second, .val (.long q3), .second, .val (.int p4), .val (.int p5), .val (.int (3 : Int32)), .val (.int pp), .val (.long (own_floor q1)), .second, .val (.long (own_floor q2)), .second, .val (.long (own_floor q3)), .second, .val (.ref b4), .val (.long (own_e3 pp (own_floor q1) (own_floor q2) (own_floor q3))), .second, .unset, .unset, .val (.int ((3 : Int32) * pp)), .val (.int (1 : Int32)), .val (.long (own_min (own_min (own_floor q1) (own_floor q2)) (own_floor q3))), .second, .unset, .unset, .unset, .unset]) rfl hr) ?_
      show OwnR _ _ _ _ _ _ _ (T70.setTop (mkF m 206 #[.val (.long q1), .second, .val (.long q2), .second, .val (.long q3), .second, .val (.int p4), .val (.int p5), .val (.int (3 : Int32)), .val (.int pp), .val (.long (own_floor q1)), .second, .val (.long (own_floor q2)), .second, .val (.long (own_floor q3)), .second, .val (.ref b4), .val (.long (own_e3 pp (own_floor q1) (own_floor q2) (own_floor q3))), .second, .unset, .unset, .val (.int ((3 : Int32) * pp)), .val (.int (1 : Int32)), .val (.long (own_min (own_min (own_floor q1) (own_floor q2)) (own_floor q3))), .second, .unset, .unset, .unset, .unset] []))
      refine OwnR.of (fun _ hr => XS.lload X70.here hx rfl (hb hby at_206) rfl hr) ?_
      show OwnR _ _ _ _ _ _ _ (T70.setTop (mkF m 208 #[.val (.long q1), .second, .val (.long q2), .second, .val (.long q3), .second, .val (.int p4), .val (.int p5), .val (.int (3 : Int32)), .val (.int pp), .val (.long (own_floor q1)), .second, .val (.long (own_floor q2)), .second, .val (.long (own_floor q3)), .second, .val (.ref b4), .val (.long (own_e3 pp (own_floor q1) (own_floor q2) (own_floor q3))), .second, .unset, .unset, .val (.int ((3 : Int32) * pp)), .val (.int (1 : Int32)), .val (.long (own_min (own_min (own_floor q1) (own_floor q2)) (own_floor q3))), .second, .unset, .unset, .unset, .unset] [(.long (own_floor q1))]))
      refine OwnR.of (fun _ hr => XS.lload X70.here hx rfl (hb hby at_208) rfl hr) ?_
      show OwnR _ _ _ _ _ _ _ (T70.setTop (mkF m 210 #[.val (.long q1), .second, .val (.long q2), .second, .val (.long q3), .second, .val (.int p4), .val (.int p5), .val (.int (3 : Int32)), .val (.int pp), .val (.long (own_floor q1)), .second, .val (.long (own_floor q2)), .second, .val (.long (own_floor q3)), .second, .val (.ref b4), .val (.long (own_e3 pp (own_floor q1) (own_floor q2) (own_floor q3))), .second, .unset, .unset, .val (.int ((3 : Int32) * pp)), .val (.int (1 : Int32)), .val (.long (own_min (own_min (own_floor q1) (own_floor q2)) (own_floor q3))), .second, .unset, .unset, .unset, .unset] [(.long (own_floor q2)), (.long (own_floor q1))]))
      obtain ⟨_, _, ⟨T71, L71, kc71, ns71⟩, -, X71, ⟨Lc71, hQ71, l71, y71, z71⟩, st71⟩ := Jvm.LawKit.callS X70 hx (y := (⟨"java/lang/Math", "max", "(JJ)J"⟩ : MethodName)) hown (mvT hZ (hw _ (List.mem_of_getElem? (i := 80) rfl))) (mvT hZ (hw _ (List.mem_of_getElem? (i := 40) rfl))) (mvT hZ (hw _ (List.mem_of_getElem? (i := 41) rfl))) (mvT hZ (hw _ (List.mem_of_getElem? (i := 42) rfl))) (by decide) (backOf (W := 0) (rmMaxJ l Z a0 hw [] (own_floor q1) (own_floor q2) (T43.heap) n0 (Nat.le_trans Z0 K43.1) ) hZ (hw _ (List.mem_of_getElem? (i := 42) rfl)) (hw _ (List.mem_of_getElem? (i := 41) rfl)) (by decide) (by decide)) (g := (mkF m 210 #[.val (.long q1), .second, .val (.long q2), .second, .val (.long q3), .second, .val (.int p4), .val (.int p5), .val (.int (3 : Int32)), .val (.int pp), .val (.long (own_floor q1)), .second, .val (.long (own_floor q2)), .second, .val (.long (own_floor q3)), .second, .val (.ref b4), .val (.long (own_e3 pp (own_floor q1) (own_floor q2) (own_floor q3))), .second, .unset, .unset, .val (.int ((3 : Int32) * pp)), .val (.int (1 : Int32)), .val (.long (own_min (own_min (own_floor q1) (own_floor q2)) (own_floor q3))), .second, .unset, .unset, .unset, .unset] [(.long (own_floor q2)), (.long (own_floor q1))])) rfl (by rw [hml]; rfl) (argsL := [(.long (own_floor q1)), (.long (own_floor q2))]) (rest := []) (lenOf pd__JJ_J rfl) rfl (by show 2 * 0 + _ ≤ _; exact Nat.le_of_eq rfl) (hb hby at_210) (fun _ _ => ⟨rfl, e70, (by decide : 5 + 0 ≤ _), (show 52 + sl1 + sl2 + sl3 + 0 ≤ 157376 from hr3)⟩)
      dsimp only [Pt.U, Pt.locs, Pt.cells, Pt.slots] at X71 l71 y71 z71 st71 hQ71
      rw [l71, y71, z71] at X71
      obtain ⟨rfl, N71q, e71⟩ := hQ71
      have N71 := Fr.app N70 N71q
      refine OwnR.of (st71) ?_
      show OwnR _ _ _ _ _ _ _ (T71.setTop (mkF m 213 #[.val (.long q1), .second, .val (.long q2), .second, .val (.long q3), .second, .val (.int p4), .val (.int p5), .val (.int (3 : Int32)), .val (.int pp), .val (.long (own_floor q1)), .second, .val (.long (own_floor q2)), .second, .val (.long (own_floor q3)), .second, .val (.ref b4), .val (.long (own_e3 pp (own_floor q1) (own_floor q2) (own_floor q3))), .second, .unset, .unset, .val (.int ((3 : Int32) * pp)), .val (.int (1 : Int32)), .val (.long (own_min (own_min (own_floor q1) (own_floor q2)) (own_floor q3))), .second, .unset, .unset, .unset, .unset] [(.long (own_max (own_floor q1) (own_floor q2)))]))
      refine OwnR.of (fun _ hr => XS.lload X71.here hx rfl (hb hby at_213) rfl hr) ?_
      show OwnR _ _ _ _ _ _ _ (T71.setTop (mkF m 215 #[.val (.long q1), .second, .val (.long q2), .second, .val (.long q3), .second, .val (.int p4), .val (.int p5), .val (.int (3 : Int32)), .val (.int pp), .val (.long (own_floor q1)), .second, .val (.long (own_floor q2)), .second, .val (.long (own_floor q3)), .second, .val (.ref b4), .val (.long (own_e3 pp (own_floor q1) (own_floor q2) (own_floor q3))), .second, .unset, .unset, .val (.int ((3 : Int32) * pp)), .val (.int (1 : Int32)), .val (.long (own_min (own_min (own_floor q1) (own_floor q2)) (own_floor q3))), .second, .unset, .unset, .unset, .unset] [(.long (own_floor q3)), (.long (own_max (own_floor q1) (own_floor q2)))]))
      obtain ⟨_, _, ⟨T72, L72, kc72, ns72⟩, -, X72, ⟨Lc72, hQ72, l72, y72, z72⟩, st72⟩ := Jvm.LawKit.callS X71 hx (y := (⟨"java/lang/Math", "max", "(JJ)J"⟩ : MethodName)) hown (mvT hZ (hw _ (List.mem_of_getElem? (i := 80) rfl))) (mvT hZ (hw _ (List.mem_of_getElem? (i := 40) rfl))) (mvT hZ (hw _ (List.mem_of_getElem? (i := 41) rfl))) (mvT hZ (hw _ (List.mem_of_getElem? (i := 42) rfl))) (by decide) (backOf (W := 0) (rmMaxJ l Z a0 hw [] (own_max (own_floor q1) (own_floor q2)) (own_floor q3) (T43.heap) n0 (Nat.le_trans Z0 K43.1) ) hZ (hw _ (List.mem_of_getElem? (i := 42) rfl)) (hw _ (List.mem_of_getElem? (i := 41) rfl)) (by decide) (by decide)) (g := (mkF m 215 #[.val (.long q1), .second, .val (.long q2), .second, .val (.long q3), .second, .val (.int p4), .val (.int p5), .val (.int (3 : Int32)), .val (.int pp), .val (.long (own_floor q1)), .second, .val (.long (own_floor q2)), .second, .val (.long (own_floor q3)), .second, .val (.ref b4), .val (.long (own_e3 pp (own_floor q1) (own_floor q2) (own_floor q3))), .second, .unset, .unset, .val (.int ((3 : Int32) * pp)), .val (.int (1 : Int32)), .val (.long (own_min (own_min (own_floor q1) (own_floor q2)) (own_floor q3))), .second, .unset, .unset, .unset, .unset] [(.long (own_floor q3)), (.long (own_max (own_floor q1) (own_floor q2)))])) rfl (by rw [hml]; rfl) (argsL := [(.long (own_max (own_floor q1) (own_floor q2))), (.long (own_floor q3))]) (rest := []) (lenOf pd__JJ_J rfl) rfl (by show 2 * 0 + _ ≤ _; exact Nat.le_of_eq rfl) (hb hby at_215) (fun _ _ => ⟨rfl, e71, (by decide : 5 + 0 ≤ _), (show 52 + sl1 + sl2 + sl3 + 0 ≤ 157376 from hr3)⟩)
      dsimp only [Pt.U, Pt.locs, Pt.cells, Pt.slots] at X72 l72 y72 z72 st72 hQ72
      rw [l72, y72, z72] at X72
      obtain ⟨rfl, N72q, e72⟩ := hQ72
      have N72 := Fr.app N71 N72q
      refine OwnR.of (st72) ?_
      show OwnR _ _ _ _ _ _ _ (T72.setTop (mkF m 218 #[.val (.long q1), .second, .val (.long q2), .second, .val (.long q3), .second, .val (.int p4), .val (.int p5), .val (.int (3 : Int32)), .val (.int pp), .val (.long (own_floor q1)), .second, .val (.long (own_floor q2)), .second, .val (.long (own_floor q3)), .second, .val (.ref b4), .val (.long (own_e3 pp (own_floor q1) (own_floor q2) (own_floor q3))), .second, .unset, .unset, .val (.int ((3 : Int32) * pp)), .val (.int (1 : Int32)), .val (.long (own_min (own_min (own_floor q1) (own_floor q2)) (own_floor q3))), .second, .unset, .unset, .unset, .unset] [(.long (own_max (own_max (own_floor q1) (own_floor q2)) (own_floor q3)))]))
      refine OwnR.of (fun _ hr => XS.lstore X72.here hx rfl (hb hby at_218) rfl (l' := #[.val (.long q1), .second, .val (.long q2), .second, .val (.long q3), .second, .val (.int p4), .val (.int p5), .val (.int (3 : Int32)), .val (.int pp), .val (.long (own_floor q1)), .second, .val (.long (own_floor q2)), .second, .val (.long (own_floor q3)), .second, .val (.ref b4), .val (.long (own_e3 pp (own_floor q1) (own_floor q2) (own_floor q3))), .second, .unset, .unset, .val (.int ((3 : Int32) * pp)), .val (.int (1 : Int32)), .val (.long (own_min (own_min (own_floor q1) (own_floor q2)) (own_floor q3))), .second, .val (.long (own_max (own_max (own_floor q1) (own_floor q2)) (own_floor q3))), .second, .unset, .unset]) rfl hr) ?_
      show OwnR _ _ _ _ _ _ _ (T72.setTop (mkF m 220 #[.val (.long q1), .second, .val (.long q2), .second, .val (.long q3), .second, .val (.int p4), .val (.int p5), .val (.int (3 : Int32)), .val (.int pp), .val (.long (own_floor q1)), .second, .val (.long (own_floor q2)), .second, .val (.long (own_floor q3)), .second, .val (.ref b4), .val (.long (own_e3 pp (own_floor q1) (own_floor q2) (own_floor q3))), .second, .unset, .unset, .val (.int ((3 : Int32) * pp)), .val (.int (1 : Int32)), .val (.long (own_min (own_min (own_floor q1) (own_floor q2)) (own_floor q3))), .second, .val (.long (own_max (own_max (own_floor q1) (own_floor q2)) (own_floor q3))), .second, .unset, .unset] []))
      refine OwnR.of (fun _ hr => XS.lload X72.here hx rfl (hb hby at_220) rfl hr) ?_
      show OwnR _ _ _ _ _ _ _ (T72.setTop (mkF m 222 #[.val (.long q1), .second, .val (.long q2), .second, .val (.long q3), .second, .val (.int p4), .val (.int p5), .val (.int (3 : Int32)), .val (.int pp), .val (.long (own_floor q1)), .second, .val (.long (own_floor q2)), .second, .val (.long (own_floor q3)), .second, .val (.ref b4), .val (.long (own_e3 pp (own_floor q1) (own_floor q2) (own_floor q3))), .second, .unset, .unset, .val (.int ((3 : Int32) * pp)), .val (.int (1 : Int32)), .val (.long (own_min (own_min (own_floor q1) (own_floor q2)) (own_floor q3))), .second, .val (.long (own_max (own_max (own_floor q1) (own_floor q2)) (own_floor q3))), .second, .unset, .unset] [(.long (own_floor q1))]))
      refine OwnR.of (fun _ hr => XS.lload X72.here hx rfl (hb hby at_222) rfl hr) ?_
      show OwnR _ _ _ _ _ _ _ (T72.setTop (mkF m 224 #[.val (.long q1), .second, .val (.long q2), .second, .val (.long q3), .second, .val (.int p4), .val (.int p5), .val (.int (3 : Int32)), .val (.int pp), .val (.long (own_floor q1)), .second, .val (.long (own_floor q2)), .second, .val (.long (own_floor q3)), .second, .val (.ref b4), .val (.long (own_e3 pp (own_floor q1) (own_floor q2) (own_floor q3))), .second, .unset, .unset, .val (.int ((3 : Int32) * pp)), .val (.int (1 : Int32)), .val (.long (own_min (own_min (own_floor q1) (own_floor q2)) (own_floor q3))), .second, .val (.long (own_max (own_max (own_floor q1) (own_floor q2)) (own_floor q3))), .second, .unset, .unset] [(.long (own_floor q2)), (.long (own_floor q1))]))
      obtain ⟨_, _, ⟨T73, L73, kc73, ns73⟩, -, X73, ⟨Lc73, hQ73, l73, y73, z73⟩, st73⟩ := Jvm.LawKit.callS X72 hx (y := (⟨"java/lang/Math", "min", "(JJ)J"⟩ : MethodName)) hown (mvT hZ (hw _ (List.mem_of_getElem? (i := 77) rfl))) (mvT hZ (hw _ (List.mem_of_getElem? (i := 78) rfl))) (mvT hZ (hw _ (List.mem_of_getElem? (i := 41) rfl))) (mvT hZ (hw _ (List.mem_of_getElem? (i := 79) rfl))) (by decide) (backOf (W := 0) (rmMinJ l Z a0 hw [] (own_floor q1) (own_floor q2) (T43.heap) n0 (Nat.le_trans Z0 K43.1) ) hZ (hw _ (List.mem_of_getElem? (i := 79) rfl)) (hw _ (List.mem_of_getElem? (i := 41) rfl)) (by decide) (by decide)) (g := (mkF m 224 #[.val (.long q1), .second, .val (.long q2), .second, .val (.long q3), .second, .val (.int p4), .val (.int p5), .val (.int (3 : Int32)), .val (.int pp), .val (.long (own_floor q1)), .second, .val (.long (own_floor q2)), .second, .val (.long (own_floor q3)), .second, .val (.ref b4), .val (.long (own_e3 pp (own_floor q1) (own_floor q2) (own_floor q3))), .second, .unset, .unset, .val (.int ((3 : Int32) * pp)), .val (.int (1 : Int32)), .val (.long (own_min (own_min (own_floor q1) (own_floor q2)) (own_floor q3))), .second, .val (.long (own_max (own_max (own_floor q1) (own_floor q2)) (own_floor q3))), .second, .unset, .unset] [(.long (own_floor q2)), (.long (own_floor q1))])) rfl (by rw [hml]; rfl) (argsL := [(.long (own_floor q1)), (.long (own_floor q2))]) (rest := []) (lenOf pd__JJ_J rfl) rfl (by show 2 * 0 + _ ≤ _; exact Nat.le_of_eq rfl) (hb hby at_224) (fun _ _ => ⟨rfl, e72, (by decide : 5 + 0 ≤ _), (show 52 + sl1 + sl2 + sl3 + 0 ≤ 157376 from hr3)⟩)
      dsimp only [Pt.U, Pt.locs, Pt.cells, Pt.slots] at X73 l73 y73 z73 st73 hQ73
      rw [l73, y73, z73] at X73
      obtain ⟨rfl, N73q, e73⟩ := hQ73
      have N73 := Fr.app N72 N73q
      refine OwnR.of (st73) ?_
      show OwnR _ _ _ _ _ _ _ (T73.setTop (mkF m 227 #[.val (.long q1), .second, .val (.long q2), .second, .val (.long q3), .second, .val (.int p4), .val (.int p5), .val (.int (3 : Int32)), .val (.int pp), .val (.long (own_floor q1)), .second, .val (.long (own_floor q2)), .second, .val (.long (own_floor q3)), .second, .val (.ref b4), .val (.long (own_e3 pp (own_floor q1) (own_floor q2) (own_floor q3))), .second, .unset, .unset, .val (.int ((3 : Int32) * pp)), .val (.int (1 : Int32)), .val (.long (own_min (own_min (own_floor q1) (own_floor q2)) (own_floor q3))), .second, .val (.long (own_max (own_max (own_floor q1) (own_floor q2)) (own_floor q3))), .second, .unset, .unset] [(.long (own_min (own_floor q1) (own_floor q2)))]))
      refine OwnR.of (fun _ hr => XS.lload X73.here hx rfl (hb hby at_227) rfl hr) ?_
      show OwnR _ _ _ _ _ _ _ (T73.setTop (mkF m 229 #[.val (.long q1), .second, .val (.long q2), .second, .val (.long q3), .second, .val (.int p4), .val (.int p5), .val (.int (3 : Int32)), .val (.int pp), .val (.long (own_floor q1)), .second, .val (.long (own_floor q2)), .second, .val (.long (own_floor q3)), .second, .val (.ref b4), .val (.long (own_e3 pp (own_floor q1) (own_floor q2) (own_floor q3))), .second, .unset, .unset, .val (.int ((3 : Int32) * pp)), .val (.int (1 : Int32)), .val (.long (own_min (own_min (own_floor q1) (own_floor q2)) (own_floor q3))), .second, .val (.long (own_max (own_max (own_floor q1) (own_floor q2)) (own_floor q3))), .second, .unset, .unset] [(.long (own_floor q1)), (.long (own_min (own_floor q1) (own_floor q2)))]))
      refine OwnR.of (fun _ hr => XS.lload X73.here hx rfl (hb hby at_229) rfl hr) ?_
      show OwnR _ _ _ _ _ _ _ (T73.setTop (mkF m 231 #[.val (.long q1), .second, .val (.long q2), .second, .val (.long q3), .second, .val (.int p4), .val (.int p5), .val (.int (3 : Int32)), .val (.int pp), .val (.long (own_floor q1)), .second, .val (.long (own_floor q2)), .second, .val (.long (own_floor q3)), .second, .val (.ref b4), .val (.long (own_e3 pp (own_floor q1) (own_floor q2) (own_floor q3))), .second, .unset, .unset, .val (.int ((3 : Int32) * pp)), .val (.int (1 : Int32)), .val (.long (own_min (own_min (own_floor q1) (own_floor q2)) (own_floor q3))), .second, .val (.long (own_max (own_max (own_floor q1) (own_floor q2)) (own_floor q3))), .second, .unset, .unset] [(.long (own_floor q2)), (.long (own_floor q1)), (.long (own_min (own_floor q1) (own_floor q2)))]))
      obtain ⟨_, _, ⟨T74, L74, kc74, ns74⟩, -, X74, ⟨Lc74, hQ74, l74, y74, z74⟩, st74⟩ := Jvm.LawKit.callS X73 hx (y := (⟨"java/lang/Math", "max", "(JJ)J"⟩ : MethodName)) hown (mvT hZ (hw _ (List.mem_of_getElem? (i := 80) rfl))) (mvT hZ (hw _ (List.mem_of_getElem? (i := 40) rfl))) (mvT hZ (hw _ (List.mem_of_getElem? (i := 41) rfl))) (mvT hZ (hw _ (List.mem_of_getElem? (i := 42) rfl))) (by decide) (backOf (W := 2) (rmMaxJ l Z a0 hw [] (own_floor q1) (own_floor q2) (T43.heap) n0 (Nat.le_trans Z0 K43.1) ) hZ (hw _ (List.mem_of_getElem? (i := 42) rfl)) (hw _ (List.mem_of_getElem? (i := 41) rfl)) (by decide) (by decide)) (g := (mkF m 231 #[.val (.long q1), .second, .val (.long q2), .second, .val (.long q3), .second, .val (.int p4), .val (.int p5), .val (.int (3 : Int32)), .val (.int pp), .val (.long (own_floor q1)), .second, .val (.long (own_floor q2)), .second, .val (.long (own_floor q3)), .second, .val (.ref b4), .val (.long (own_e3 pp (own_floor q1) (own_floor q2) (own_floor q3))), .second, .unset, .unset, .val (.int ((3 : Int32) * pp)), .val (.int (1 : Int32)), .val (.long (own_min (own_min (own_floor q1) (own_floor q2)) (own_floor q3))), .second, .val (.long (own_max (own_max (own_floor q1) (own_floor q2)) (own_floor q3))), .second, .unset, .unset] [(.long (own_floor q2)), (.long (own_floor q1)), (.long (own_min (own_floor q1) (own_floor q2)))])) rfl (by rw [hml]; rfl) (argsL := [(.long (own_floor q1)), (.long (own_floor q2))]) (rest := [(.long (own_min (own_floor q1) (own_floor q2)))]) (lenOf pd__JJ_J rfl) rfl (by show 2 * 0 + _ ≤ _; exact Nat.le_of_eq rfl) (hb hby at_231) (fun _ _ => ⟨rfl, e73, (by decide : 5 + 0 ≤ _), (show 52 + sl1 + sl2 + sl3 + 0 ≤ 157376 from hr3)⟩)
      dsimp only [Pt.U, Pt.locs, Pt.cells, Pt.slots] at X74 l74 y74 z74 st74 hQ74
      rw [l74, y74, z74] at X74
      obtain ⟨rfl, N74q, e74⟩ := hQ74
      have N74 := Fr.app N73 N74q
      refine OwnR.of (st74) ?_
      show OwnR _ _ _ _ _ _ _ (T74.setTop (mkF m 234 #[.val (.long q1), .second, .val (.long q2), .second, .val (.long q3), .second, .val (.int p4), .val (.int p5), .val (.int (3 : Int32)), .val (.int pp), .val (.long (own_floor q1)), .second, .val (.long (own_floor q2)), .second, .val (.long (own_floor q3)), .second, .val (.ref b4), .val (.long (own_e3 pp (own_floor q1) (own_floor q2) (own_floor q3))), .second, .unset, .unset, .val (.int ((3 : Int32) * pp)), .val (.int (1 : Int32)), .val (.long (own_min (own_min (own_floor q1) (own_floor q2)) (own_floor q3))), .second, .val (.long (own_max (own_max (own_floor q1) (own_floor q2)) (own_floor q3))), .second, .unset, .unset] [(.long (own_max (own_floor q1) (own_floor q2))), (.long (own_min (own_floor q1) (own_floor q2)))]))
      refine OwnR.of (fun _ hr => XS.lload X74.here hx rfl (hb hby at_234) rfl hr) ?_
      show OwnR _ _ _ _ _ _ _ (T74.setTop (mkF m 236 #[.val (.long q1), .second, .val (.long q2), .second, .val (.long q3), .second, .val (.int p4), .val (.int p5), .val (.int (3 : Int32)), .val (.int pp), .val (.long (own_floor q1)), .second, .val (.long (own_floor q2)), .second, .val (.long (own_floor q3)), .second, .val (.ref b4), .val (.long (own_e3 pp (own_floor q1) (own_floor q2) (own_floor q3))), .second, .unset, .unset, .val (.int ((3 : Int32) * pp)), .val (.int (1 : Int32)), .val (.long (own_min (own_min (own_floor q1) (own_floor q2)) (own_floor q3))), .second, .val (.long (own_max (own_max (own_floor q1) (own_floor q2)) (own_floor q3))), .second, .unset, .unset] [(.long (own_floor q3)), (.long (own_max (own_floor q1) (own_floor q2))), (.long (own_min (own_floor q1) (own_floor q2)))]))
      obtain ⟨_, _, ⟨T75, L75, kc75, ns75⟩, -, X75, ⟨Lc75, hQ75, l75, y75, z75⟩, st75⟩ := Jvm.LawKit.callS X74 hx (y := (⟨"java/lang/Math", "min", "(JJ)J"⟩ : MethodName)) hown (mvT hZ (hw _ (List.mem_of_getElem? (i := 77) rfl))) (mvT hZ (hw _ (List.mem_of_getElem? (i := 78) rfl))) (mvT hZ (hw _ (List.mem_of_getElem? (i := 41) rfl))) (mvT hZ (hw _ (List.mem_of_getElem? (i := 79) rfl))) (by decide) (backOf (W := 2) (rmMinJ l Z a0 hw [] (own_max (own_floor q1) (own_floor q2)) (own_floor q3) (T43.heap) n0 (Nat.le_trans Z0 K43.1) ) hZ (hw _ (List.mem_of_getElem? (i := 79) rfl)) (hw _ (List.mem_of_getElem? (i := 41) rfl)) (by decide) (by decide)) (g := (mkF m 236 #[.val (.long q1), .second, .val (.long q2), .second, .val (.long q3), .second, .val (.int p4), .val (.int p5), .val (.int (3 : Int32)), .val (.int pp), .val (.long (own_floor q1)), .second, .val (.long (own_floor q2)), .second, .val (.long (own_floor q3)), .second, .val (.ref b4), .val (.long (own_e3 pp (own_floor q1) (own_floor q2) (own_floor q3))), .second, .unset, .unset, .val (.int ((3 : Int32) * pp)), .val (.int (1 : Int32)), .val (.long (own_min (own_min (own_floor q1) (own_floor q2)) (own_floor q3))), .second, .val (.long (own_max (own_max (own_floor q1) (own_floor q2)) (own_floor q3))), .second, .unset, .unset] [(.long (own_floor q3)), (.long (own_max (own_floor q1) (own_floor q2))), (.long (own_min (own_floor q1) (own_floor q2)))])) rfl (by rw [hml]; rfl) (argsL := [(.long (own_max (own_floor q1) (own_floor q2))), (.long (own_floor q3))]) (rest := [(.long (own_min (own_floor q1) (own_floor q2)))]) (lenOf pd__JJ_J rfl) rfl (by show 2 * 0 + _ ≤ _; exact Nat.le_of_eq rfl) (hb hby at_236) (fun _ _ => ⟨rfl, e74, (by decide : 5 + 0 ≤ _), (show 52 + sl1 + sl2 + sl3 + 0 ≤ 157376 from hr3)⟩)
      dsimp only [Pt.U, Pt.locs, Pt.cells, Pt.slots] at X75 l75 y75 z75 st75 hQ75
      rw [l75, y75, z75] at X75
      obtain ⟨rfl, N75q, e75⟩ := hQ75
      have N75 := Fr.app N74 N75q
      refine OwnR.of (st75) ?_
      show OwnR _ _ _ _ _ _ _ (T75.setTop (mkF m 239 #[.val (.long q1), .second, .val (.long q2), .second, .val (.long q3), .second, .val (.int p4), .val (.int p5), .val (.int (3 : Int32)), .val (.int pp), .val (.long (own_floor q1)), .second, .val (.long (own_floor q2)), .second, .val (.long (own_floor q3)), .second, .val (.ref b4), .val (.long (own_e3 pp (own_floor q1) (own_floor q2) (own_floor q3))), .second, .unset, .unset, .val (.int ((3 : Int32) * pp)), .val (.int (1 : Int32)), .val (.long (own_min (own_min (own_floor q1) (own_floor q2)) (own_floor q3))), .second, .val (.long (own_max (own_max (own_floor q1) (own_floor q2)) (own_floor q3))), .second, .unset, .unset] [(.long (own_min (own_max (own_floor q1) (own_floor q2)) (own_floor q3))), (.long (own_min (own_floor q1) (own_floor q2)))]))
      obtain ⟨_, _, ⟨T76, L76, kc76, ns76⟩, -, X76, ⟨Lc76, hQ76, l76, y76, z76⟩, st76⟩ := Jvm.LawKit.callS X75 hx (y := (⟨"java/lang/Math", "max", "(JJ)J"⟩ : MethodName)) hown (mvT hZ (hw _ (List.mem_of_getElem? (i := 80) rfl))) (mvT hZ (hw _ (List.mem_of_getElem? (i := 40) rfl))) (mvT hZ (hw _ (List.mem_of_getElem? (i := 41) rfl))) (mvT hZ (hw _ (List.mem_of_getElem? (i := 42) rfl))) (by decide) (backOf (W := 0) (rmMaxJ l Z a0 hw [] (own_min (own_floor q1) (own_floor q2)) (own_min (own_max (own_floor q1) (own_floor q2)) (own_floor q3)) (T43.heap) n0 (Nat.le_trans Z0 K43.1) ) hZ (hw _ (List.mem_of_getElem? (i := 42) rfl)) (hw _ (List.mem_of_getElem? (i := 41) rfl)) (by decide) (by decide)) (g := (mkF m 239 #[.val (.long q1), .second, .val (.long q2), .second, .val (.long q3), .second, .val (.int p4), .val (.int p5), .val (.int (3 : Int32)), .val (.int pp), .val (.long (own_floor q1)), .second, .val (.long (own_floor q2)), .second, .val (.long (own_floor q3)), .second, .val (.ref b4), .val (.long (own_e3 pp (own_floor q1) (own_floor q2) (own_floor q3))), .second, .unset, .unset, .val (.int ((3 : Int32) * pp)), .val (.int (1 : Int32)), .val (.long (own_min (own_min (own_floor q1) (own_floor q2)) (own_floor q3))), .second, .val (.long (own_max (own_max (own_floor q1) (own_floor q2)) (own_floor q3))), .second, .unset, .unset] [(.long (own_min (own_max (own_floor q1) (own_floor q2)) (own_floor q3))), (.long (own_min (own_floor q1) (own_floor q2)))])) rfl (by rw [hml]; rfl) (argsL := [(.long (own_min (own_floor q1) (own_floor q2))), (.long (own_min (own_max (own_floor q1) (own_floor q2)) (own_floor q3)))]) (rest := []) (lenOf pd__JJ_J rfl) rfl (by show 2 * 0 + _ ≤ _; exact Nat.le_of_eq rfl) (hb hby at_239) (fun _ _ => ⟨rfl, e75, (by decide : 5 + 0 ≤ _), (show 52 + sl1 + sl2 + sl3 + 0 ≤ 157376 from hr3)⟩)
      dsimp only [Pt.U, Pt.locs, Pt.cells, Pt.slots] at X76 l76 y76 z76 st76 hQ76
      rw [l76, y76, z76] at X76
      obtain ⟨rfl, N76q, e76⟩ := hQ76
      have N76 := Fr.app N75 N76q
      refine OwnR.of (st76) ?_
      show OwnR _ _ _ _ _ _ _ (T76.setTop (mkF m 242 #[.val (.long q1), .second, .val (.long q2), .second, .val (.long q3), .second, .val (.int p4), .val (.int p5), .val (.int (3 : Int32)), .val (.int pp), .val (.long (own_floor q1)), .second, .val (.long (own_floor q2)), .second, .val (.long (own_floor q3)), .second, .val (.ref b4), .val (.long (own_e3 pp (own_floor q1) (own_floor q2) (own_floor q3))), .second, .unset, .unset, .val (.int ((3 : Int32) * pp)), .val (.int (1 : Int32)), .val (.long (own_min (own_min (own_floor q1) (own_floor q2)) (own_floor q3))), .second, .val (.long (own_max (own_max (own_floor q1) (own_floor q2)) (own_floor q3))), .second, .unset, .unset] [(.long (own_max (own_min (own_floor q1) (own_floor q2)) (own_min (own_max (own_floor q1) (own_floor q2)) (own_floor q3))))]))
      refine OwnR.of (fun _ hr => XS.lstore X76.here hx rfl (hb hby at_242) rfl (l' := #[.val (.long q1), .second, .val (.long q2), .second, .val (.long q3), .second, .val (.int p4), .val (.int p5), .val (.int (3 : Int32)), .val (.int pp), .val (.long (own_floor q1)), .second, .val (.long (own_floor q2)), .second, .val (.long (own_floor q3)), .second, .val (.ref b4), .val (.long (own_e3 pp (own_floor q1) (own_floor q2) (own_floor q3))), .second, .unset, .unset, .val (.int ((3 : Int32) * pp)), .val (.int (1 : Int32)), .val (.long (own_min (own_min (own_floor q1) (own_floor q2)) (own_floor q3))), .second, .val (.long (own_max (own_max (own_floor q1) (own_floor q2)) (own_floor q3))), .second, .val (.long (own_max (own_min (own_floor q1) (own_floor q2)) (own_min (own_max (own_floor q1) (own_floor q2)) (own_floor q3)))), .second]) rfl hr) ?_
      show OwnR _ _ _ _ _ _ _ (T76.setTop (mkF m 244 #[.val (.long q1), .second, .val (.long q2), .second, .val (.long q3), .second, .val (.int p4), .val (.int p5), .val (.int (3 : Int32)), .val (.int pp), .val (.long (own_floor q1)), .second, .val (.long (own_floor q2)), .second, .val (.long (own_floor q3)), .second, .val (.ref b4), .val (.long (own_e3 pp (own_floor q1) (own_floor q2) (own_floor q3))), .second, .unset, .unset, .val (.int ((3 : Int32) * pp)), .val (.int (1 : Int32)), .val (.long (own_min (own_min (own_floor q1) (own_floor q2)) (own_floor q3))), .second, .val (.long (own_max (own_max (own_floor q1) (own_floor q2)) (own_floor q3))), .second, .val (.long (own_max (own_min (own_floor q1) (own_floor q2)) (own_min (own_max (own_floor q1) (own_floor q2)) (own_floor q3)))), .second] []))
      refine OwnR.of (fun _ hr => XS.iload X76.here hx rfl (hb hby at_244) rfl hr) ?_
      show OwnR _ _ _ _ _ _ _ (T76.setTop (mkF m 246 #[.val (.long q1), .second, .val (.long q2), .second, .val (.long q3), .second, .val (.int p4), .val (.int p5), .val (.int (3 : Int32)), .val (.int pp), .val (.long (own_floor q1)), .second, .val (.long (own_floor q2)), .second, .val (.long (own_floor q3)), .second, .val (.ref b4), .val (.long (own_e3 pp (own_floor q1) (own_floor q2) (own_floor q3))), .second, .unset, .unset, .val (.int ((3 : Int32) * pp)), .val (.int (1 : Int32)), .val (.long (own_min (own_min (own_floor q1) (own_floor q2)) (own_floor q3))), .second, .val (.long (own_max (own_max (own_floor q1) (own_floor q2)) (own_floor q3))), .second, .val (.long (own_max (own_min (own_floor q1) (own_floor q2)) (own_min (own_max (own_floor q1) (own_floor q2)) (own_floor q3)))), .second] [(.int (1 : Int32))]))
      refine OwnR.of (fun _ hr => XS.iconst X76.here hx rfl (hb hby at_246) hr) ?_
      show OwnR _ _ _ _ _ _ _ (T76.setTop (mkF m 247 #[.val (.long q1), .second, .val (.long q2), .second, .val (.long q3), .second, .val (.int p4), .val (.int p5), .val (.int (3 : Int32)), .val (.int pp), .val (.long (own_floor q1)), .second, .val (.long (own_floor q2)), .second, .val (.long (own_floor q3)), .second, .val (.ref b4), .val (.long (own_e3 pp (own_floor q1) (own_floor q2) (own_floor q3))), .second, .unset, .unset, .val (.int ((3 : Int32) * pp)), .val (.int (1 : Int32)), .val (.long (own_min (own_min (own_floor q1) (own_floor q2)) (own_floor q3))), .second, .val (.long (own_max (own_max (own_floor q1) (own_floor q2)) (own_floor q3))), .second, .val (.long (own_max (own_min (own_floor q1) (own_floor q2)) (own_min (own_max (own_floor q1) (own_floor q2)) (own_floor q3)))), .second] [(.int (1 : Int32)), (.int (1 : Int32))]))
      refine OwnR.of (fun _ hr => XS.icmpNo X76.here hx rfl (hb hby at_247) rfl (teq (by decide : (1 : Int32) = (1 : Int32))).2 hr) ?_
      show OwnR _ _ _ _ _ _ _ (T76.setTop (mkF m 250 #[.val (.long q1), .second, .val (.long q2), .second, .val (.long q3), .second, .val (.int p4), .val (.int p5), .val (.int (3 : Int32)), .val (.int pp), .val (.long (own_floor q1)), .second, .val (.long (own_floor q2)), .second, .val (.long (own_floor q3)), .second, .val (.ref b4), .val (.long (own_e3 pp (own_floor q1) (own_floor q2) (own_floor q3))), .second, .unset, .unset, .val (.int ((3 : Int32) * pp)), .val (.int (1 : Int32)), .val (.long (own_min (own_min (own_floor q1) (own_floor q2)) (own_floor q3))), .second, .val (.long (own_max (own_max (own_floor q1) (own_floor q2)) (own_floor q3))), .second, .val (.long (own_max (own_min (own_floor q1) (own_floor q2)) (own_min (own_max (own_floor q1) (own_floor q2)) (own_floor q3)))), .second] []))
      refine OwnR.of (fun _ hr => XS.lload X76.here hx rfl (hb hby at_250) rfl hr) ?_
      show OwnR _ _ _ _ _ _ _ (T76.setTop (mkF m 252 #[.val (.long q1), .second, .val (.long q2), .second, .val (.long q3), .second, .val (.int p4), .val (.int p5), .val (.int (3 : Int32)), .val (.int pp), .val (.long (own_floor q1)), .second, .val (.long (own_floor q2)), .second, .val (.long (own_floor q3)), .second, .val (.ref b4), .val (.long (own_e3 pp (own_floor q1) (own_floor q2) (own_floor q3))), .second, .unset, .unset, .val (.int ((3 : Int32) * pp)), .val (.int (1 : Int32)), .val (.long (own_min (own_min (own_floor q1) (own_floor q2)) (own_floor q3))), .second, .val (.long (own_max (own_max (own_floor q1) (own_floor q2)) (own_floor q3))), .second, .val (.long (own_max (own_min (own_floor q1) (own_floor q2)) (own_min (own_max (own_floor q1) (own_floor q2)) (own_floor q3)))), .second] [(.long (own_min (own_min (own_floor q1) (own_floor q2)) (own_floor q3)))]))
      refine OwnR.of (fun _ hr => XS.goto X76.here hx rfl (pc0 := 252) (pc' := 268) rfl (hb hby at_252) (by decide) (by decide) hr) ?_
      show OwnR _ _ _ _ _ _ _ (T76.setTop (mkF m 268 #[.val (.long q1), .second, .val (.long q2), .second, .val (.long q3), .second, .val (.int p4), .val (.int p5), .val (.int (3 : Int32)), .val (.int pp), .val (.long (own_floor q1)), .second, .val (.long (own_floor q2)), .second, .val (.long (own_floor q3)), .second, .val (.ref b4), .val (.long (own_e3 pp (own_floor q1) (own_floor q2) (own_floor q3))), .second, .unset, .unset, .val (.int ((3 : Int32) * pp)), .val (.int (1 : Int32)), .val (.long (own_min (own_min (own_floor q1) (own_floor q2)) (own_floor q3))), .second, .val (.long (own_max (own_max (own_floor q1) (own_floor q2)) (own_floor q3))), .second, .val (.long (own_max (own_min (own_floor q1) (own_floor q2)) (own_min (own_max (own_floor q1) (own_floor q2)) (own_floor q3)))), .second] [(.long (own_min (own_min (own_floor q1) (own_floor q2)) (own_floor q3)))]))
      refine OwnR.of (fun _ hr => XS.lstore X76.here hx rfl (hb hby at_268) rfl (l' := #[.val (.long q1), .second, .val (.long q2), .second, .val (.long q3), .second, .val (.int p4), .val (.int p5), .val (.int (3 : Int32)), .val (.int pp), .val (.long (own_floor q1)), .second, .val (.long (own_floor q2)), .second, .val (.long (own_floor q3)), .second, .val (.ref b4), .val (.long (own_e3 pp (own_floor q1) (own_floor q2) (own_floor q3))), .second, .val (.long (own_min (own_min (own_floor q1) (own_floor q2)) (own_floor q3))), .second, .val (.int ((3 : Int32) * pp)), .val (.int (1 : Int32)), .val (.long (own_min (own_min (own_floor q1) (own_floor q2)) (own_floor q3))), .second, .val (.long (own_max (own_max (own_floor q1) (own_floor q2)) (own_floor q3))), .second, .val (.long (own_max (own_min (own_floor q1) (own_floor q2)) (own_min (own_max (own_floor q1) (own_floor q2)) (own_floor q3)))), .second]) rfl hr) ?_
      show OwnR _ _ _ _ _ _ _ (T76.setTop (mkF m 270 #[.val (.long q1), .second, .val (.long q2), .second, .val (.long q3), .second, .val (.int p4), .val (.int p5), .val (.int (3 : Int32)), .val (.int pp), .val (.long (own_floor q1)), .second, .val (.long (own_floor q2)), .second, .val (.long (own_floor q3)), .second, .val (.ref b4), .val (.long (own_e3 pp (own_floor q1) (own_floor q2) (own_floor q3))), .second, .val (.long (own_min (own_min (own_floor q1) (own_floor q2)) (own_floor q3))), .second, .val (.int ((3 : Int32) * pp)), .val (.int (1 : Int32)), .val (.long (own_min (own_min (own_floor q1) (own_floor q2)) (own_floor q3))), .second, .val (.long (own_max (own_max (own_floor q1) (own_floor q2)) (own_floor q3))), .second, .val (.long (own_max (own_min (own_floor q1) (own_floor q2)) (own_min (own_max (own_floor q1) (own_floor q2)) (own_floor q3)))), .second] []))
      refine OwnR.of (fun _ hr => XS.lload X76.here hx rfl (hb hby at_270) rfl hr) ?_
      show OwnR _ _ _ _ _ _ _ (T76.setTop (mkF m 272 #[.val (.long q1), .second, .val (.long q2), .second, .val (.long q3), .second, .val (.int p4), .val (.int p5), .val (.int (3 : Int32)), .val (.int pp), .val (.long (own_floor q1)), .second, .val (.long (own_floor q2)), .second, .val (.long (own_floor q3)), .second, .val (.ref b4), .val (.long (own_e3 pp (own_floor q1) (own_floor q2) (own_floor q3))), .second, .val (.long (own_min (own_min (own_floor q1) (own_floor q2)) (own_floor q3))), .second, .val (.int ((3 : Int32) * pp)), .val (.int (1 : Int32)), .val (.long (own_min (own_min (own_floor q1) (own_floor q2)) (own_floor q3))), .second, .val (.long (own_max (own_max (own_floor q1) (own_floor q2)) (own_floor q3))), .second, .val (.long (own_max (own_min (own_floor q1) (own_floor q2)) (own_min (own_max (own_floor q1) (own_floor q2)) (own_floor q3)))), .second] [(.long (own_e3 pp (own_floor q1) (own_floor q2) (own_floor q3)))]))
      refine OwnR.of (fun _ hr => XS.lload X76.here hx rfl (hb hby at_272) rfl hr) ?_
      show OwnR _ _ _ _ _ _ _ (T76.setTop (mkF m 274 #[.val (.long q1), .second, .val (.long q2), .second, .val (.long q3), .second, .val (.int p4), .val (.int p5), .val (.int (3 : Int32)), .val (.int pp), .val (.long (own_floor q1)), .second, .val (.long (own_floor q2)), .second, .val (.long (own_floor q3)), .second, .val (.ref b4), .val (.long (own_e3 pp (own_floor q1) (own_floor q2) (own_floor q3))), .second, .val (.long (own_min (own_min (own_floor q1) (own_floor q2)) (own_floor q3))), .second, .val (.int ((3 : Int32) * pp)), .val (.int (1 : Int32)), .val (.long (own_min (own_min (own_floor q1) (own_floor q2)) (own_floor q3))), .second, .val (.long (own_max (own_max (own_floor q1) (own_floor q2)) (own_floor q3))), .second, .val (.long (own_max (own_min (own_floor q1) (own_floor q2)) (own_min (own_max (own_floor q1) (own_floor q2)) (own_floor q3)))), .second] [(.long (own_min (own_min (own_floor q1) (own_floor q2)) (own_floor q3))), (.long (own_e3 pp (own_floor q1) (own_floor q2) (own_floor q3)))]))
      refine OwnR.of (fun _ hr => XS.lcmp X76.here hx rfl (hb hby at_274) rfl hr) ?_
      show OwnR _ _ _ _ _ _ _ (T76.setTop (mkF m 275 #[.val (.long q1), .second, .val (.long q2), .second, .val (.long q3), .second, .val (.int p4), .val (.int p5), .val (.int (3 : Int32)), .val (.int pp), .val (.long (own_floor q1)), .second, .val (.long (own_floor q2)), .second, .val (.long (own_floor q3)), .second, .val (.ref b4), .val (.long (own_e3 pp (own_floor q1) (own_floor q2) (own_floor q3))), .second, .val (.long (own_min (own_min (own_floor q1) (own_floor q2)) (own_floor q3))), .second, .val (.int ((3 : Int32) * pp)), .val (.int (1 : Int32)), .val (.long (own_min (own_min (own_floor q1) (own_floor q2)) (own_floor q3))), .second, .val (.long (own_max (own_max (own_floor q1) (own_floor q2)) (own_floor q3))), .second, .val (.long (own_max (own_min (own_floor q1) (own_floor q2)) (own_min (own_max (own_floor q1) (own_floor q2)) (own_floor q3)))), .second] [(.int (lcmpW (own_e3 pp (own_floor q1) (own_floor q2) (own_floor q3)) (own_min (own_min (own_floor q1) (own_floor q2)) (own_floor q3))))]))
      have hc275_77 : (own_e3 pp (own_floor q1) (own_floor q2) (own_floor q3)) = (own_min (own_min (own_floor q1) (own_floor q2)) (own_floor q3)) := by
        refine Classical.byContradiction fun hbad => ?_
        exact hbad (by first | rfl | simp only [own_e2, own_e3, own_lo, own_mid, own_hi, if_neg hc123_45])
      refine OwnR.of (fun _ hr => XS.ifNo X76.here hx rfl (hb hby at_275) rfl ((if0 _ _).trans (teq ((own_lceq _ _).mpr hc275_77)).2) hr) ?_
      show OwnR _ _ _ _ _ _ _ (T76.setTop (mkF m 278 #[.val (.long q1), .second, .val (.long q2), .second, .val (.long q3), .second, .val (.int p4), .val (.int p5), .val (.int (3 : Int32)), .val (.int pp), .val (.long (own_floor q1)), .second, .val (.long (own_floor q2)), .second, .val (.long (own_floor q3)), .second, .val (.ref b4), .val (.long (own_e3 pp (own_floor q1) (own_floor q2) (own_floor q3))), .second, .val (.long (own_min (own_min (own_floor q1) (own_floor q2)) (own_floor q3))), .second, .val (.int ((3 : Int32) * pp)), .val (.int (1 : Int32)), .val (.long (own_min (own_min (own_floor q1) (own_floor q2)) (own_floor q3))), .second, .val (.long (own_max (own_max (own_floor q1) (own_floor q2)) (own_floor q3))), .second, .val (.long (own_max (own_min (own_floor q1) (own_floor q2)) (own_min (own_max (own_floor q1) (own_floor q2)) (own_floor q3)))), .second] []))
      refine OwnR.of (fun _ hr => XS.aload X76.here hx rfl (hb hby at_278) rfl rfl hr) ?_
      show OwnR _ _ _ _ _ _ _ (T76.setTop (mkF m 280 #[.val (.long q1), .second, .val (.long q2), .second, .val (.long q3), .second, .val (.int p4), .val (.int p5), .val (.int (3 : Int32)), .val (.int pp), .val (.long (own_floor q1)), .second, .val (.long (own_floor q2)), .second, .val (.long (own_floor q3)), .second, .val (.ref b4), .val (.long (own_e3 pp (own_floor q1) (own_floor q2) (own_floor q3))), .second, .val (.long (own_min (own_min (own_floor q1) (own_floor q2)) (own_floor q3))), .second, .val (.int ((3 : Int32) * pp)), .val (.int (1 : Int32)), .val (.long (own_min (own_min (own_floor q1) (own_floor q2)) (own_floor q3))), .second, .val (.long (own_max (own_max (own_floor q1) (own_floor q2)) (own_floor q3))), .second, .val (.long (own_max (own_min (own_floor q1) (own_floor q2)) (own_min (own_max (own_floor q1) (own_floor q2)) (own_floor q3)))), .second] [(.ref b4)]))
      obtain ⟨cq78, kq78, q78a, q78b, q78c⟩ := isOf hZ e76 P43_0
      obtain ⟨_, _, ⟨T78, L78, kc78, ns78⟩, -, X78, ⟨Lc78, hQ78, l78, y78, z78⟩, st78⟩ := X76.virtualBack hx (y := (⟨"com/example/kurir/kurir/bench/Latencies", "count", "()J"⟩ : MethodName)) (z := (⟨"com/example/kurir/kurir/bench/Latencies", "count", "()J"⟩ : MethodName)) hown (mvT hZ (hw _ (List.mem_of_getElem? (i := 81) rfl))) (mvT hZ (hw _ (List.mem_of_getElem? (i := 82) rfl))) (notFace_of_selects (args := #[]) (mvT hZ (hw _ (List.mem_of_getElem? (i := 84) rfl)))) (mvT hZ (hw _ (List.mem_of_getElem? (i := 84) rfl))) (mvT hZ (hw _ (List.mem_of_getElem? (i := 83) rfl))) (by decide) (backOf (W := 0) (rmCount l Z a0 hw [] b4 ((((0 : Int64) + (1 : Int64)) + (1 : Int64)) + (1 : Int64)) (T43.heap) n0 (Nat.le_trans Z0 K43.1) P43_0 P43_2) hZ (hw _ (List.mem_of_getElem? (i := 85) rfl)) (hw _ (List.mem_of_getElem? (i := 16) rfl)) (by decide) (by decide)) q78a q78c (g := (mkF m 280 #[.val (.long q1), .second, .val (.long q2), .second, .val (.long q3), .second, .val (.int p4), .val (.int p5), .val (.int (3 : Int32)), .val (.int pp), .val (.long (own_floor q1)), .second, .val (.long (own_floor q2)), .second, .val (.long (own_floor q3)), .second, .val (.ref b4), .val (.long (own_e3 pp (own_floor q1) (own_floor q2) (own_floor q3))), .second, .val (.long (own_min (own_min (own_floor q1) (own_floor q2)) (own_floor q3))), .second, .val (.int ((3 : Int32) * pp)), .val (.int (1 : Int32)), .val (.long (own_min (own_min (own_floor q1) (own_floor q2)) (own_floor q3))), .second, .val (.long (own_max (own_max (own_floor q1) (own_floor q2)) (own_floor q3))), .second, .val (.long (own_max (own_min (own_floor q1) (own_floor q2)) (own_min (own_max (own_floor q1) (own_floor q2)) (own_floor q3)))), .second] [(.ref b4)])) rfl (by rw [hml]; rfl) (Steps.refl _) (argsL := []) (rest := []) (lenOf pd___J rfl) rfl (by show 2 * 0 + _ ≤ _; exact Nat.le_of_eq rfl) (hb hby at_280) (fun _ _ => ⟨rfl, e76, (by decide : 5 + 0 ≤ _), (show 52 + sl1 + sl2 + sl3 + 0 ≤ 157376 from hr3)⟩)
      dsimp only [Pt.U, Pt.locs, Pt.cells, Pt.slots] at X78 l78 y78 z78 st78 hQ78
      rw [l78, y78, z78] at X78
      obtain ⟨rfl, N78q, e78⟩ := hQ78
      have N78 := Fr.app N76 N78q
      refine OwnR.of (fun _ hr => st78.trans hr) ?_
      show OwnR _ _ _ _ _ _ _ (T78.setTop (mkF m 283 #[.val (.long q1), .second, .val (.long q2), .second, .val (.long q3), .second, .val (.int p4), .val (.int p5), .val (.int (3 : Int32)), .val (.int pp), .val (.long (own_floor q1)), .second, .val (.long (own_floor q2)), .second, .val (.long (own_floor q3)), .second, .val (.ref b4), .val (.long (own_e3 pp (own_floor q1) (own_floor q2) (own_floor q3))), .second, .val (.long (own_min (own_min (own_floor q1) (own_floor q2)) (own_floor q3))), .second, .val (.int ((3 : Int32) * pp)), .val (.int (1 : Int32)), .val (.long (own_min (own_min (own_floor q1) (own_floor q2)) (own_floor q3))), .second, .val (.long (own_max (own_max (own_floor q1) (own_floor q2)) (own_floor q3))), .second, .val (.long (own_max (own_min (own_floor q1) (own_floor q2)) (own_min (own_max (own_floor q1) (own_floor q2)) (own_floor q3)))), .second] [(.long ((((0 : Int64) + (1 : Int64)) + (1 : Int64)) + (1 : Int64)))]))
      refine OwnR.of (fun _ hr => XS.iload X78.here hx rfl (hb hby at_283) rfl hr) ?_
      show OwnR _ _ _ _ _ _ _ (T78.setTop (mkF m 285 #[.val (.long q1), .second, .val (.long q2), .second, .val (.long q3), .second, .val (.int p4), .val (.int p5), .val (.int (3 : Int32)), .val (.int pp), .val (.long (own_floor q1)), .second, .val (.long (own_floor q2)), .second, .val (.long (own_floor q3)), .second, .val (.ref b4), .val (.long (own_e3 pp (own_floor q1) (own_floor q2) (own_floor q3))), .second, .val (.long (own_min (own_min (own_floor q1) (own_floor q2)) (own_floor q3))), .second, .val (.int ((3 : Int32) * pp)), .val (.int (1 : Int32)), .val (.long (own_min (own_min (own_floor q1) (own_floor q2)) (own_floor q3))), .second, .val (.long (own_max (own_max (own_floor q1) (own_floor q2)) (own_floor q3))), .second, .val (.long (own_max (own_min (own_floor q1) (own_floor q2)) (own_min (own_max (own_floor q1) (own_floor q2)) (own_floor q3)))), .second] [(.int (3 : Int32)), (.long ((((0 : Int64) + (1 : Int64)) + (1 : Int64)) + (1 : Int64)))]))
      refine OwnR.of (fun _ hr => XS.i2l X78.here hx rfl (hb hby at_285) rfl hr) ?_
      show OwnR _ _ _ _ _ _ _ (T78.setTop (mkF m 286 #[.val (.long q1), .second, .val (.long q2), .second, .val (.long q3), .second, .val (.int p4), .val (.int p5), .val (.int (3 : Int32)), .val (.int pp), .val (.long (own_floor q1)), .second, .val (.long (own_floor q2)), .second, .val (.long (own_floor q3)), .second, .val (.ref b4), .val (.long (own_e3 pp (own_floor q1) (own_floor q2) (own_floor q3))), .second, .val (.long (own_min (own_min (own_floor q1) (own_floor q2)) (own_floor q3))), .second, .val (.int ((3 : Int32) * pp)), .val (.int (1 : Int32)), .val (.long (own_min (own_min (own_floor q1) (own_floor q2)) (own_floor q3))), .second, .val (.long (own_max (own_max (own_floor q1) (own_floor q2)) (own_floor q3))), .second, .val (.long (own_max (own_min (own_floor q1) (own_floor q2)) (own_min (own_max (own_floor q1) (own_floor q2)) (own_floor q3)))), .second] [(.long ((3 : Int32).toInt64)), (.long ((((0 : Int64) + (1 : Int64)) + (1 : Int64)) + (1 : Int64)))]))
      rw [(by decide : ((3 : Int32).toInt64) = (3 : Int64))]
      show OwnR _ _ _ _ _ _ _ (T78.setTop (mkF m 286 #[.val (.long q1), .second, .val (.long q2), .second, .val (.long q3), .second, .val (.int p4), .val (.int p5), .val (.int (3 : Int32)), .val (.int pp), .val (.long (own_floor q1)), .second, .val (.long (own_floor q2)), .second, .val (.long (own_floor q3)), .second, .val (.ref b4), .val (.long (own_e3 pp (own_floor q1) (own_floor q2) (own_floor q3))), .second, .val (.long (own_min (own_min (own_floor q1) (own_floor q2)) (own_floor q3))), .second, .val (.int ((3 : Int32) * pp)), .val (.int (1 : Int32)), .val (.long (own_min (own_min (own_floor q1) (own_floor q2)) (own_floor q3))), .second, .val (.long (own_max (own_max (own_floor q1) (own_floor q2)) (own_floor q3))), .second, .val (.long (own_max (own_min (own_floor q1) (own_floor q2)) (own_min (own_max (own_floor q1) (own_floor q2)) (own_floor q3)))), .second] [(.long (3 : Int64)), (.long ((((0 : Int64) + (1 : Int64)) + (1 : Int64)) + (1 : Int64)))]))
      refine OwnR.of (fun _ hr => XS.lcmp X78.here hx rfl (hb hby at_286) rfl hr) ?_
      show OwnR _ _ _ _ _ _ _ (T78.setTop (mkF m 287 #[.val (.long q1), .second, .val (.long q2), .second, .val (.long q3), .second, .val (.int p4), .val (.int p5), .val (.int (3 : Int32)), .val (.int pp), .val (.long (own_floor q1)), .second, .val (.long (own_floor q2)), .second, .val (.long (own_floor q3)), .second, .val (.ref b4), .val (.long (own_e3 pp (own_floor q1) (own_floor q2) (own_floor q3))), .second, .val (.long (own_min (own_min (own_floor q1) (own_floor q2)) (own_floor q3))), .second, .val (.int ((3 : Int32) * pp)), .val (.int (1 : Int32)), .val (.long (own_min (own_min (own_floor q1) (own_floor q2)) (own_floor q3))), .second, .val (.long (own_max (own_max (own_floor q1) (own_floor q2)) (own_floor q3))), .second, .val (.long (own_max (own_min (own_floor q1) (own_floor q2)) (own_min (own_max (own_floor q1) (own_floor q2)) (own_floor q3)))), .second] [(.int (lcmpW ((((0 : Int64) + (1 : Int64)) + (1 : Int64)) + (1 : Int64)) (3 : Int64)))]))
      have hc287_79 : ((((0 : Int64) + (1 : Int64)) + (1 : Int64)) + (1 : Int64)) = (3 : Int64) := by
        refine Classical.byContradiction fun hbad => ?_
        exact hbad (by decide)
      refine OwnR.of (fun _ hr => XS.ifNo X78.here hx rfl (hb hby at_287) rfl ((if0 _ _).trans (teq ((own_lceq _ _).mpr hc287_79)).2) hr) ?_
      show OwnR _ _ _ _ _ _ _ (T78.setTop (mkF m 290 #[.val (.long q1), .second, .val (.long q2), .second, .val (.long q3), .second, .val (.int p4), .val (.int p5), .val (.int (3 : Int32)), .val (.int pp), .val (.long (own_floor q1)), .second, .val (.long (own_floor q2)), .second, .val (.long (own_floor q3)), .second, .val (.ref b4), .val (.long (own_e3 pp (own_floor q1) (own_floor q2) (own_floor q3))), .second, .val (.long (own_min (own_min (own_floor q1) (own_floor q2)) (own_floor q3))), .second, .val (.int ((3 : Int32) * pp)), .val (.int (1 : Int32)), .val (.long (own_min (own_min (own_floor q1) (own_floor q2)) (own_floor q3))), .second, .val (.long (own_max (own_max (own_floor q1) (own_floor q2)) (own_floor q3))), .second, .val (.long (own_max (own_min (own_floor q1) (own_floor q2)) (own_min (own_max (own_floor q1) (own_floor q2)) (own_floor q3)))), .second] []))
      refine OwnR.of (fun _ hr => XS.iconst X78.here hx rfl (hb hby at_290) hr) ?_
      show OwnR _ _ _ _ _ _ _ (T78.setTop (mkF m 291 #[.val (.long q1), .second, .val (.long q2), .second, .val (.long q3), .second, .val (.int p4), .val (.int p5), .val (.int (3 : Int32)), .val (.int pp), .val (.long (own_floor q1)), .second, .val (.long (own_floor q2)), .second, .val (.long (own_floor q3)), .second, .val (.ref b4), .val (.long (own_e3 pp (own_floor q1) (own_floor q2) (own_floor q3))), .second, .val (.long (own_min (own_min (own_floor q1) (own_floor q2)) (own_floor q3))), .second, .val (.int ((3 : Int32) * pp)), .val (.int (1 : Int32)), .val (.long (own_min (own_min (own_floor q1) (own_floor q2)) (own_floor q3))), .second, .val (.long (own_max (own_max (own_floor q1) (own_floor q2)) (own_floor q3))), .second, .val (.long (own_max (own_min (own_floor q1) (own_floor q2)) (own_min (own_max (own_floor q1) (own_floor q2)) (own_floor q3)))), .second] [(.int (1 : Int32))]))
      refine OwnR.of (fun _ hr => XS.goto X78.here hx rfl (pc0 := 291) (pc' := 295) rfl (hb hby at_291) (by decide) (by decide) hr) ?_
      show OwnR _ _ _ _ _ _ _ (T78.setTop (mkF m 295 #[.val (.long q1), .second, .val (.long q2), .second, .val (.long q3), .second, .val (.int p4), .val (.int p5), .val (.int (3 : Int32)), .val (.int pp), .val (.long (own_floor q1)), .second, .val (.long (own_floor q2)), .second, .val (.long (own_floor q3)), .second, .val (.ref b4), .val (.long (own_e3 pp (own_floor q1) (own_floor q2) (own_floor q3))), .second, .val (.long (own_min (own_min (own_floor q1) (own_floor q2)) (own_floor q3))), .second, .val (.int ((3 : Int32) * pp)), .val (.int (1 : Int32)), .val (.long (own_min (own_min (own_floor q1) (own_floor q2)) (own_floor q3))), .second, .val (.long (own_max (own_max (own_floor q1) (own_floor q2)) (own_floor q3))), .second, .val (.long (own_max (own_min (own_floor q1) (own_floor q2)) (own_min (own_max (own_floor q1) (own_floor q2)) (own_floor q3)))), .second] [(.int (1 : Int32))]))
      refine own_leafN X78 hx hlk (t := .boolean) Bd.returns (by simp) (hb hby at_295) (z' := (1 : Int32)) rfl (by decide) (show 52 + sl1 + sl2 + sl3 ≤ 157376 from hr3) ?_
      show Q0 Z  h0 n0 _ T78.heap _
      rw [show T78.heap = T43.heap from e78]
      refine ⟨?_, N78⟩
      show (some (.int (1 : Int32)) : Option Value) = some (.int (1 : Int32))
      rfl
set_option maxRecDepth 65536 in
set_option maxHeartbeats 40000000 in
theorem comes_1 {Post : Tables → Env → Array Value → State → Outcome → State → Prop} (hpost : ∀ tb e args s v u, (limb_1_1.after args s (.returned v) u = true ∧ limb_1_2.after args s (.returned v) u = true ∧ True) → FrameEnd s (.returned v) u (Jvm.fieldLocs frame_1_writes args s ++ Jvm.arrayLocs frame_1_arrays args s ++ Jvm.staticLocs frame_1_statics s) 24 157376 → Post tb e args s (.returned v) u) :
    ArmFor flags0 classFile x code maxLocals ret World_1 tables_1 room_1 Calls_1 rest_1 Pre_1 Post := by
  intro l hfl _ _ p e ha hc hk s m args below hf hA hF happ hP
  obtain ⟨hcalls, hrest, hpre⟩ := hP
  obtain ⟨-, -, -, hnamed, -, -, -, hat⟩ := (Spec.applies_iff hf).mp happ
  obtain ⟨hg, hn⟩ := and_e (Cond.before_iff.mp (show (Jvm.Cond.and given_1 narrow_1).before args s = true from hpre))
  obtain ⟨ga1, gb1⟩ := and_e hg
  obtain ⟨ga2, gb2⟩ := and_e gb1
  obtain ⟨ga3, gb3⟩ := and_e gb2
  obtain ⟨ga4, gb4⟩ := and_e gb3
  obtain ⟨ga5, gb5⟩ := and_e gb4
  obtain ⟨w0, w1, w2, w3, w4, rfl⟩ : ∃ w0 w1 w2 w3 w4 : Value, args = #[w0, w1, w2, w3, w4] := by
    have hs : args.size = 5 := by simpa [Cond.value, given_1] using ga1
    obtain ⟨L⟩ := args
    match L, hs with
    | [w0, w1, w2, w3, w4], _ => exact ⟨w0, w1, w2, w3, w4, rfl⟩
  have hw := fun d (hd : d ∈ tables_1) => atoms_spec (ws := Jvm.Cond.code x code maxLocals ret :: tables_1) hat d (List.mem_cons_of_mem _ hd)
  have hfit : Fit s := fun {y c} hc i hi => by
    obtain ⟨ha, rfl⟩ := Array.getElem?_eq_some_iff.mp hc
    have q := List.all_eq_true.mp ((Array.all_eq_true_iff_forall_mem.mp hF) _ (Array.getElem_mem ha)) i (List.mem_range.mpr hi)
    simpa [Array.getElem?_eq_getElem hi] using q
  obtain ⟨i0, ei0⟩ := isL_v ga2
  obtain rfl : w0 = (.long i0) := Option.some.inj ei0
  obtain ⟨i1, ei1⟩ := isL_v ga3
  obtain rfl : w1 = (.long i1) := Option.some.inj ei1
  obtain ⟨i2, ei2⟩ := isL_v ga4
  obtain rfl : w2 = (.long i2) := Option.some.inj ei2
  obtain ⟨i3, ei3⟩ := is_v ga5
  obtain rfl : w3 = (.int i3) := Option.some.inj ei3
  obtain ⟨i4, ei4⟩ := is_v gb5
  obtain rfl : w4 = (.int i4) := Option.some.inj ei4
  obtain ⟨na1, nb1⟩ := and_e hn
  have S_EXACT_BITS := Sta.start (own_eqi na1) (Or.inr ⟨hw _ (List.mem_of_getElem? (i := 16) rfl), hw _ (List.mem_of_getElem? (i := 24) rfl)⟩)
  have S_HALF := Sta.start (own_eqi nb1) (Or.inr ⟨hw _ (List.mem_of_getElem? (i := 16) rfl), hw _ (List.mem_of_getElem? (i := 60) rfl)⟩)
  obtain ⟨n, o, h1, h2, h3, _, L, rfl, ⟨rfl, N⟩, hq⟩ := rm0 l s _ hw tables_1 i0 i1 i2 i3 i4 s.heap s.heap.size (Nat.le_refl _) S_EXACT_BITS S_HALF p e ha hc hk s m _ below hf ((Spec.applies_iff_loose hf).mp happ).1 ⟨rfl, State.Warmed39.refl s, rfl⟩ trivial
  refine ⟨n, _, h1, h2, h3, hpost _ _ _ _ _ _ ⟨Cond.after_iff.mpr rfl, Cond.after_iff.mpr (eq_i res_at (Term.int_eval (1)) rfl), trivial⟩ ⟨hq.1, hq.2.1, (hq.2.2.sift fun y hy => Or.inr (N y hy)).mono (by decide) (by decide)⟩⟩
theorem main_1_1 : Claimed_1_1 := comes_1 fun _ _ _ _ _ _ h hF => ⟨h.1, hF⟩
theorem main_1_2 : Claimed_1_2 := comes_1 fun _ _ _ _ _ _ h hF => ⟨h.2.1, hF⟩
end Jvm.Pilot.@@N@@
namespace Jvm.Pilot.@@N@@
open Jvm Jvm.ClassFile Sem Op Lib Jvm.Free Jvm.Stand Jvm.Pilot.@@N@@.Jvm.D
/-! MADE BY PROGRAM (witnessworld.py) out of the Statement's table words and the real class files: 18 classes; the members and pool entries that the words name. The judged class is class 1, her method 1. -/
namespace start1
open Jvm.ClassFile
def u (s : String) : CpInfo := .utf8 (stringToUtf16 s)
/-- a pool by its gaps: so many unusable entries, then the entry; so many at the end -/
def gap : Nat → List CpInfo → List CpInfo
  | 0, r => r
  | n + 1, r => .unusable :: gap n r
def poolList (es : List (Nat × CpInfo)) (last : Nat) : List CpInfo := es.foldr (fun e r => gap e.1 (e.2 :: r)) (gap last [])
def pool (es : List (Nat × CpInfo)) (last : Nat) : Array CpInfo := ⟨poolList es last⟩
def fileOf (pool : Array CpInfo) (this : Nat) (attrs : Array Attribute := #[]) (ms : Array MethodInfo := #[]) (fl : Nat := 33) (sup : Nat := 0) (ifs : Array Nat := #[]) (fds : Array FieldInfo := #[]) : ClassFile where
  minorVersion := 0
  majorVersion := 65
  constantPool := pool
  accessFlags := fl
  thisClass := this
  superClass := sup
  interfaces := ifs
  fields := fds
  methods := ms
  attributes := attrs
def plain (name : String) (sup : Option ClassId) : Class where
  name := name
  kind := .ordinary
  loader := none
  accessFlags := 33
  super := sup
  interfaces := #[]
  cf := none
  fields := #[]
  methods := #[]
  instanceTypes := #[]
  staticTypes := #[]
  resolved := #[]
  callSites := []
  init := .initialized
  statics := none
  mirror := none

def pool0 : Array CpInfo := pool [(5, u "<init>"), (0, u "()V"), (1, .class_ 10), (1, u "java/lang/Object")] 113

def k0c0 : Code := { maxStack := 0, maxLocals := 1, code := object_method_1_code, exceptionTable := #[], attributes := #[] }
def k0m0 : Method := { name := "<init>", desc := "()V", sig := { parameters := [], returnType := none }, accessFlags := 1, code := some k0c0 }
/-- java/lang/Object -/
def k0 : Class := { plain "java/lang/Object" none with
  accessFlags := 33
  interfaces := #[]
  cf := some (fileOf pool0 8 #[] #[{ accessFlags := 1, nameIndex := 5, descriptorIndex := 6, attributes := #[] }] 33 0 #[] #[])
  fields := #[]
  methods := #[k0m0]
  instanceTypes := #[]
  staticTypes := #[]
  resolved := Array.replicate 124 none
  statics := none }

def pool1 : Array CpInfo := pool [(2, .class_ 4), (0, .nameAndType 5 6), (0, u "java/lang/Object"), (0, u "<init>"), (0, u "()V"), (0, .integer 2147483647), (0, .methodref 9 10), (0, .class_ 11), (0, .nameAndType 12 13), (0, u "com/example/kurir/kurir/bench/LatenciesPercentileMicrosPinLaw"), (0, u "floorOf"), (0, u "(J)J"), (0, .class_ 15), (0, u "com/example/kurir/kurir/bench/Latencies"), (0, .methodref 14 3), (0, .methodref 9 18), (0, .nameAndType 19 13), (0, u "nanosOf"), (0, .methodref 14 21), (0, .nameAndType 22 23), (0, u "add"), (0, u "(J)V"), (0, .methodref 14 25), (0, .nameAndType 26 27), (0, u "percentileMicros"), (0, u "(I)J"), (0, .methodref 29 30), (0, .class_ 31), (0, .nameAndType 32 33), (0, u "java/lang/Math"), (0, u "min"), (0, u "(JJ)J"), (0, .methodref 29 35), (0, .nameAndType 36 33), (0, u "max"), (0, .methodref 14 38), (0, .nameAndType 39 40), (0, u "count"), (0, u "()J"), (0, .long 63), (1, .methodref 9 44), (0, .nameAndType 45 46), (0, u "mag"), (0, u "(J)I"), (0, .long 65535), (1, .long 32768), (1, .methodref 9 52), (0, .nameAndType 53 13), (0, u "high"), (2, .long 9223372036854775808), (1, .long 1023), (1, .long 1000), (3, u "law"), (0, u "(JJJII)Z")] 3

def k1m0 : Method := { name := "<init>", desc := "()V", sig := { parameters := [], returnType := none }, accessFlags := 1, code := none }
def k1c1 : Code := { maxStack := 6, maxLocals := 29, code := code, exceptionTable := #[], attributes := #[] }
def k1m1 : Method := { name := "law", desc := "(JJJII)Z", sig := { parameters := [.long, .long, .long, .int, .int], returnType := some .boolean }, accessFlags := 9, code := some k1c1 }
def k1c2 : Code := { maxStack := 4, maxLocals := 2, code := method_3_code, exceptionTable := #[], attributes := #[] }
def k1m2 : Method := { name := "mag", desc := "(J)I", sig := { parameters := [.long], returnType := some .int }, accessFlags := 10, code := some k1c2 }
def k1c3 : Code := { maxStack := 6, maxLocals := 5, code := method_4_code, exceptionTable := #[], attributes := #[] }
def k1m3 : Method := { name := "high", desc := "(J)J", sig := { parameters := [.long], returnType := some .long }, accessFlags := 10, code := some k1c3 }
def k1c4 : Code := { maxStack := 4, maxLocals := 3, code := method_5_code, exceptionTable := #[], attributes := #[] }
def k1m4 : Method := { name := "floorOf", desc := "(J)J", sig := { parameters := [.long], returnType := some .long }, accessFlags := 10, code := some k1c4 }
def k1c5 : Code := { maxStack := 6, maxLocals := 9, code := method_6_code, exceptionTable := #[], attributes := #[] }
def k1m5 : Method := { name := "nanosOf", desc := "(J)J", sig := { parameters := [.long], returnType := some .long }, accessFlags := 10, code := some k1c5 }
/-- com/example/kurir/kurir/bench/LatenciesPercentileMicrosPinLaw -/
def k1 : Class := { plain "com/example/kurir/kurir/bench/LatenciesPercentileMicrosPinLaw" (some 0) with
  accessFlags := 49
  interfaces := #[]
  cf := some (fileOf pool1 9 #[] #[{ accessFlags := 1, nameIndex := 5, descriptorIndex := 6, attributes := #[] }, { accessFlags := 9, nameIndex := 64, descriptorIndex := 65, attributes := #[] }, { accessFlags := 10, nameIndex := 45, descriptorIndex := 46, attributes := #[] }, { accessFlags := 10, nameIndex := 53, descriptorIndex := 13, attributes := #[] }, { accessFlags := 10, nameIndex := 12, descriptorIndex := 13, attributes := #[] }, { accessFlags := 10, nameIndex := 19, descriptorIndex := 13, attributes := #[] }] 49 2 #[] #[])
  fields := #[]
  methods := #[k1m0, k1m1, k1m2, k1m3, k1m4, k1m5]
  instanceTypes := #[]
  staticTypes := #[]
  resolved := Array.replicate 69 none
  statics := none }

def pool2 : Array CpInfo := pool [(1, .methodref 2 3), (0, .class_ 4), (0, .nameAndType 5 6), (0, u "java/lang/Object"), (0, u "<init>"), (0, u "()V"), (0, .class_ 8), (0, u "java/lang/Long"), (0, .fieldref 10 11), (0, .class_ 12), (0, .nameAndType 13 14), (0, u "com/example/kurir/kurir/bench/Latencies"), (0, u "EXACT_BITS"), (0, u "I"), (0, .class_ 16), (0, u "[J"), (0, .fieldref 10 18), (0, .nameAndType 19 20), (0, u "counts"), (0, u "[[J"), (0, .methodref 22 23), (0, .class_ 24), (0, .nameAndType 25 26), (0, u "java/lang/Math"), (0, u "max"), (0, u "(JJ)J"), (0, .long 1000), (1, .methodref 10 30), (0, .nameAndType 31 32), (0, u "magnitude"), (0, u "(J)I"), (0, .fieldref 10 34), (0, .nameAndType 35 14), (0, u "HALF"), (0, .methodref 10 37), (0, .nameAndType 38 39), (0, u "index"), (0, u "(JI)I"), (0, .fieldref 10 41), (0, .nameAndType 42 43), (0, u "count"), (0, u "J"), (0, .fieldref 10 45), (0, .nameAndType 46 43), (0, u "maxMicros"), (0, .long 99), (1, .long 100), (1, .methodref 7 52), (0, .nameAndType 53 32), (0, u "numberOfLeadingZeros"), (0, .methodref 22 55), (0, .nameAndType 25 56), (0, u "(II)I"), (5, u "EXACT_MICROS"), (1, u "NANOS_PER_MICRO"), (2, u "add"), (0, u "(J)V"), (2, u "()J"), (0, u "percentileMicros"), (0, u "(I)J")] 3

def k2c0 : Code := { maxStack := 3, maxLocals := 1, code := prog_12_method_1_code, exceptionTable := #[], attributes := #[] }
def k2m0 : Method := { name := "<init>", desc := "()V", sig := { parameters := [], returnType := none }, accessFlags := 0, code := some k2c0 }
def k2c1 : Code := { maxStack := 6, maxLocals := 6, code := prog_12_method_2_code, exceptionTable := #[], attributes := #[] }
def k2m1 : Method := { name := "add", desc := "(J)V", sig := { parameters := [.long], returnType := none }, accessFlags := 0, code := some k2c1 }
def k2c2 : Code := { maxStack := 2, maxLocals := 1, code := prog_12_method_3_code, exceptionTable := #[], attributes := #[] }
def k2m2 : Method := { name := "count", desc := "()J", sig := { parameters := [], returnType := some .long }, accessFlags := 0, code := some k2c2 }
def k2c3 : Code := { maxStack := 4, maxLocals := 9, code := prog_12_method_4_code, exceptionTable := #[], attributes := #[] }
def k2m3 : Method := { name := "percentileMicros", desc := "(I)J", sig := { parameters := [.int], returnType := some .long }, accessFlags := 0, code := some k2c3 }
def k2c4 : Code := { maxStack := 4, maxLocals := 2, code := prog_12_method_6_code, exceptionTable := #[], attributes := #[] }
def k2m4 : Method := { name := "magnitude", desc := "(J)I", sig := { parameters := [.long], returnType := some .int }, accessFlags := 10, code := some k2c4 }
def k2c5 : Code := { maxStack := 3, maxLocals := 3, code := prog_12_method_7_code, exceptionTable := #[], attributes := #[] }
def k2m5 : Method := { name := "index", desc := "(JI)I", sig := { parameters := [.long, .int], returnType := some .int }, accessFlags := 10, code := some k2c5 }
/-- com/example/kurir/kurir/bench/Latencies -/
def k2 : Class := { plain "com/example/kurir/kurir/bench/Latencies" (some 0) with
  accessFlags := 32
  interfaces := #[]
  cf := some (fileOf pool2 10 #[] #[{ accessFlags := 0, nameIndex := 5, descriptorIndex := 6, attributes := #[] }, { accessFlags := 0, nameIndex := 67, descriptorIndex := 68, attributes := #[] }, { accessFlags := 0, nameIndex := 42, descriptorIndex := 71, attributes := #[] }, { accessFlags := 0, nameIndex := 72, descriptorIndex := 73, attributes := #[] }, { accessFlags := 10, nameIndex := 31, descriptorIndex := 32, attributes := #[] }, { accessFlags := 10, nameIndex := 38, descriptorIndex := 39, attributes := #[] }] 32 2 #[] #[{ accessFlags := 26, nameIndex := 62, descriptorIndex := 43, attributes := #[] }, { accessFlags := 26, nameIndex := 13, descriptorIndex := 14, attributes := #[] }, { accessFlags := 26, nameIndex := 35, descriptorIndex := 14, attributes := #[] }, { accessFlags := 26, nameIndex := 64, descriptorIndex := 43, attributes := #[] }, { accessFlags := 18, nameIndex := 19, descriptorIndex := 20, attributes := #[] }, { accessFlags := 2, nameIndex := 42, descriptorIndex := 43, attributes := #[] }, { accessFlags := 2, nameIndex := 46, descriptorIndex := 43, attributes := #[] }])
  fields := #[{ name := "EXACT_MICROS", type := .long, accessFlags := 26, slot := 0, constantValue := 0 }, { name := "EXACT_BITS", type := .int, accessFlags := 26, slot := 1, constantValue := 0 }, { name := "HALF", type := .int, accessFlags := 26, slot := 2, constantValue := 0 }, { name := "NANOS_PER_MICRO", type := .long, accessFlags := 26, slot := 3, constantValue := 0 }, { name := "counts", type := (.array (.array .long)), accessFlags := 18, slot := 0, constantValue := 0 }, { name := "count", type := .long, accessFlags := 2, slot := 1, constantValue := 0 }, { name := "maxMicros", type := .long, accessFlags := 2, slot := 2, constantValue := 0 }]
  methods := #[k2m0, k2m1, k2m2, k2m3, k2m4, k2m5]
  instanceTypes := #[(.array (.array .long)), .long, .long]
  staticTypes := #[.long, .int, .int, .long]
  resolved := Array.replicate 77 none
  statics := some 0 }

def pool3 : Array CpInfo := pool [(1, .class_ 2), (0, u "java/lang/Math"), (1, .class_ 6), (1, u "java/lang/Object"), (0, u "<init>"), (0, u "()V"), (89, .class_ 100), (1, u "java/lang/Math$RandomNumberGeneratorHolder"), (20, u "(JJ)J"), (50, u "negativeZeroFloatBits"), (0, u "J"), (2, u "negativeZeroDoubleBits"), (21, u "max"), (2, u "min"), (43, u "$assertionsDisabled"), (0, u "Z"), (88, u "(II)I"), (2, u "twoToTheDoubleScaleDown"), (0, u "D"), (4, u "twoToTheDoubleScaleUp"), (9, u "E"), (3, u "PI"), (2, u "TAU"), (2, u "DEGREES_TO_RADIANS"), (0, u "RADIANS_TO_DEGREES")] 94

def k3m0 : Method := { name := "<init>", desc := "()V", sig := { parameters := [], returnType := none }, accessFlags := 2, code := none }
def k3c1 : Code := { maxStack := 2, maxLocals := 2, code := jdk_29_method_65_code, exceptionTable := #[], attributes := #[] }
def k3m1 : Method := { name := "max", desc := "(II)I", sig := { parameters := [.int, .int], returnType := some .int }, accessFlags := 9, code := some k3c1 }
def k3c2 : Code := { maxStack := 4, maxLocals := 4, code := jdk_29_method_66_code, exceptionTable := #[], attributes := #[] }
def k3m2 : Method := { name := "max", desc := "(JJ)J", sig := { parameters := [.long, .long], returnType := some .long }, accessFlags := 9, code := some k3c2 }
def k3c3 : Code := { maxStack := 4, maxLocals := 4, code := jdk_29_method_70_code, exceptionTable := #[], attributes := #[] }
def k3m3 : Method := { name := "min", desc := "(JJ)J", sig := { parameters := [.long, .long], returnType := some .long }, accessFlags := 9, code := some k3c3 }
/-- java/lang/Math -/
def k3 : Class := { plain "java/lang/Math" (some 0) with
  accessFlags := 49
  interfaces := #[]
  cf := some (fileOf pool3 1 #[.nestMembers #[98]] #[{ accessFlags := 2, nameIndex := 7, descriptorIndex := 8, attributes := #[] }, { accessFlags := 9, nameIndex := 198, descriptorIndex := 335, attributes := #[] }, { accessFlags := 9, nameIndex := 198, descriptorIndex := 121, attributes := #[] }, { accessFlags := 9, nameIndex := 201, descriptorIndex := 121, attributes := #[] }] 49 4 #[] #[{ accessFlags := 25, nameIndex := 354, descriptorIndex := 339, attributes := #[] }, { accessFlags := 25, nameIndex := 358, descriptorIndex := 339, attributes := #[] }, { accessFlags := 25, nameIndex := 361, descriptorIndex := 339, attributes := #[] }, { accessFlags := 26, nameIndex := 364, descriptorIndex := 339, attributes := #[] }, { accessFlags := 26, nameIndex := 365, descriptorIndex := 339, attributes := #[] }, { accessFlags := 26, nameIndex := 172, descriptorIndex := 173, attributes := #[] }, { accessFlags := 26, nameIndex := 176, descriptorIndex := 173, attributes := #[] }, { accessFlags := 8, nameIndex := 344, descriptorIndex := 339, attributes := #[] }, { accessFlags := 8, nameIndex := 338, descriptorIndex := 339, attributes := #[] }, { accessFlags := 4120, nameIndex := 245, descriptorIndex := 246, attributes := #[] }])
  fields := #[{ name := "E", type := .double, accessFlags := 25, slot := 0, constantValue := 0 }, { name := "PI", type := .double, accessFlags := 25, slot := 1, constantValue := 0 }, { name := "TAU", type := .double, accessFlags := 25, slot := 2, constantValue := 0 }, { name := "DEGREES_TO_RADIANS", type := .double, accessFlags := 26, slot := 3, constantValue := 0 }, { name := "RADIANS_TO_DEGREES", type := .double, accessFlags := 26, slot := 4, constantValue := 0 }, { name := "negativeZeroFloatBits", type := .long, accessFlags := 26, slot := 5, constantValue := 0 }, { name := "negativeZeroDoubleBits", type := .long, accessFlags := 26, slot := 6, constantValue := 0 }, { name := "twoToTheDoubleScaleUp", type := .double, accessFlags := 8, slot := 7, constantValue := 0 }, { name := "twoToTheDoubleScaleDown", type := .double, accessFlags := 8, slot := 8, constantValue := 0 }, { name := "$assertionsDisabled", type := .boolean, accessFlags := 4120, slot := 9, constantValue := 0 }]
  methods := #[k3m0, k3m1, k3m2, k3m3]
  instanceTypes := #[]
  staticTypes := #[.double, .double, .double, .double, .double, .long, .long, .double, .double, .boolean]
  resolved := Array.replicate 460 none
  statics := none }

def pool4 : Array CpInfo := pool [(1, .class_ 2), (0, u "java/io/Serializable"), (0, .class_ 4), (0, u "java/lang/Object")] 2

/-- java/io/Serializable -/
def k4 : Class := { plain "java/io/Serializable" (some 0) with
  accessFlags := 1537
  interfaces := #[]
  cf := some (fileOf pool4 1 #[] #[] 1537 3 #[] #[])
  fields := #[]
  methods := #[]
  instanceTypes := #[]
  staticTypes := #[]
  resolved := Array.replicate 7 none
  statics := none }

def pool5 : Array CpInfo := pool [(2, .class_ 4), (1, u "java/lang/Object"), (0, u "<init>"), (0, u "()V"), (1, .class_ 10), (1, u "java/lang/Number"), (2, .class_ 14), (0, u "java/io/Serializable"), (0, u "serialVersionUID"), (0, u "J")] 20

def k5m0 : Method := { name := "<init>", desc := "()V", sig := { parameters := [], returnType := none }, accessFlags := 1, code := none }
/-- java/lang/Number -/
def k5 : Class := { plain "java/lang/Number" (some 0) with
  accessFlags := 1057
  interfaces := #[4]
  cf := some (fileOf pool5 8 #[] #[{ accessFlags := 1, nameIndex := 5, descriptorIndex := 6, attributes := #[] }] 1057 2 #[13] #[{ accessFlags := 26, nameIndex := 15, descriptorIndex := 16, attributes := #[] }])
  fields := #[{ name := "serialVersionUID", type := .long, accessFlags := 26, slot := 0, constantValue := 0 }]
  methods := #[k5m0]
  instanceTypes := #[]
  staticTypes := #[.long]
  resolved := Array.replicate 37 none
  statics := none }

def pool6 : Array CpInfo := pool [(1, .class_ 2), (0, u "java/lang/Comparable"), (0, .class_ 4), (0, u "java/lang/Object")] 7

/-- java/lang/Comparable -/
def k6 : Class := { plain "java/lang/Comparable" (some 0) with
  accessFlags := 1537
  interfaces := #[]
  cf := some (fileOf pool6 1 #[] #[] 1537 3 #[] #[])
  fields := #[]
  methods := #[]
  instanceTypes := #[]
  staticTypes := #[]
  resolved := Array.replicate 12 none
  statics := none }

def pool7 : Array CpInfo := pool [(1, .class_ 2), (0, u "java/lang/constant/Constable"), (0, .class_ 4), (0, u "java/lang/Object")] 6

/-- java/lang/constant/Constable -/
def k7 : Class := { plain "java/lang/constant/Constable" (some 0) with
  accessFlags := 1537
  interfaces := #[]
  cf := some (fileOf pool7 1 #[] #[] 1537 3 #[] #[])
  fields := #[]
  methods := #[]
  instanceTypes := #[]
  staticTypes := #[]
  resolved := Array.replicate 11 none
  statics := none }

def pool8 : Array CpInfo := pool [(1, .class_ 2), (0, u "java/lang/constant/ConstantDesc"), (0, .class_ 4), (0, u "java/lang/Object")] 32

/-- java/lang/constant/ConstantDesc -/
def k8 : Class := { plain "java/lang/constant/ConstantDesc" (some 0) with
  accessFlags := 1537
  interfaces := #[]
  cf := some (fileOf pool8 1 #[] #[] 1537 3 #[] #[])
  fields := #[]
  methods := #[]
  instanceTypes := #[]
  staticTypes := #[]
  resolved := Array.replicate 37 none
  statics := none }

def pool9 : Array CpInfo := pool [(1, .class_ 2), (0, u "java/lang/Long"), (15, .class_ 20), (1, u "java/lang/Integer"), (79, u "numberOfLeadingZeros"), (0, u "(J)I"), (133, .class_ 237), (1, u "java/lang/Long$LongCache"), (33, .class_ 272), (0, u "java/lang/Number"), (2, u "value"), (0, u "J"), (31, .methodref 18 309), (0, .nameAndType 100 310), (0, u "(I)I"), (50, u "TYPE"), (0, u "Ljava/lang/Class;"), (0, .class_ 364), (0, u "java/lang/Comparable"), (0, .class_ 366), (0, u "java/lang/constant/Constable"), (0, .class_ 368), (0, u "java/lang/constant/ConstantDesc"), (0, u "MIN_VALUE"), (1, u "MAX_VALUE"), (4, u "SIZE"), (0, u "I"), (1, u "BYTES"), (1, u "serialVersionUID")] 142

def k9c0 : Code := { maxStack := 3, maxLocals := 3, code := jdk_35_method_48_code, exceptionTable := #[], attributes := #[] }
def k9m0 : Method := { name := "numberOfLeadingZeros", desc := "(J)I", sig := { parameters := [.long], returnType := some .int }, accessFlags := 9, code := some k9c0 }
/-- java/lang/Long -/
def k9 : Class := { plain "java/lang/Long" (some 5) with
  accessFlags := 49
  interfaces := #[6, 7, 8]
  cf := some (fileOf pool9 1 #[.nestMembers #[235]] #[{ accessFlags := 9, nameIndex := 100, descriptorIndex := 101, attributes := #[] }] 49 271 #[363, 365, 367] #[{ accessFlags := 25, nameIndex := 369, descriptorIndex := 276, attributes := #[] }, { accessFlags := 25, nameIndex := 371, descriptorIndex := 276, attributes := #[] }, { accessFlags := 25, nameIndex := 361, descriptorIndex := 362, attributes := #[] }, { accessFlags := 18, nameIndex := 275, descriptorIndex := 276, attributes := #[] }, { accessFlags := 25, nameIndex := 376, descriptorIndex := 377, attributes := #[] }, { accessFlags := 25, nameIndex := 379, descriptorIndex := 377, attributes := #[] }, { accessFlags := 26, nameIndex := 381, descriptorIndex := 276, attributes := #[] }])
  fields := #[{ name := "MIN_VALUE", type := .long, accessFlags := 25, slot := 0, constantValue := 0 }, { name := "MAX_VALUE", type := .long, accessFlags := 25, slot := 1, constantValue := 0 }, { name := "TYPE", type := (.object "java/lang/Class"), accessFlags := 25, slot := 2, constantValue := 0 }, { name := "value", type := .long, accessFlags := 18, slot := 0, constantValue := 0 }, { name := "SIZE", type := .int, accessFlags := 25, slot := 3, constantValue := 0 }, { name := "BYTES", type := .int, accessFlags := 25, slot := 4, constantValue := 0 }, { name := "serialVersionUID", type := .long, accessFlags := 26, slot := 5, constantValue := 0 }]
  methods := #[k9m0]
  instanceTypes := #[.long]
  staticTypes := #[.long, .long, (.object "java/lang/Class"), .int, .int, .long]
  resolved := Array.replicate 524 none
  statics := none }

def pool10 : Array CpInfo := pool [(1, .class_ 2), (0, u "java/lang/Integer"), (16, u "digits"), (0, u "[C"), (32, u "numberOfLeadingZeros"), (0, u "(I)I"), (30, u "DigitOnes"), (0, u "[B"), (2, u "DigitTens"), (99, .class_ 190), (0, u "java/lang/Integer$IntegerCache"), (3, u "I"), (8, .class_ 204), (0, u "java/lang/Number"), (2, u "value"), (56, .integer 65536), (37, u "TYPE"), (0, u "Ljava/lang/Class;"), (0, .class_ 305), (0, u "java/lang/Comparable"), (0, .class_ 307), (0, u "java/lang/constant/Constable"), (0, .class_ 309), (0, u "java/lang/constant/ConstantDesc"), (0, u "MIN_VALUE"), (1, u "MAX_VALUE"), (3, u "SIZE"), (1, u "BYTES"), (1, u "serialVersionUID"), (0, u "J")] 131

def k10c0 : Code := { maxStack := 3, maxLocals := 2, code := jdk_33_method_47_code, exceptionTable := #[], attributes := #[] }
def k10m0 : Method := { name := "numberOfLeadingZeros", desc := "(I)I", sig := { parameters := [.int], returnType := some .int }, accessFlags := 9, code := some k10c0 }
/-- java/lang/Integer -/
def k10 : Class := { plain "java/lang/Integer" (some 5) with
  accessFlags := 49
  interfaces := #[6, 7, 8]
  cf := some (fileOf pool10 1 #[.nestMembers #[189]] #[{ accessFlags := 9, nameIndex := 53, descriptorIndex := 54, attributes := #[] }] 49 203 #[304, 306, 308] #[{ accessFlags := 25, nameIndex := 310, descriptorIndex := 194, attributes := #[] }, { accessFlags := 25, nameIndex := 312, descriptorIndex := 194, attributes := #[] }, { accessFlags := 25, nameIndex := 302, descriptorIndex := 303, attributes := #[] }, { accessFlags := 24, nameIndex := 19, descriptorIndex := 20, attributes := #[] }, { accessFlags := 24, nameIndex := 89, descriptorIndex := 86, attributes := #[] }, { accessFlags := 24, nameIndex := 85, descriptorIndex := 86, attributes := #[] }, { accessFlags := 18, nameIndex := 207, descriptorIndex := 194, attributes := #[] }, { accessFlags := 25, nameIndex := 316, descriptorIndex := 194, attributes := #[] }, { accessFlags := 25, nameIndex := 318, descriptorIndex := 194, attributes := #[] }, { accessFlags := 26, nameIndex := 320, descriptorIndex := 321, attributes := #[] }])
  fields := #[{ name := "MIN_VALUE", type := .int, accessFlags := 25, slot := 0, constantValue := 0 }, { name := "MAX_VALUE", type := .int, accessFlags := 25, slot := 1, constantValue := 0 }, { name := "TYPE", type := (.object "java/lang/Class"), accessFlags := 25, slot := 2, constantValue := 0 }, { name := "digits", type := (.array .char), accessFlags := 24, slot := 3, constantValue := 0 }, { name := "DigitTens", type := (.array .byte), accessFlags := 24, slot := 4, constantValue := 0 }, { name := "DigitOnes", type := (.array .byte), accessFlags := 24, slot := 5, constantValue := 0 }, { name := "value", type := .int, accessFlags := 18, slot := 0, constantValue := 0 }, { name := "SIZE", type := .int, accessFlags := 25, slot := 6, constantValue := 0 }, { name := "BYTES", type := .int, accessFlags := 25, slot := 7, constantValue := 0 }, { name := "serialVersionUID", type := .long, accessFlags := 26, slot := 8, constantValue := 0 }]
  methods := #[k10m0]
  instanceTypes := #[.int]
  staticTypes := #[.int, .int, (.object "java/lang/Class"), (.array .char), (.array .byte), (.array .byte), .int, .int, .long]
  resolved := Array.replicate 453 none
  statics := none }

def pool11 : Array CpInfo := pool [(1, u "java/lang/Cloneable"), (0, .class_ 1), (0, u "java/lang/Object"), (0, .class_ 3)] 3

/-- java/lang/Cloneable -/
def k11 : Class := { plain "java/lang/Cloneable" (some 0) with
  accessFlags := 1537
  interfaces := #[]
  cf := some (fileOf pool11 2 #[] #[] 1537 4 #[] #[])
  fields := #[]
  methods := #[]
  instanceTypes := #[]
  staticTypes := #[]
  resolved := Array.replicate 8 none
  statics := none }

/-- the primitive byte -/
def k12 : Class := { plain "byte" none with kind := .primitive 'B', accessFlags := 0x411 }
/-- [B -/
def k13 : Class := { plain "[B" (some 0) with kind := .array 12 .byte, interfaces := #[11, 4], accessFlags := 1041 }

/-- the primitive int -/
def k14 : Class := { plain "int" none with kind := .primitive 'I', accessFlags := 0x411 }
/-- [I -/
def k15 : Class := { plain "[I" (some 0) with kind := .array 14 .int, interfaces := #[11, 4], accessFlags := 1041 }

/-- the primitive long -/
def k16 : Class := { plain "long" none with kind := .primitive 'J', accessFlags := 0x411 }
/-- [J -/
def k17 : Class := { plain "[J" (some 0) with kind := .array 16 .long, interfaces := #[11, 4], accessFlags := 1041 }

/-- [[J -/
def k18 : Class := { plain "[[J" (some 0) with kind := .array 17 (.array .long), interfaces := #[11, 4], accessFlags := 1041 }
def heap : Heap := #[{ cls := 2, slots := #[.long 0, .int 16, .int 32768, .long 0], vm := .statics 2 }]
def classes : Array Class := #[k0, k1, k2, k3, k4, k5, k6, k7, k8, k9, k10, k11, k12, k13, k14, k15, k16, k17, k18]
def interned : List (Array UInt16 × Addr) := []
def slotsUsed : Nat := 4
def theMethod : MethodId := ⟨1, 1⟩
def args0 : Array Value := #[.long 5, .long 7, .long 9, .int 49, .int 3]
def aboutOver (below : List Frame) : State where
  vm := { classes := classes, interned := interned.toArray }
  heap := heap
  slotsUsed := slotsUsed
  threads := #[{ frames := .invoking theMethod args0 :: below }]
def below0 : List Frame := [.native { method := ⟨0, 0⟩, args := #[] }]
def about1 : State := aboutOver below0
def p0 : Program := .bare "" "" ""
def e0 : Env := launch0.env 0 0 0
theorem w_frames : about1.frames = Frame.invoking theMethod args0 :: below0 := rfl
set_option maxRecDepth 65536 in
theorem w_args : argsFit about1.vm theMethod args0 = true := by decide +kernel
set_option maxRecDepth 65536 in
theorem w_heap : heapFits about1 = true := by decide +kernel
set_option maxRecDepth 65536 in
theorem w_runnable : about1.curStatus? = some .runnable := by decide +kernel
set_option maxRecDepth 65536 in
theorem w_alone : about1.alone = true := by decide +kernel
set_option maxRecDepth 65536 in
theorem w_named : about1.methodNamed? x = some theMethod := by decide +kernel
set_option maxRecDepth 65536 in
theorem w_hears : about1.hears theMethod below0 = true := by decide +kernel
set_option maxRecDepth 65536 in
theorem w_ripe : about1.ripe theMethod args0 below0 = true := by decide +kernel
theorem w_running : about1.status = .running := rfl
set_option maxRecDepth 65536 in
theorem w_room : about1.hasRoom e0.platform room_1 = true :=
  launch0.hasRoom_least _ room_1 (by decide +kernel) (by decide +kernel) (by decide +kernel) (by decide +kernel) (by decide +kernel) (by decide +kernel)
theorem allAtoms_all (ts : List Jvm.Cond) (a : Array Jvm.Value) (st : Jvm.State) : (allAtoms ts).before a st = ts.all (fun c => c.before a st) := by
  induction ts with
  | nil => rfl
  | cons c t ih =>
    show (Jvm.Cond.and c (allAtoms t)).before a st = _
    rw [Jvm.Cond.before_and, ih, List.all_cons]
def words1 : List Jvm.Cond := Jvm.Cond.code x code maxLocals ret :: tables_1
/-- a 'code' word, met by the world's own term for the bytes: nothing is compared byte by byte -/
theorem code_word {y : MethodName} {bytes : ByteArray} {mx : Nat} {rt : Option FieldType} {a : Array Value} {s : State} {m : MethodId} {meth : Method} {c : Code} (h1 : s.methodNamed? y = some m) (h2 : s.vm.method? m = some meth) (h3 : meth.code = some c) (h4 : c.code = bytes)
    (h5 : (c.maxLocals == mx && c.exceptionTable.isEmpty && decide (c.maxStack ≤ mostOperands) && decide (meth.sig.returnType = rt) && !meth.locks && decide (parseMethodDescriptor y.desc = some meth.sig)) = true) : (Jvm.Cond.code y bytes mx rt).before a s = true := by
  simp only [Bool.and_eq_true, beq_iff_eq, Bool.not_eq_true', decide_eq_true_eq] at h5
  obtain ⟨⟨⟨⟨⟨g1, g2⟩, g3⟩, g4⟩, g5⟩, g6⟩ := h5
  simp [Cond.before, Cond.holds, Cond.value, h1, h2, h3, h4, g1, g2, g3, g4, g5, g6]
def isCode : Jvm.Cond → Bool
  | .code _ _ _ _ => true
  | _ => false
theorem all_split {L : List Jvm.Cond} {P : Jvm.Cond → Bool} (h1 : L.all (fun c => isCode c || P c) = true) (h2 : ∀ c ∈ L.filter isCode, P c = true) : L.all P = true := by
  refine List.all_eq_true.mpr fun c hc => ?_
  have h := List.all_eq_true.mp h1 c hc
  rcases Bool.eq_false_or_eq_true (isCode c) with hi | hi
  · exact h2 c (List.mem_filter.mpr ⟨hc, hi⟩)
  · simpa [hi] using h
set_option maxRecDepth 65536 in
theorem w_c0 : (Jvm.Cond.code x code maxLocals ret).before args0 about1 = true := code_word (m := ⟨1, 1⟩) (meth := k1m1) (c := k1c1) (by decide +kernel) rfl rfl rfl (by decide +kernel)
set_option maxRecDepth 65536 in
theorem w_c1 : (Jvm.Cond.code ({ cls := "com/example/kurir/kurir/bench/LatenciesPercentileMicrosPinLaw", name := "floorOf", desc := "(J)J" } : Jvm.MethodName) method_5_code (3 : Nat) (Option.some Jvm.ClassFile.FieldType.long)).before args0 about1 = true := code_word (m := ⟨1, 4⟩) (meth := k1m4) (c := k1c4) (by decide +kernel) rfl rfl rfl (by decide +kernel)
set_option maxRecDepth 65536 in
theorem w_c2 : (Jvm.Cond.code ({ cls := "com/example/kurir/kurir/bench/LatenciesPercentileMicrosPinLaw", name := "mag", desc := "(J)I" } : Jvm.MethodName) method_3_code (2 : Nat) (Option.some Jvm.ClassFile.FieldType.int)).before args0 about1 = true := code_word (m := ⟨1, 2⟩) (meth := k1m2) (c := k1c2) (by decide +kernel) rfl rfl rfl (by decide +kernel)
set_option maxRecDepth 65536 in
theorem w_c3 : (Jvm.Cond.code ({ cls := "com/example/kurir/kurir/bench/LatenciesPercentileMicrosPinLaw", name := "high", desc := "(J)J" } : Jvm.MethodName) method_4_code (5 : Nat) (Option.some Jvm.ClassFile.FieldType.long)).before args0 about1 = true := code_word (m := ⟨1, 3⟩) (meth := k1m3) (c := k1c3) (by decide +kernel) rfl rfl rfl (by decide +kernel)
set_option maxRecDepth 65536 in
theorem w_c4 : (Jvm.Cond.code ({ cls := "com/example/kurir/kurir/bench/Latencies", name := "<init>", desc := "()V" } : Jvm.MethodName) prog_12_method_1_code (1 : Nat) (Option.none : Option Jvm.ClassFile.FieldType)).before args0 about1 = true := code_word (m := ⟨2, 0⟩) (meth := k2m0) (c := k2c0) (by decide +kernel) rfl rfl rfl (by decide +kernel)
set_option maxRecDepth 65536 in
theorem w_c5 : (Jvm.Cond.code ({ cls := "java/lang/Object", name := "<init>", desc := "()V" } : Jvm.MethodName) object_method_1_code (1 : Nat) (Option.none : Option Jvm.ClassFile.FieldType)).before args0 about1 = true := code_word (m := ⟨0, 0⟩) (meth := k0m0) (c := k0c0) (by decide +kernel) rfl rfl rfl (by decide +kernel)
set_option maxRecDepth 65536 in
theorem w_c6 : (Jvm.Cond.code ({ cls := "com/example/kurir/kurir/bench/LatenciesPercentileMicrosPinLaw", name := "nanosOf", desc := "(J)J" } : Jvm.MethodName) method_6_code (9 : Nat) (Option.some Jvm.ClassFile.FieldType.long)).before args0 about1 = true := code_word (m := ⟨1, 5⟩) (meth := k1m5) (c := k1c5) (by decide +kernel) rfl rfl rfl (by decide +kernel)
set_option maxRecDepth 65536 in
theorem w_c7 : (Jvm.Cond.code ({ cls := "com/example/kurir/kurir/bench/Latencies", name := "add", desc := "(J)V" } : Jvm.MethodName) prog_12_method_2_code (6 : Nat) (Option.none : Option Jvm.ClassFile.FieldType)).before args0 about1 = true := code_word (m := ⟨2, 1⟩) (meth := k2m1) (c := k2c1) (by decide +kernel) rfl rfl rfl (by decide +kernel)
set_option maxRecDepth 65536 in
theorem w_c8 : (Jvm.Cond.code ({ cls := "java/lang/Math", name := "max", desc := "(JJ)J" } : Jvm.MethodName) jdk_29_method_66_code (4 : Nat) (Option.some Jvm.ClassFile.FieldType.long)).before args0 about1 = true := code_word (m := ⟨3, 2⟩) (meth := k3m2) (c := k3c2) (by decide +kernel) rfl rfl rfl (by decide +kernel)
set_option maxRecDepth 65536 in
theorem w_c9 : (Jvm.Cond.code ({ cls := "com/example/kurir/kurir/bench/Latencies", name := "magnitude", desc := "(J)I" } : Jvm.MethodName) prog_12_method_6_code (2 : Nat) (Option.some Jvm.ClassFile.FieldType.int)).before args0 about1 = true := code_word (m := ⟨2, 4⟩) (meth := k2m4) (c := k2c4) (by decide +kernel) rfl rfl rfl (by decide +kernel)
set_option maxRecDepth 65536 in
theorem w_c10 : (Jvm.Cond.code ({ cls := "java/lang/Long", name := "numberOfLeadingZeros", desc := "(J)I" } : Jvm.MethodName) jdk_35_method_48_code (3 : Nat) (Option.some Jvm.ClassFile.FieldType.int)).before args0 about1 = true := code_word (m := ⟨9, 0⟩) (meth := k9m0) (c := k9c0) (by decide +kernel) rfl rfl rfl (by decide +kernel)
set_option maxRecDepth 65536 in
theorem w_c11 : (Jvm.Cond.code ({ cls := "java/lang/Integer", name := "numberOfLeadingZeros", desc := "(I)I" } : Jvm.MethodName) jdk_33_method_47_code (2 : Nat) (Option.some Jvm.ClassFile.FieldType.int)).before args0 about1 = true := code_word (m := ⟨10, 0⟩) (meth := k10m0) (c := k10c0) (by decide +kernel) rfl rfl rfl (by decide +kernel)
set_option maxRecDepth 65536 in
theorem w_c12 : (Jvm.Cond.code ({ cls := "java/lang/Math", name := "max", desc := "(II)I" } : Jvm.MethodName) jdk_29_method_65_code (2 : Nat) (Option.some Jvm.ClassFile.FieldType.int)).before args0 about1 = true := code_word (m := ⟨3, 1⟩) (meth := k3m1) (c := k3c1) (by decide +kernel) rfl rfl rfl (by decide +kernel)
set_option maxRecDepth 65536 in
theorem w_c13 : (Jvm.Cond.code ({ cls := "com/example/kurir/kurir/bench/Latencies", name := "index", desc := "(JI)I" } : Jvm.MethodName) prog_12_method_7_code (3 : Nat) (Option.some Jvm.ClassFile.FieldType.int)).before args0 about1 = true := code_word (m := ⟨2, 5⟩) (meth := k2m5) (c := k2c5) (by decide +kernel) rfl rfl rfl (by decide +kernel)
set_option maxRecDepth 65536 in
theorem w_c14 : (Jvm.Cond.code ({ cls := "com/example/kurir/kurir/bench/Latencies", name := "percentileMicros", desc := "(I)J" } : Jvm.MethodName) prog_12_method_4_code (9 : Nat) (Option.some Jvm.ClassFile.FieldType.long)).before args0 about1 = true := code_word (m := ⟨2, 3⟩) (meth := k2m3) (c := k2c3) (by decide +kernel) rfl rfl rfl (by decide +kernel)
set_option maxRecDepth 65536 in
theorem w_c15 : (Jvm.Cond.code ({ cls := "java/lang/Math", name := "min", desc := "(JJ)J" } : Jvm.MethodName) jdk_29_method_70_code (4 : Nat) (Option.some Jvm.ClassFile.FieldType.long)).before args0 about1 = true := code_word (m := ⟨3, 3⟩) (meth := k3m3) (c := k3c3) (by decide +kernel) rfl rfl rfl (by decide +kernel)
set_option maxRecDepth 65536 in
theorem w_c16 : (Jvm.Cond.code ({ cls := "com/example/kurir/kurir/bench/Latencies", name := "count", desc := "()J" } : Jvm.MethodName) prog_12_method_3_code (1 : Nat) (Option.some Jvm.ClassFile.FieldType.long)).before args0 about1 = true := code_word (m := ⟨2, 2⟩) (meth := k2m2) (c := k2c2) (by decide +kernel) rfl rfl rfl (by decide +kernel)
def codes1 : List Jvm.Cond := [Jvm.Cond.code x code maxLocals ret, Jvm.Cond.code ({ cls := "com/example/kurir/kurir/bench/LatenciesPercentileMicrosPinLaw", name := "floorOf", desc := "(J)J" } : Jvm.MethodName) method_5_code (3 : Nat) (Option.some Jvm.ClassFile.FieldType.long), Jvm.Cond.code ({ cls := "com/example/kurir/kurir/bench/LatenciesPercentileMicrosPinLaw", name := "mag", desc := "(J)I" } : Jvm.MethodName) method_3_code (2 : Nat) (Option.some Jvm.ClassFile.FieldType.int), Jvm.Cond.code ({ cls := "com/example/kurir/kurir/bench/LatenciesPercentileMicrosPinLaw", name := "high", desc := "(J)J" } : Jvm.MethodName) method_4_code (5 : Nat) (Option.some Jvm.ClassFile.FieldType.long), Jvm.Cond.code ({ cls := "com/example/kurir/kurir/bench/Latencies", name := "<init>", desc := "()V" } : Jvm.MethodName) prog_12_method_1_code (1 : Nat) (Option.none : Option Jvm.ClassFile.FieldType), Jvm.Cond.code ({ cls := "java/lang/Object", name := "<init>", desc := "()V" } : Jvm.MethodName) object_method_1_code (1 : Nat) (Option.none : Option Jvm.ClassFile.FieldType), Jvm.Cond.code ({ cls := "com/example/kurir/kurir/bench/LatenciesPercentileMicrosPinLaw", name := "nanosOf", desc := "(J)J" } : Jvm.MethodName) method_6_code (9 : Nat) (Option.some Jvm.ClassFile.FieldType.long), Jvm.Cond.code ({ cls := "com/example/kurir/kurir/bench/Latencies", name := "add", desc := "(J)V" } : Jvm.MethodName) prog_12_method_2_code (6 : Nat) (Option.none : Option Jvm.ClassFile.FieldType), Jvm.Cond.code ({ cls := "java/lang/Math", name := "max", desc := "(JJ)J" } : Jvm.MethodName) jdk_29_method_66_code (4 : Nat) (Option.some Jvm.ClassFile.FieldType.long), Jvm.Cond.code ({ cls := "com/example/kurir/kurir/bench/Latencies", name := "magnitude", desc := "(J)I" } : Jvm.MethodName) prog_12_method_6_code (2 : Nat) (Option.some Jvm.ClassFile.FieldType.int), Jvm.Cond.code ({ cls := "java/lang/Long", name := "numberOfLeadingZeros", desc := "(J)I" } : Jvm.MethodName) jdk_35_method_48_code (3 : Nat) (Option.some Jvm.ClassFile.FieldType.int), Jvm.Cond.code ({ cls := "java/lang/Integer", name := "numberOfLeadingZeros", desc := "(I)I" } : Jvm.MethodName) jdk_33_method_47_code (2 : Nat) (Option.some Jvm.ClassFile.FieldType.int), Jvm.Cond.code ({ cls := "java/lang/Math", name := "max", desc := "(II)I" } : Jvm.MethodName) jdk_29_method_65_code (2 : Nat) (Option.some Jvm.ClassFile.FieldType.int), Jvm.Cond.code ({ cls := "com/example/kurir/kurir/bench/Latencies", name := "index", desc := "(JI)I" } : Jvm.MethodName) prog_12_method_7_code (3 : Nat) (Option.some Jvm.ClassFile.FieldType.int), Jvm.Cond.code ({ cls := "com/example/kurir/kurir/bench/Latencies", name := "percentileMicros", desc := "(I)J" } : Jvm.MethodName) prog_12_method_4_code (9 : Nat) (Option.some Jvm.ClassFile.FieldType.long), Jvm.Cond.code ({ cls := "java/lang/Math", name := "min", desc := "(JJ)J" } : Jvm.MethodName) jdk_29_method_70_code (4 : Nat) (Option.some Jvm.ClassFile.FieldType.long), Jvm.Cond.code ({ cls := "com/example/kurir/kurir/bench/Latencies", name := "count", desc := "()J" } : Jvm.MethodName) prog_12_method_3_code (1 : Nat) (Option.some Jvm.ClassFile.FieldType.long)]
set_option maxRecDepth 65536 in
theorem codes_eq : words1.filter isCode = codes1 := rfl
theorem w_codes : ∀ c ∈ words1.filter isCode, c.before args0 about1 = true := by
  rw [codes_eq]
  intro c hc
  simp only [codes1, List.mem_cons, List.not_mem_nil, or_false] at hc
  rcases hc with rfl | rfl | rfl | rfl | rfl | rfl | rfl | rfl | rfl | rfl | rfl | rfl | rfl | rfl | rfl | rfl | rfl
  · exact w_c0
  · exact w_c1
  · exact w_c2
  · exact w_c3
  · exact w_c4
  · exact w_c5
  · exact w_c6
  · exact w_c7
  · exact w_c8
  · exact w_c9
  · exact w_c10
  · exact w_c11
  · exact w_c12
  · exact w_c13
  · exact w_c14
  · exact w_c15
  · exact w_c16
set_option maxRecDepth 65536 in
theorem w_t1 : (words1.take 24).all (fun c => isCode c || c.before args0 about1) = true := by decide +kernel
set_option maxRecDepth 65536 in
theorem w_t2 : ((words1.drop 24).take 24).all (fun c => isCode c || c.before args0 about1) = true := by decide +kernel
set_option maxRecDepth 65536 in
theorem w_t3 : (((words1.drop 24).drop 24).take 24).all (fun c => isCode c || c.before args0 about1) = true := by decide +kernel
set_option maxRecDepth 65536 in
theorem w_t4 : (((words1.drop 24).drop 24).drop 24).all (fun c => isCode c || c.before args0 about1) = true := by decide +kernel
theorem w_tables : (allAtoms (Jvm.Cond.code x code maxLocals ret :: tables_1)).before args0 about1 = true := by
  rw [allAtoms_all]
  show words1.all (fun c => c.before args0 about1) = true
  refine all_split ?_ w_codes
  rw [← List.take_append_drop 24 words1, List.all_append, w_t1, ← List.take_append_drop 24 (words1.drop 24), List.all_append, w_t2, ← List.take_append_drop 24 ((words1.drop 24).drop 24), List.all_append, w_t3, w_t4]
  rfl
set_option maxRecDepth 65536 in
theorem w_case : (Jvm.Cond.and given_1 narrow_1).before args0 about1 = true := by decide +kernel
theorem w_applies : (headSpec (Jvm.Cond.code x code maxLocals ret :: tables_1) room_1).applies x e0.platform about1 = true :=
  (Spec.applies_iff w_frames).mpr ⟨w_running, w_runnable, w_alone, w_named, w_hears, w_ripe, w_room, w_tables⟩
set_option maxRecDepth 65536 in
theorem atStart : AtStart classFile x code maxLocals ret World_1 tables_1 room_1 Calls_1 rest_1 Pre_1 launch0 p0 e0 about1 theMethod args0 below0 :=
  ⟨lists_1, trivial, launch0.admits_env _ _ _, launch0.least_env, fairChoices_fair.cas, fairChoices_fair.clock, w_frames, w_args, w_heap, w_applies, trivial, trivial, w_case⟩
end start1
theorem witness_1 : WitnessClaimed_1 := ⟨start1.p0, start1.e0, start1.about1, start1.theMethod, start1.args0, start1.below0, start1.atStart⟩
end Jvm.Pilot.@@N@@
