import JvmDerived
import JvmDerived.Pilot.@@N@@Statement
import JvmDerived.Pilot.@@N@@Code
set_option linter.unusedVariables false
set_option linter.unusedSimpArgs false
namespace Jvm.Pilot.@@N@@
open Jvm Jvm.ClassFile Sem Op Lib Jvm.Free Jvm.Stand Jvm.LawKit Jvm.RoadKit Bundle Jvm.Pilot.@@N@@.Jvm.D
section OwnKit
variable {p : Program} {l : Launch} {e : Env} {R : Room} {s : State} {m : MethodId} {args : Array Value} {below : List Frame} {meth : Method} {c : Code} {T : State} {locs : List Loc} {cells slots : Nat}
theorem own_retI (X : Stand p l e R s m args below meth c T locs cells slots) (hx : p.tables.exec = Jvm.exec) {pc : Nat} {Ls : Array Slot} {z : Int32} {rest : List Value} (hret : meth.sig.returnType = some .int) (hd : decode c.code pc = .ok (.ireturn, 1)) {fs : List Frame}
    (hl : ∀ (f : JFrame) (acts : List Action), f.method = m → f.locked = none → f.entered = [] → (doReturn e (T.setTop f) acts (some (.int z))).1 = T.setFrames fs) : Steps p.tables e below (T.setTop (mkF m pc Ls (.int z :: rest))) (T.setFrames fs) := by
  have hm' : T.vm.method? m = some meth := X.method'
  have hn : narrow .int (.int z) = .int z := rfl
  show Steps p.tables e below (T.setTop { method := m, pc := pc, locals := Ls, stack := _ :: rest, locked := none }) _
  jvm_step X.here [X.here.top, hx, hd, hm', hret, hn]
  first | (intro acts; rw [hl _ acts rfl rfl rfl]) | rw [hl _ _ rfl rfl rfl]
  exact Steps.refl _
theorem own_retJ (X : Stand p l e R s m args below meth c T locs cells slots) (hx : p.tables.exec = Jvm.exec) {pc : Nat} {Ls : Array Slot} {z : Int64} {rest : List Value} (hret : meth.sig.returnType = some .long) (hd : decode c.code pc = .ok (.lreturn, 1)) {fs : List Frame}
    (hl : ∀ (f : JFrame) (acts : List Action), f.method = m → f.locked = none → f.entered = [] → (doReturn e (T.setTop f) acts (some (.long z))).1 = T.setFrames fs) : Steps p.tables e below (T.setTop (mkF m pc Ls (.long z :: rest))) (T.setFrames fs) := by
  have hm' : T.vm.method? m = some meth := X.method'
  have hn : narrow .long (.long z) = .long z := rfl
  show Steps p.tables e below (T.setTop { method := m, pc := pc, locals := Ls, stack := _ :: rest, locked := none }) _
  jvm_step X.here [X.here.top, hx, hd, hm', hret, hn]
  first | (intro acts; rw [hl _ acts rfl rfl rfl]) | rw [hl _ _ rfl rfl rfl]
  exact Steps.refl _
theorem own_retA (X : Stand p l e R s m args below meth c T locs cells slots) (hx : p.tables.exec = Jvm.exec) {pc : Nat} {Ls : Array Slot} {w : Value} {t : FieldType} {rest : List Value} (hret : meth.sig.returnType = some t) (ht : t.isReference = true) (hw : w.isRef = true) (hd : decode c.code pc = .ok (.areturn, 1)) {fs : List Frame}
    (hl : ∀ (f : JFrame) (acts : List Action), f.method = m → f.locked = none → f.entered = [] → (doReturn e (T.setTop f) acts (some w)).1 = T.setFrames fs) : Steps p.tables e below (T.setTop (mkF m pc Ls (w :: rest))) (T.setFrames fs) :=
  retOut X hx hret (by cases t <;> first | (cases ht; done) | (cases w <;> first | rfl | (cases hw; done))) (Or.inr (Or.inr (Or.inr (Or.inr ⟨rfl, ht, hw⟩)))) hd hl
/-- the run from S ends, returned, as Q says -/
def OwnR (p : Program) (e : Env) (below : List Frame) (s : State) (Q : Option Value → Heap → List Loc → Prop) (kc ks : Nat) (S : State) : Prop :=
  ∃ s₂ o, Steps p.tables e below S s₂ ∧ s₂.status = .running ∧ Ended s₂ below o ∧ ∃ v L, o = .returned v ∧ Q v s₂.heap L ∧ FrameEnd s o s₂ L kc ks
theorem OwnR.of {Q : Option Value → Heap → List Loc → Prop} {kc ks : Nat} {S S' : State} (k : ∀ t, Steps p.tables e below S' t → Steps p.tables e below S t) (h : OwnR p e below s Q kc ks S') : OwnR p e below s Q kc ks S := by
  obtain ⟨a, o, h1, h2⟩ := h
  exact ⟨a, o, k a h1, h2⟩
theorem own_leafI (X : Stand p l e R s m args below meth c T locs cells slots) (hx : p.tables.exec = Jvm.exec) (hlk : meth.locks = false) (hret : meth.sig.returnType = some .int) {Q : Option Value → Heap → List Loc → Prop} {kc ks pc : Nat} {Ls : Array Slot} {z : Int32} {rest : List Value} (hd : decode c.code pc = .ok (.ireturn, 1)) (hk : cells ≤ kc) (hs : slots ≤ ks) (hQ : Q (some (.int z)) T.heap locs) :
    OwnR p e below s Q kc ks (T.setTop (mkF m pc Ls (.int z :: rest))) := by
  obtain ⟨fs, hr, hrun, hended, hW, hsame⟩ := X.leave (v := some (.int z)) (fun h => by rw [hret] at h; cases h) hlk
  exact ⟨_, _, own_retI X hx hret hd hr, hrun, hended, _, _, rfl, hQ, ⟨_, rfl⟩, hW, hsame.mono hk hs⟩
theorem own_leafN (X : Stand p l e R s m args below meth c T locs cells slots) (hx : p.tables.exec = Jvm.exec) (hlk : meth.locks = false) {t : FieldType} (hret : meth.sig.returnType = some t) (ht : t = .boolean ∨ t = .byte ∨ t = .char ∨ t = .short) {Q : Option Value → Heap → List Loc → Prop} {kc ks pc : Nat} {Ls : Array Slot} {z z' : Int32} {rest : List Value} (hd : decode c.code pc = .ok (.ireturn, 1)) (hz : nar t z = z') (hk : cells ≤ kc) (hs : slots ≤ ks) (hQ : Q (some (.int z')) T.heap locs) :
    OwnR p e below s Q kc ks (T.setTop (mkF m pc Ls (.int z :: rest))) := by
  subst hz
  obtain ⟨fs, hr, hrun, hended, hW, hsame⟩ := X.leave (v := some (.int (nar t z))) (fun h => by rw [hret] at h; cases h) hlk
  exact ⟨_, _, retN X hx hret ht hd hr, hrun, hended, _, _, rfl, hQ, ⟨_, rfl⟩, hW, hsame.mono hk hs⟩
theorem own_leafJ (X : Stand p l e R s m args below meth c T locs cells slots) (hx : p.tables.exec = Jvm.exec) (hlk : meth.locks = false) (hret : meth.sig.returnType = some .long) {Q : Option Value → Heap → List Loc → Prop} {kc ks pc : Nat} {Ls : Array Slot} {z : Int64} {rest : List Value} (hd : decode c.code pc = .ok (.lreturn, 1)) (hk : cells ≤ kc) (hs : slots ≤ ks) (hQ : Q (some (.long z)) T.heap locs) :
    OwnR p e below s Q kc ks (T.setTop (mkF m pc Ls (.long z :: rest))) := by
  obtain ⟨fs, hr, hrun, hended, hW, hsame⟩ := X.leave (v := some (.long z)) (fun h => by rw [hret] at h; cases h) hlk
  exact ⟨_, _, own_retJ X hx hret hd hr, hrun, hended, _, _, rfl, hQ, ⟨_, rfl⟩, hW, hsame.mono hk hs⟩
theorem own_leafA (X : Stand p l e R s m args below meth c T locs cells slots) (hx : p.tables.exec = Jvm.exec) (hlk : meth.locks = false) {t : FieldType} (hret : meth.sig.returnType = some t) (ht : t.isReference = true) {Q : Option Value → Heap → List Loc → Prop} {kc ks pc : Nat} {Ls : Array Slot} {w : Value} (hw : w.isRef = true) {rest : List Value} (hd : decode c.code pc = .ok (.areturn, 1)) (hk : cells ≤ kc) (hs : slots ≤ ks) (hQ : Q (some w) T.heap locs) :
    OwnR p e below s Q kc ks (T.setTop (mkF m pc Ls (w :: rest))) := by
  obtain ⟨fs, hr, hrun, hended, hW, hsame⟩ := X.leave (v := some w) (fun h => by rw [hret] at h; cases h) hlk
  exact ⟨_, _, own_retA X hx hret ht hw hd hr, hrun, hended, _, _, rfl, hQ, ⟨_, rfl⟩, hW, hsame.mono hk hs⟩
theorem own_leafV (X : Stand p l e R s m args below meth c T locs cells slots) (hx : p.tables.exec = Jvm.exec) (hlk : meth.locks = false) (hret : meth.sig.returnType = none) {Q : Option Value → Heap → List Loc → Prop} {kc ks pc : Nat} {Ls : Array Slot} (hd : decode c.code pc = .ok (.return_, 1)) (hk : cells ≤ kc) (hs : slots ≤ ks) (hQ : Q none T.heap locs) :
    OwnR p e below s Q kc ks (T.setTop (mkF m pc Ls [])) := by
  obtain ⟨fs, hr, hrun, hended, hW, hsame⟩ := X.leave (v := none) (fun _ => rfl) hlk
  exact ⟨_, _, X.returnOut hx hret hd hr, hrun, hended, _, _, rfl, hQ, ⟨_, rfl⟩, hW, hsame.mono hk hs⟩
theorem own_sta {Z : State} {h h' : Heap} {C n d : String} {v : Value} (F : Sta Z h C n d v) (K : Keep h h' []) : Sta Z h' C n d v := by
  obtain ⟨cf, i, k, f, st, cell, h1, h2, h3, h4, h5, r⟩ := F
  exact ⟨cf, i, k, f, st, cell, h1, h2, h3, h4, K.2.1 _ _ h5 nin0, r⟩
theorem own_arr {Z : State} {h h' : Heap} {a : Addr} {c : Cell} {ty : FieldType} {ws : List Addr} (A : Arr Z h a c ty) (K : Keep h h' ws) (q : a ∉ ws) : Arr Z h' a c ty := ⟨K.2.1 _ _ A.1 q, A.2⟩
theorem own_lclt (a b : Int64) : lcmpW a b < 0 ↔ a < b := by
  obtain ⟨h1, h2, h3⟩ := c_lcmp a b
  have e1 := @Int64.lt_iff_toInt_lt a b
  have e2 := @Int32.lt_iff_toInt_lt (lcmpW a b) 0
  have e0 : (0 : Int32).toInt = 0 := by decide
  rw [e1, e2, e0]; omega
theorem own_lcgt (a b : Int64) : 0 < lcmpW a b ↔ b < a := by
  obtain ⟨h1, h2, h3⟩ := c_lcmp a b
  have e1 := @Int64.lt_iff_toInt_lt b a
  have e2 := @Int32.lt_iff_toInt_lt 0 (lcmpW a b)
  have e0 : (0 : Int32).toInt = 0 := by decide
  rw [e1, e2, e0]; omega
theorem own_lceq (a b : Int64) : lcmpW a b = 0 ↔ a = b := by
  obtain ⟨h1, h2, h3⟩ := c_lcmp a b
  have e0 : (0 : Int32).toInt = 0 := by decide
  rw [← Int64.toInt_inj, ← Int32.toInt_inj, e0]; omega
end OwnKit
theorem own_mod (x y : Int32) (hy : 0 < y.toInt) : 0 ≤ ((x &&& 2147483647) % y).toInt ∧ ((x &&& 2147483647) % y).toInt < y.toInt := by
  have h := (c_and x 2147483647 (by decide)).1
  have q := (c_iremV (x &&& 2147483647) y).1 h hy
  exact ⟨q.1, q.2.1⟩
theorem own_eqi {args : Array Value} {Z : State} {t : Jvm.Term} {k : Int32} (h : (Jvm.Cond.eq t (Jvm.Term.int k)).value args Z none Z [] = some true) : t.eval args Z none [] Z = some (.int k) := by
  cases ht : t.eval args Z none [] Z with
  | none => simp [Jvm.Cond.value, ht] at h
  | some v => cases v <;> simp [Jvm.Cond.value, ht, Jvm.Term.eval] at h ⊢ <;> first | exact h | exact h.symm
theorem own_eql {args : Array Value} {Z : State} {t : Jvm.Term} {k : Int64} (h : (Jvm.Cond.eq t (Jvm.Term.long k)).value args Z none Z [] = some true) : t.eval args Z none [] Z = some (.long k) := by
  cases ht : t.eval args Z none [] Z with
  | none => simp [Jvm.Cond.value, ht] at h
  | some v => cases v <;> simp [Jvm.Cond.value, ht, Jvm.Term.eval] at h ⊢ <;> first | exact h | exact h.symm
theorem own_eqr {args : Array Value} {Z : State} {t u : Jvm.Term} {b : Addr} (h : (Jvm.Cond.eq t u).value args Z none Z [] = some true) (hu : u.eval args Z none [] Z = some (.ref b)) : t.eval args Z none [] Z = some (.ref b) := by
  cases ht : t.eval args Z none [] Z with
  | none => simp [Jvm.Cond.value, ht] at h
  | some v => cases v <;> simp [Jvm.Cond.value, ht, hu] at h ⊢ <;> first | exact h | exact h.symm
theorem own_len {args : Array Value} {Z : State} {t : Jvm.Term} {a : Addr} {c : Cell} {ty : FieldType} {k : Int32} (ev : t.eval args Z none [] Z = some (.ref a)) (A : Arr Z Z.heap a c ty) (h : (Jvm.Cond.eq (Jvm.Term.length t) (Jvm.Term.int k)).value args Z none Z [] = some true) : c.slots.size < 2 ^ 31 ∧ c.slots.size.toInt32 = k := by
  have q := own_eqi h
  have hA := Arr.fin (Vm.Alike.refl _) A
  by_cases hl : c.slots.size < 2 ^ 31
  · rw [len_f ev hA hl] at q
    exact ⟨hl, Value.int.inj (Option.some.inj q)⟩
  · simp [Jvm.Term.eval, ev, hA, hl] at q
def own_fb (c f : Int32) : Int32 := (c <<< ((4 : Int32) &&& 31)) ||| (if f = (-1 : Int32) then 0 else f)
theorem own_fifteen (x : Int32) : (x &&& 2147483647) % 15 = 0 ∨ (x &&& 2147483647) % 15 = 1 ∨ (x &&& 2147483647) % 15 = 2 ∨ (x &&& 2147483647) % 15 = 3 ∨ (x &&& 2147483647) % 15 = 4 ∨ (x &&& 2147483647) % 15 = 5 ∨ (x &&& 2147483647) % 15 = 6 ∨ (x &&& 2147483647) % 15 = 7 ∨ (x &&& 2147483647) % 15 = 8 ∨ (x &&& 2147483647) % 15 = 9 ∨ (x &&& 2147483647) % 15 = 10 ∨ (x &&& 2147483647) % 15 = 11 ∨ (x &&& 2147483647) % 15 = 12 ∨ (x &&& 2147483647) % 15 = 13 ∨ (x &&& 2147483647) % 15 = 14 := by
  obtain ⟨h1, h2⟩ := own_mod x 15 (by decide)
  have e : (15 : Int32).toInt = 15 := by decide
  rw [e] at h2
  have e0 : (0 : Int32).toInt = 0 := by decide
  have e1 : (1 : Int32).toInt = 1 := by decide
  have e2 : (2 : Int32).toInt = 2 := by decide
  have e3 : (3 : Int32).toInt = 3 := by decide
  have e4 : (4 : Int32).toInt = 4 := by decide
  have e5 : (5 : Int32).toInt = 5 := by decide
  have e6 : (6 : Int32).toInt = 6 := by decide
  have e7 : (7 : Int32).toInt = 7 := by decide
  have e8 : (8 : Int32).toInt = 8 := by decide
  have e9 : (9 : Int32).toInt = 9 := by decide
  have e10 : (10 : Int32).toInt = 10 := by decide
  have e11 : (11 : Int32).toInt = 11 := by decide
  have e12 : (12 : Int32).toInt = 12 := by decide
  have e13 : (13 : Int32).toInt = 13 := by decide
  have e14 : (14 : Int32).toInt = 14 := by decide
  simp only [← Int32.toInt_inj, e0, e1, e2, e3, e4, e5, e6, e7, e8, e9, e10, e11, e12, e13, e14]
  omega
theorem pn_com_example_kurir_kurir_codec_PacketType : plainName "com/example/kurir/kurir/codec/PacketType" = true := by first | (simp [plainName, overriddenIn]; done) | decide +kernel
theorem ef_rm1 (m : MethodId) (x0 : Addr) : entryFrame m #[(.ref x0)] 1 = mkF m 0 #[.val (.ref x0)] [] := by first | (simp [entryFrame, mkF, argsToLocals, Value.category]; done) | rfl
theorem d1_0 : decode prog_56_method_7_code 0 = .ok (.aload_n 0, 1) := by decide +kernel
theorem d1_1 : decode prog_56_method_7_code 1 = .ok (.getfield 68, 3) := by decide +kernel
theorem d1_4 : decode prog_56_method_7_code 4 = .ok (.iconst 4, 1) := by decide +kernel
theorem d1_5 : decode prog_56_method_7_code 5 = .ok (.ishl, 1) := by decide +kernel
theorem d1_6 : decode prog_56_method_7_code 6 = .ok (.aload_n 0, 1) := by decide +kernel
theorem d1_7 : decode prog_56_method_7_code 7 = .ok (.getfield 72, 3) := by decide +kernel
theorem d1_10 : decode prog_56_method_7_code 10 = .ok (.iconst (-1), 1) := by decide +kernel
theorem d1_11 : decode prog_56_method_7_code 11 = .ok (.if_icmp .ne 7, 3) := by decide +kernel
theorem d1_14 : decode prog_56_method_7_code 14 = .ok (.iconst 0, 1) := by decide +kernel
theorem d1_15 : decode prog_56_method_7_code 15 = .ok (.goto 7, 3) := by decide +kernel
theorem d1_22 : decode prog_56_method_7_code 22 = .ok (.ior, 1) := by decide +kernel
theorem d1_23 : decode prog_56_method_7_code 23 = .ok (.ireturn, 1) := by decide +kernel
theorem d1_18 : decode prog_56_method_7_code 18 = .ok (.aload_n 0, 1) := by decide +kernel
theorem d1_19 : decode prog_56_method_7_code 19 = .ok (.getfield 72, 3) := by decide +kernel
def Q1 (Z : State) (x1 : Int32) (x2 : Int32) (h0 : Heap) (n0 : Nat) (v : Option Value) (h : Heap) (L : List Loc) : Prop := v = some (.int (own_fb x1 x2)) ∧ Fr n0 L ∧ h = h0
set_option maxRecDepth 65536 in
set_option maxHeartbeats 40000000 in
theorem rm1 (l : Launch) (Z : State) (a0 : Array Value) (hw : ∀ d ∈ tables_1, d.before a0 Z = true) (ws : List Jvm.Cond) (a1 : Addr) (x1 x2 : Int32) (h0 : Heap) (n0 : Nat) (Z0 : n0 ≤ h0.size) (E_a1 : Exa Z h0 a1 "com/example/kurir/kurir/codec/PacketType") (F_code_a1 : Fld Z h0 a1 "com/example/kurir/kurir/codec/PacketType" "code" "I" (.int x1)) (F_flags_a1 : Fld Z h0 a1 "com/example/kurir/kurir/codec/PacketType" "flags" "I" (.int x2)) :
    MetFree l (⟨"com/example/kurir/kurir/codec/PacketType", "firstByte", "()I"⟩ : MethodName) (head1 (Jvm.Cond.code (⟨"com/example/kurir/kurir/codec/PacketType", "firstByte", "()I"⟩ : MethodName) prog_56_method_7_code 1 (some .int) :: ws) ({ frames := 0, cells := 0, slots := 0, locals := 0 } : Room)) (fun a U => a = #[(.ref a1)] ∧ Z.Warmed39 U.vm ∧ U.heap = h0) (fun _ _ _ _ _ => True) (fun _ U o U' => ∃ v L, o = .returned v ∧ Q1 Z x1 x2 h0 n0 v U'.heap L ∧ FrameEnd U o U' L ({ frames := 0, cells := 0, slots := 0, locals := 0 } : Room).cells ({ frames := 0, cells := 0, slots := 0, locals := 0 } : Room).slots) := by
  refine MetFree.of_bodySF (plainFor_of_name pn_com_example_kurir_kurir_codec_PacketType) hisR ?_
  intro p e s m args below meth c s₁ Bd hml0 hP hK
  obtain ⟨rfl, hZ, hh⟩ := hP
  have hx := Bd.exec
  have hby := Bd.bytes
  have hlk := BodyLoose.notSynchronized Bd
  have hml : c.maxLocals = 1 := hml0
  have hown : s.vm.findClass "com/example/kurir/kurir/codec/PacketType" = some m.cls := findClass_of_methodNamed Bd.named
  have hnm := (name_of_methodNamed Bd.named Bd.method).1
  have X0 : Stand p l e ({ frames := 0, cells := 0, slots := 0, locals := 0 } : Room) s m #[(.ref a1)] below meth c s₁ [] 0 0 := Stand.of_body Bd
  have e0 : s₁.heap = h0 := by rw [← hh, Bd.state]; rfl
  have N0 := Fr.nil n0
  refine OwnR.of (s := s) (Q := Q1 Z x1 x2 h0 n0) (fun t k => castTop (ef_rm1 m a1) k) ?_
  show OwnR _ _ _ _ _ _ _ (s₁.setTop (mkF m 0 #[.val (.ref a1)] []))
  refine OwnR.of (fun _ hr => XS.aloadN X0.here hx rfl (hb hby d1_0) rfl rfl hr) ?_
  show OwnR _ _ _ _ _ _ _ (s₁.setTop (mkF m 1 #[.val (.ref a1)] [(.ref a1)]))
  obtain ⟨T1, X1, e1, st1⟩ := getF X0 hx hZ hown (host := "") (Or.inl (hw _ (List.mem_of_getElem? (i := 41) rfl))) Via.refl e0 F_code_a1 (g := (mkF m 1 #[.val (.ref a1)] [(.ref a1)])) rfl rfl (hb hby d1_1)
  refine OwnR.of (st1) ?_
  show OwnR _ _ _ _ _ _ _ (T1.setTop (mkF m 4 #[.val (.ref a1)] [(.int x1)]))
  refine OwnR.of (fun _ hr => XS.iconst X1.here hx rfl (hb hby d1_4) hr) ?_
  show OwnR _ _ _ _ _ _ _ (T1.setTop (mkF m 5 #[.val (.ref a1)] [(.int (4 : Int32)), (.int x1)]))
  refine OwnR.of (fun _ hr => XS.ishl X1.here hx rfl (hb hby d1_5) rfl hr) ?_
  show OwnR _ _ _ _ _ _ _ (T1.setTop (mkF m 6 #[.val (.ref a1)] [(.int (x1 <<< ((4 : Int32) &&& 31)))]))
  refine OwnR.of (fun _ hr => XS.aloadN X1.here hx rfl (hb hby d1_6) rfl rfl hr) ?_
  show OwnR _ _ _ _ _ _ _ (T1.setTop (mkF m 7 #[.val (.ref a1)] [(.ref a1), (.int (x1 <<< ((4 : Int32) &&& 31)))]))
  obtain ⟨T2, X2, e2, st2⟩ := getF X1 hx hZ hown (host := "") (Or.inl (hw _ (List.mem_of_getElem? (i := 43) rfl))) Via.refl e1 F_flags_a1 (g := (mkF m 7 #[.val (.ref a1)] [(.ref a1), (.int (x1 <<< ((4 : Int32) &&& 31)))])) rfl rfl (hb hby d1_7)
  refine OwnR.of (st2) ?_
  show OwnR _ _ _ _ _ _ _ (T2.setTop (mkF m 10 #[.val (.ref a1)] [(.int x2), (.int (x1 <<< ((4 : Int32) &&& 31)))]))
  refine OwnR.of (fun _ hr => XS.iconst X2.here hx rfl (hb hby d1_10) hr) ?_
  show OwnR _ _ _ _ _ _ _ (T2.setTop (mkF m 11 #[.val (.ref a1)] [(.int (-1 : Int32)), (.int x2), (.int (x1 <<< ((4 : Int32) &&& 31)))]))
  by_cases hc11_3 : x2 = (-1 : Int32)
  · skip
    refine OwnR.of (fun _ hr => XS.icmpNo X2.here hx rfl (hb hby d1_11) rfl (teq hc11_3).2 hr) ?_
    show OwnR _ _ _ _ _ _ _ (T2.setTop (mkF m 14 #[.val (.ref a1)] [(.int (x1 <<< ((4 : Int32) &&& 31)))]))
    refine OwnR.of (fun _ hr => XS.iconst X2.here hx rfl (hb hby d1_14) hr) ?_
    show OwnR _ _ _ _ _ _ _ (T2.setTop (mkF m 15 #[.val (.ref a1)] [(.int (0 : Int32)), (.int (x1 <<< ((4 : Int32) &&& 31)))]))
    refine OwnR.of (fun _ hr => XS.goto X2.here hx rfl (pc0 := 15) (pc' := 22) rfl (hb hby d1_15) (by decide) (by decide) hr) ?_
    show OwnR _ _ _ _ _ _ _ (T2.setTop (mkF m 22 #[.val (.ref a1)] [(.int (0 : Int32)), (.int (x1 <<< ((4 : Int32) &&& 31)))]))
    refine OwnR.of (fun _ hr => XS.ior X2.here hx rfl (hb hby d1_22) rfl hr) ?_
    show OwnR _ _ _ _ _ _ _ (T2.setTop (mkF m 23 #[.val (.ref a1)] [(.int ((x1 <<< ((4 : Int32) &&& 31)) ||| (0 : Int32)))]))
    refine own_leafI X2 hx hlk Bd.returns (hb hby d1_23) (by decide) (by decide) ?_
    show Q1 Z x1 x2 h0 n0 _ T2.heap _
    rw [show T2.heap = h0 from e2]
    refine ⟨?_, N0, rfl⟩
    show (some (.int ((x1 <<< ((4 : Int32) &&& 31)) ||| (0 : Int32))) : Option Value) = some (.int (own_fb x1 x2))
    simp only [own_fb, if_pos hc11_3]
  · skip
    refine OwnR.of (fun _ hr => XS.icmpYes X2.here hx rfl (pc0 := 11) (pc' := 18) rfl (hb hby d1_11) rfl (feq hc11_3).2 (by decide) (by decide) hr) ?_
    show OwnR _ _ _ _ _ _ _ (T2.setTop (mkF m 18 #[.val (.ref a1)] [(.int (x1 <<< ((4 : Int32) &&& 31)))]))
    refine OwnR.of (fun _ hr => XS.aloadN X2.here hx rfl (hb hby d1_18) rfl rfl hr) ?_
    show OwnR _ _ _ _ _ _ _ (T2.setTop (mkF m 19 #[.val (.ref a1)] [(.ref a1), (.int (x1 <<< ((4 : Int32) &&& 31)))]))
    obtain ⟨T4, X4, e4, st4⟩ := getF X2 hx hZ hown (host := "") (Or.inl (hw _ (List.mem_of_getElem? (i := 43) rfl))) Via.refl e2 F_flags_a1 (g := (mkF m 19 #[.val (.ref a1)] [(.ref a1), (.int (x1 <<< ((4 : Int32) &&& 31)))])) rfl rfl (hb hby d1_19)
    refine OwnR.of (st4) ?_
    show OwnR _ _ _ _ _ _ _ (T4.setTop (mkF m 22 #[.val (.ref a1)] [(.int x2), (.int (x1 <<< ((4 : Int32) &&& 31)))]))
    refine OwnR.of (fun _ hr => XS.ior X4.here hx rfl (hb hby d1_22) rfl hr) ?_
    show OwnR _ _ _ _ _ _ _ (T4.setTop (mkF m 23 #[.val (.ref a1)] [(.int ((x1 <<< ((4 : Int32) &&& 31)) ||| x2))]))
    refine own_leafI X4 hx hlk Bd.returns (hb hby d1_23) (by decide) (by decide) ?_
    show Q1 Z x1 x2 h0 n0 _ T4.heap _
    rw [show T4.heap = h0 from e4]
    refine ⟨?_, N0, rfl⟩
    show (some (.int ((x1 <<< ((4 : Int32) &&& 31)) ||| x2)) : Option Value) = some (.int (own_fb x1 x2))
    simp only [own_fb, if_neg hc11_3]
theorem ef_rm2_0 (m : MethodId) (x1 : Addr) : entryFrame m #[(.int (16 : Int32)), (.ref x1)] 3 = mkF m 0 #[.val (.int (16 : Int32)), .val (.ref x1), .unset] [] := by first | (simp [entryFrame, mkF, argsToLocals, Value.category]; done) | rfl
theorem d2_0 : decode prog_56_method_4_code 0 = .ok (.getstatic 75, 3) := by decide +kernel
theorem d2_3 : decode prog_56_method_4_code 3 = .ok (.iload_n 0, 1) := by decide +kernel
theorem d2_4 : decode prog_56_method_4_code 4 = .ok (.iconst 4, 1) := by decide +kernel
theorem d2_5 : decode prog_56_method_4_code 5 = .ok (.iushr, 1) := by decide +kernel
theorem d2_6 : decode prog_56_method_4_code 6 = .ok (.aaload, 1) := by decide +kernel
theorem d2_7 : decode prog_56_method_4_code 7 = .ok (.astore_n 2, 1) := by decide +kernel
theorem d2_8 : decode prog_56_method_4_code 8 = .ok (.aload_n 2, 1) := by decide +kernel
theorem d2_9 : decode prog_56_method_4_code 9 = .ok (.ifnull 17, 3) := by decide +kernel
theorem d2_12 : decode prog_56_method_4_code 12 = .ok (.aload_n 2, 1) := by decide +kernel
theorem d2_13 : decode prog_56_method_4_code 13 = .ok (.getstatic 46, 3) := by decide +kernel
theorem d2_16 : decode prog_56_method_4_code 16 = .ok (.if_acmp .ne 26, 3) := by decide +kernel
theorem d2_42 : decode prog_56_method_4_code 42 = .ok (.aload_n 2, 1) := by decide +kernel
theorem d2_43 : decode prog_56_method_4_code 43 = .ok (.areturn, 1) := by decide +kernel
def Q2_0 (Z : State) (s_CONNECT : Addr) (h0 : Heap) (n0 : Nat) (v : Option Value) (h : Heap) (L : List Loc) : Prop := v = some (.ref s_CONNECT) ∧ Fr n0 L ∧ h = h0
set_option maxRecDepth 65536 in
set_option maxHeartbeats 40000000 in
theorem rm2_0 (l : Launch) (Z : State) (a0 : Array Value) (hw : ∀ d ∈ tables_1, d.before a0 Z = true) (ws : List Jvm.Cond) (a2 : Addr) (sb : Addr) (kb : ClassId) (s_CONNECT s_CONNACK s_PUBLISH s_PUBACK s_PUBREC s_PUBREL s_PUBCOMP s_SUBSCRIBE s_SUBACK s_UNSUBSCRIBE s_UNSUBACK s_PINGREQ s_PINGRESP s_DISCONNECT s_AUTH : Addr) (s_V3 : Addr) (h0 : Heap) (n0 : Nat) (Z0 : n0 ≤ h0.size) (S_BY : Sta Z h0 "com/example/kurir/kurir/codec/PacketType" "BY_CODE" "[Lcom/example/kurir/kurir/codec/PacketType;" (.ref sb)) (V_sb : Arv Z h0 sb kb (.object "com/example/kurir/kurir/codec/PacketType") (16 : Int32) [.null, (.ref s_CONNECT), (.ref s_CONNACK), (.ref s_PUBLISH), (.ref s_PUBACK), (.ref s_PUBREC), (.ref s_PUBREL), (.ref s_PUBCOMP), (.ref s_SUBSCRIBE), (.ref s_SUBACK), (.ref s_UNSUBSCRIBE), (.ref s_UNSUBACK), (.ref s_PINGREQ), (.ref s_PINGRESP), (.ref s_DISCONNECT), (.ref s_AUTH)] .null) (S_AUTH : Sta Z h0 "com/example/kurir/kurir/codec/PacketType" "AUTH" "Lcom/example/kurir/kurir/codec/PacketType;" (.ref s_AUTH)) (S_V3 : Sta Z h0 "com/example/kurir/kurir/codec/ProtocolVersion" "MQTT_3_1_1" "Lcom/example/kurir/kurir/codec/ProtocolVersion;" (.ref s_V3)) (hne : s_CONNECT ≠ s_AUTH) :
    MetFree l (⟨"com/example/kurir/kurir/codec/PacketType", "of", "(ILcom/example/kurir/kurir/codec/ProtocolVersion;)Lcom/example/kurir/kurir/codec/PacketType;"⟩ : MethodName) (head1 (Jvm.Cond.code (⟨"com/example/kurir/kurir/codec/PacketType", "of", "(ILcom/example/kurir/kurir/codec/ProtocolVersion;)Lcom/example/kurir/kurir/codec/PacketType;"⟩ : MethodName) prog_56_method_4_code 3 (some (.object "com/example/kurir/kurir/codec/PacketType")) :: ws) ({ frames := 0, cells := 0, slots := 0, locals := 0 } : Room)) (fun a U => a = #[(.int (16 : Int32)), (.ref a2)] ∧ Z.Warmed39 U.vm ∧ U.heap = h0) (fun _ _ _ _ _ => True) (fun _ U o U' => ∃ v L, o = .returned v ∧ Q2_0 Z s_CONNECT h0 n0 v U'.heap L ∧ FrameEnd U o U' L ({ frames := 0, cells := 0, slots := 0, locals := 0 } : Room).cells ({ frames := 0, cells := 0, slots := 0, locals := 0 } : Room).slots) := by
  refine MetFree.of_bodySF (plainFor_of_name pn_com_example_kurir_kurir_codec_PacketType) hisR ?_
  intro p e s m args below meth c s₁ Bd hml0 hP hK
  obtain ⟨rfl, hZ, hh⟩ := hP
  have hx := Bd.exec
  have hby := Bd.bytes
  have hlk := BodyLoose.notSynchronized Bd
  have hml : c.maxLocals = 3 := hml0
  have hown : s.vm.findClass "com/example/kurir/kurir/codec/PacketType" = some m.cls := findClass_of_methodNamed Bd.named
  have hnm := (name_of_methodNamed Bd.named Bd.method).1
  have X0 : Stand p l e ({ frames := 0, cells := 0, slots := 0, locals := 0 } : Room) s m #[(.int (16 : Int32)), (.ref a2)] below meth c s₁ [] 0 0 := Stand.of_body Bd
  have e0 : s₁.heap = h0 := by rw [← hh, Bd.state]; rfl
  have N0 := Fr.nil n0
  refine OwnR.of (s := s) (Q := Q2_0 Z s_CONNECT h0 n0) (fun t k => castTop (ef_rm2_0 m a2) k) ?_
  show OwnR _ _ _ _ _ _ _ (s₁.setTop (mkF m 0 #[.val (.int (16 : Int32)), .val (.ref a2), .unset] []))
  obtain ⟨T1, X1, e1, st1⟩ := getS2 X0 hx hZ hown (host := "") (Or.inl (hw _ (List.mem_of_getElem? (i := 51) rfl))) Via.refl e0 S_BY (g := (mkF m 0 #[.val (.int (16 : Int32)), .val (.ref a2), .unset] [])) rfl (hb hby d2_0)
  refine OwnR.of (st1) ?_
  show OwnR _ _ _ _ _ _ _ (T1.setTop (mkF m 3 #[.val (.int (16 : Int32)), .val (.ref a2), .unset] [(.ref sb)]))
  refine OwnR.of (fun _ hr => XS.iloadN X1.here hx rfl (hb hby d2_3) rfl hr) ?_
  show OwnR _ _ _ _ _ _ _ (T1.setTop (mkF m 4 #[.val (.int (16 : Int32)), .val (.ref a2), .unset] [(.int (16 : Int32)), (.ref sb)]))
  refine OwnR.of (fun _ hr => XS.iconst X1.here hx rfl (hb hby d2_4) hr) ?_
  show OwnR _ _ _ _ _ _ _ (T1.setTop (mkF m 5 #[.val (.int (16 : Int32)), .val (.ref a2), .unset] [(.int (4 : Int32)), (.int (16 : Int32)), (.ref sb)]))
  refine OwnR.of (fun _ hr => XS.iushr X1.here hx rfl (hb hby d2_5) rfl hr) ?_
  show OwnR _ _ _ _ _ _ _ (T1.setTop (mkF m 6 #[.val (.int (16 : Int32)), .val (.ref a2), .unset] [(.int (((16 : Int32).toUInt32 >>> ((4 : Int32) &&& 31).toUInt32).toInt32)), (.ref sb)]))
  rw [(by decide : (((16 : Int32).toUInt32 >>> ((4 : Int32) &&& 31).toUInt32).toInt32) = (1 : Int32))]
  show OwnR _ _ _ _ _ _ _ (T1.setTop (mkF m 6 #[.val (.int (16 : Int32)), .val (.ref a2), .unset] [(.int (1 : Int32)), (.ref sb)]))
  obtain ⟨cl2, Ar2, -, S2, N2, H2, G2⟩ := id V_sb
  have hin2 : ¬ ((1 : Int32) < 0 ∨ cl2.slots.size ≤ ((1 : Int32)).toNatClampNeg) := (inb_of S2 ⟨by decide, by decide⟩)
  refine OwnR.of (X1.aaload hx (j := (1 : Int32)) (v := (.ref s_CONNECT)) (by rw [e1]; exact Ar2.1) (State.isArrayOf_alike hZ.alike Ar2.2.1) rfl Ar2.2.2 hin2 (Has.at H2 hin2 rfl) (g := (mkF m 6 #[.val (.int (16 : Int32)), .val (.ref a2), .unset] [(.int (1 : Int32)), (.ref sb)])) rfl rfl (hb hby d2_6)) ?_
  show OwnR _ _ _ _ _ _ _ (T1.setTop (mkF m 7 #[.val (.int (16 : Int32)), .val (.ref a2), .unset] [(.ref s_CONNECT)]))
  refine OwnR.of (fun _ hr => XS.astoreN X1.here hx rfl (hb hby d2_7) rfl rfl (l' := #[.val (.int (16 : Int32)), .val (.ref a2), .val (.ref s_CONNECT)]) rfl hr) ?_
  show OwnR _ _ _ _ _ _ _ (T1.setTop (mkF m 8 #[.val (.int (16 : Int32)), .val (.ref a2), .val (.ref s_CONNECT)] []))
  refine OwnR.of (fun _ hr => XS.aloadN X1.here hx rfl (hb hby d2_8) rfl rfl hr) ?_
  show OwnR _ _ _ _ _ _ _ (T1.setTop (mkF m 9 #[.val (.int (16 : Int32)), .val (.ref a2), .val (.ref s_CONNECT)] [(.ref s_CONNECT)]))
  refine OwnR.of (fun _ hr => XS.ifnullNo X1.here hx rfl (hb hby d2_9) rfl hr) ?_
  show OwnR _ _ _ _ _ _ _ (T1.setTop (mkF m 12 #[.val (.int (16 : Int32)), .val (.ref a2), .val (.ref s_CONNECT)] []))
  refine OwnR.of (fun _ hr => XS.aloadN X1.here hx rfl (hb hby d2_12) rfl rfl hr) ?_
  show OwnR _ _ _ _ _ _ _ (T1.setTop (mkF m 13 #[.val (.int (16 : Int32)), .val (.ref a2), .val (.ref s_CONNECT)] [(.ref s_CONNECT)]))
  obtain ⟨T3, X3, e3, st3⟩ := getS2 X1 hx hZ hown (host := "") (Or.inl (hw _ (List.mem_of_getElem? (i := 53) rfl))) Via.refl e1 S_AUTH (g := (mkF m 13 #[.val (.int (16 : Int32)), .val (.ref a2), .val (.ref s_CONNECT)] [(.ref s_CONNECT)])) rfl (hb hby d2_13)
  refine OwnR.of (st3) ?_
  show OwnR _ _ _ _ _ _ _ (T3.setTop (mkF m 16 #[.val (.int (16 : Int32)), .val (.ref a2), .val (.ref s_CONNECT)] [(.ref s_AUTH), (.ref s_CONNECT)]))
  refine OwnR.of (fun _ hr => Jvm.RoadKit.acmp (g := (mkF m 16 #[.val (.int (16 : Int32)), .val (.ref a2), .val (.ref s_CONNECT)] [(.ref s_AUTH), (.ref s_CONNECT)])) X3 hx rfl rfl rfl (pc0 := 16) (pc' := 42) (same := false) rfl (hb hby d2_16) rfl (decide_eq_false fun q => hne (Value.ref.inj q)) (by decide) (by decide) hr) ?_
  show OwnR _ _ _ _ _ _ _ (T3.setTop (mkF m 42 #[.val (.int (16 : Int32)), .val (.ref a2), .val (.ref s_CONNECT)] []))
  refine OwnR.of (fun _ hr => XS.aloadN X3.here hx rfl (hb hby d2_42) rfl rfl hr) ?_
  show OwnR _ _ _ _ _ _ _ (T3.setTop (mkF m 43 #[.val (.int (16 : Int32)), .val (.ref a2), .val (.ref s_CONNECT)] [(.ref s_CONNECT)]))
  refine own_leafA X3 hx hlk Bd.returns rfl rfl (hb hby d2_43) (by decide) (by decide) ?_
  show Q2_0 Z s_CONNECT h0 n0 _ T3.heap _
  rw [show T3.heap = h0 from e3]
  refine ⟨?_, N0, rfl⟩
  show (some (.ref s_CONNECT) : Option Value) = some (.ref s_CONNECT)
  rfl
theorem ef_rm2_1 (m : MethodId) (x1 : Addr) : entryFrame m #[(.int (32 : Int32)), (.ref x1)] 3 = mkF m 0 #[.val (.int (32 : Int32)), .val (.ref x1), .unset] [] := by first | (simp [entryFrame, mkF, argsToLocals, Value.category]; done) | rfl
def Q2_1 (Z : State) (s_CONNACK : Addr) (h0 : Heap) (n0 : Nat) (v : Option Value) (h : Heap) (L : List Loc) : Prop := v = some (.ref s_CONNACK) ∧ Fr n0 L ∧ h = h0
set_option maxRecDepth 65536 in
set_option maxHeartbeats 40000000 in
theorem rm2_1 (l : Launch) (Z : State) (a0 : Array Value) (hw : ∀ d ∈ tables_1, d.before a0 Z = true) (ws : List Jvm.Cond) (a2 : Addr) (sb : Addr) (kb : ClassId) (s_CONNECT s_CONNACK s_PUBLISH s_PUBACK s_PUBREC s_PUBREL s_PUBCOMP s_SUBSCRIBE s_SUBACK s_UNSUBSCRIBE s_UNSUBACK s_PINGREQ s_PINGRESP s_DISCONNECT s_AUTH : Addr) (s_V3 : Addr) (h0 : Heap) (n0 : Nat) (Z0 : n0 ≤ h0.size) (S_BY : Sta Z h0 "com/example/kurir/kurir/codec/PacketType" "BY_CODE" "[Lcom/example/kurir/kurir/codec/PacketType;" (.ref sb)) (V_sb : Arv Z h0 sb kb (.object "com/example/kurir/kurir/codec/PacketType") (16 : Int32) [.null, (.ref s_CONNECT), (.ref s_CONNACK), (.ref s_PUBLISH), (.ref s_PUBACK), (.ref s_PUBREC), (.ref s_PUBREL), (.ref s_PUBCOMP), (.ref s_SUBSCRIBE), (.ref s_SUBACK), (.ref s_UNSUBSCRIBE), (.ref s_UNSUBACK), (.ref s_PINGREQ), (.ref s_PINGRESP), (.ref s_DISCONNECT), (.ref s_AUTH)] .null) (S_AUTH : Sta Z h0 "com/example/kurir/kurir/codec/PacketType" "AUTH" "Lcom/example/kurir/kurir/codec/PacketType;" (.ref s_AUTH)) (S_V3 : Sta Z h0 "com/example/kurir/kurir/codec/ProtocolVersion" "MQTT_3_1_1" "Lcom/example/kurir/kurir/codec/ProtocolVersion;" (.ref s_V3)) (hne : s_CONNACK ≠ s_AUTH) :
    MetFree l (⟨"com/example/kurir/kurir/codec/PacketType", "of", "(ILcom/example/kurir/kurir/codec/ProtocolVersion;)Lcom/example/kurir/kurir/codec/PacketType;"⟩ : MethodName) (head1 (Jvm.Cond.code (⟨"com/example/kurir/kurir/codec/PacketType", "of", "(ILcom/example/kurir/kurir/codec/ProtocolVersion;)Lcom/example/kurir/kurir/codec/PacketType;"⟩ : MethodName) prog_56_method_4_code 3 (some (.object "com/example/kurir/kurir/codec/PacketType")) :: ws) ({ frames := 0, cells := 0, slots := 0, locals := 0 } : Room)) (fun a U => a = #[(.int (32 : Int32)), (.ref a2)] ∧ Z.Warmed39 U.vm ∧ U.heap = h0) (fun _ _ _ _ _ => True) (fun _ U o U' => ∃ v L, o = .returned v ∧ Q2_1 Z s_CONNACK h0 n0 v U'.heap L ∧ FrameEnd U o U' L ({ frames := 0, cells := 0, slots := 0, locals := 0 } : Room).cells ({ frames := 0, cells := 0, slots := 0, locals := 0 } : Room).slots) := by
  refine MetFree.of_bodySF (plainFor_of_name pn_com_example_kurir_kurir_codec_PacketType) hisR ?_
  intro p e s m args below meth c s₁ Bd hml0 hP hK
  obtain ⟨rfl, hZ, hh⟩ := hP
  have hx := Bd.exec
  have hby := Bd.bytes
  have hlk := BodyLoose.notSynchronized Bd
  have hml : c.maxLocals = 3 := hml0
  have hown : s.vm.findClass "com/example/kurir/kurir/codec/PacketType" = some m.cls := findClass_of_methodNamed Bd.named
  have hnm := (name_of_methodNamed Bd.named Bd.method).1
  have X0 : Stand p l e ({ frames := 0, cells := 0, slots := 0, locals := 0 } : Room) s m #[(.int (32 : Int32)), (.ref a2)] below meth c s₁ [] 0 0 := Stand.of_body Bd
  have e0 : s₁.heap = h0 := by rw [← hh, Bd.state]; rfl
  have N0 := Fr.nil n0
  refine OwnR.of (s := s) (Q := Q2_1 Z s_CONNACK h0 n0) (fun t k => castTop (ef_rm2_1 m a2) k) ?_
  show OwnR _ _ _ _ _ _ _ (s₁.setTop (mkF m 0 #[.val (.int (32 : Int32)), .val (.ref a2), .unset] []))
  obtain ⟨T1, X1, e1, st1⟩ := getS2 X0 hx hZ hown (host := "") (Or.inl (hw _ (List.mem_of_getElem? (i := 51) rfl))) Via.refl e0 S_BY (g := (mkF m 0 #[.val (.int (32 : Int32)), .val (.ref a2), .unset] [])) rfl (hb hby d2_0)
  refine OwnR.of (st1) ?_
  show OwnR _ _ _ _ _ _ _ (T1.setTop (mkF m 3 #[.val (.int (32 : Int32)), .val (.ref a2), .unset] [(.ref sb)]))
  refine OwnR.of (fun _ hr => XS.iloadN X1.here hx rfl (hb hby d2_3) rfl hr) ?_
  show OwnR _ _ _ _ _ _ _ (T1.setTop (mkF m 4 #[.val (.int (32 : Int32)), .val (.ref a2), .unset] [(.int (32 : Int32)), (.ref sb)]))
  refine OwnR.of (fun _ hr => XS.iconst X1.here hx rfl (hb hby d2_4) hr) ?_
  show OwnR _ _ _ _ _ _ _ (T1.setTop (mkF m 5 #[.val (.int (32 : Int32)), .val (.ref a2), .unset] [(.int (4 : Int32)), (.int (32 : Int32)), (.ref sb)]))
  refine OwnR.of (fun _ hr => XS.iushr X1.here hx rfl (hb hby d2_5) rfl hr) ?_
  show OwnR _ _ _ _ _ _ _ (T1.setTop (mkF m 6 #[.val (.int (32 : Int32)), .val (.ref a2), .unset] [(.int (((32 : Int32).toUInt32 >>> ((4 : Int32) &&& 31).toUInt32).toInt32)), (.ref sb)]))
  rw [(by decide : (((32 : Int32).toUInt32 >>> ((4 : Int32) &&& 31).toUInt32).toInt32) = (2 : Int32))]
  show OwnR _ _ _ _ _ _ _ (T1.setTop (mkF m 6 #[.val (.int (32 : Int32)), .val (.ref a2), .unset] [(.int (2 : Int32)), (.ref sb)]))
  obtain ⟨cl2, Ar2, -, S2, N2, H2, G2⟩ := id V_sb
  have hin2 : ¬ ((2 : Int32) < 0 ∨ cl2.slots.size ≤ ((2 : Int32)).toNatClampNeg) := (inb_of S2 ⟨by decide, by decide⟩)
  refine OwnR.of (X1.aaload hx (j := (2 : Int32)) (v := (.ref s_CONNACK)) (by rw [e1]; exact Ar2.1) (State.isArrayOf_alike hZ.alike Ar2.2.1) rfl Ar2.2.2 hin2 (Has.at H2 hin2 rfl) (g := (mkF m 6 #[.val (.int (32 : Int32)), .val (.ref a2), .unset] [(.int (2 : Int32)), (.ref sb)])) rfl rfl (hb hby d2_6)) ?_
  show OwnR _ _ _ _ _ _ _ (T1.setTop (mkF m 7 #[.val (.int (32 : Int32)), .val (.ref a2), .unset] [(.ref s_CONNACK)]))
  refine OwnR.of (fun _ hr => XS.astoreN X1.here hx rfl (hb hby d2_7) rfl rfl (l' := #[.val (.int (32 : Int32)), .val (.ref a2), .val (.ref s_CONNACK)]) rfl hr) ?_
  show OwnR _ _ _ _ _ _ _ (T1.setTop (mkF m 8 #[.val (.int (32 : Int32)), .val (.ref a2), .val (.ref s_CONNACK)] []))
  refine OwnR.of (fun _ hr => XS.aloadN X1.here hx rfl (hb hby d2_8) rfl rfl hr) ?_
  show OwnR _ _ _ _ _ _ _ (T1.setTop (mkF m 9 #[.val (.int (32 : Int32)), .val (.ref a2), .val (.ref s_CONNACK)] [(.ref s_CONNACK)]))
  refine OwnR.of (fun _ hr => XS.ifnullNo X1.here hx rfl (hb hby d2_9) rfl hr) ?_
  show OwnR _ _ _ _ _ _ _ (T1.setTop (mkF m 12 #[.val (.int (32 : Int32)), .val (.ref a2), .val (.ref s_CONNACK)] []))
  refine OwnR.of (fun _ hr => XS.aloadN X1.here hx rfl (hb hby d2_12) rfl rfl hr) ?_
  show OwnR _ _ _ _ _ _ _ (T1.setTop (mkF m 13 #[.val (.int (32 : Int32)), .val (.ref a2), .val (.ref s_CONNACK)] [(.ref s_CONNACK)]))
  obtain ⟨T3, X3, e3, st3⟩ := getS2 X1 hx hZ hown (host := "") (Or.inl (hw _ (List.mem_of_getElem? (i := 53) rfl))) Via.refl e1 S_AUTH (g := (mkF m 13 #[.val (.int (32 : Int32)), .val (.ref a2), .val (.ref s_CONNACK)] [(.ref s_CONNACK)])) rfl (hb hby d2_13)
  refine OwnR.of (st3) ?_
  show OwnR _ _ _ _ _ _ _ (T3.setTop (mkF m 16 #[.val (.int (32 : Int32)), .val (.ref a2), .val (.ref s_CONNACK)] [(.ref s_AUTH), (.ref s_CONNACK)]))
  refine OwnR.of (fun _ hr => Jvm.RoadKit.acmp (g := (mkF m 16 #[.val (.int (32 : Int32)), .val (.ref a2), .val (.ref s_CONNACK)] [(.ref s_AUTH), (.ref s_CONNACK)])) X3 hx rfl rfl rfl (pc0 := 16) (pc' := 42) (same := false) rfl (hb hby d2_16) rfl (decide_eq_false fun q => hne (Value.ref.inj q)) (by decide) (by decide) hr) ?_
  show OwnR _ _ _ _ _ _ _ (T3.setTop (mkF m 42 #[.val (.int (32 : Int32)), .val (.ref a2), .val (.ref s_CONNACK)] []))
  refine OwnR.of (fun _ hr => XS.aloadN X3.here hx rfl (hb hby d2_42) rfl rfl hr) ?_
  show OwnR _ _ _ _ _ _ _ (T3.setTop (mkF m 43 #[.val (.int (32 : Int32)), .val (.ref a2), .val (.ref s_CONNACK)] [(.ref s_CONNACK)]))
  refine own_leafA X3 hx hlk Bd.returns rfl rfl (hb hby d2_43) (by decide) (by decide) ?_
  show Q2_1 Z s_CONNACK h0 n0 _ T3.heap _
  rw [show T3.heap = h0 from e3]
  refine ⟨?_, N0, rfl⟩
  show (some (.ref s_CONNACK) : Option Value) = some (.ref s_CONNACK)
  rfl
theorem ef_rm2_2 (m : MethodId) (x1 : Addr) : entryFrame m #[(.int (48 : Int32)), (.ref x1)] 3 = mkF m 0 #[.val (.int (48 : Int32)), .val (.ref x1), .unset] [] := by first | (simp [entryFrame, mkF, argsToLocals, Value.category]; done) | rfl
def Q2_2 (Z : State) (s_PUBLISH : Addr) (h0 : Heap) (n0 : Nat) (v : Option Value) (h : Heap) (L : List Loc) : Prop := v = some (.ref s_PUBLISH) ∧ Fr n0 L ∧ h = h0
set_option maxRecDepth 65536 in
set_option maxHeartbeats 40000000 in
theorem rm2_2 (l : Launch) (Z : State) (a0 : Array Value) (hw : ∀ d ∈ tables_1, d.before a0 Z = true) (ws : List Jvm.Cond) (a2 : Addr) (sb : Addr) (kb : ClassId) (s_CONNECT s_CONNACK s_PUBLISH s_PUBACK s_PUBREC s_PUBREL s_PUBCOMP s_SUBSCRIBE s_SUBACK s_UNSUBSCRIBE s_UNSUBACK s_PINGREQ s_PINGRESP s_DISCONNECT s_AUTH : Addr) (s_V3 : Addr) (h0 : Heap) (n0 : Nat) (Z0 : n0 ≤ h0.size) (S_BY : Sta Z h0 "com/example/kurir/kurir/codec/PacketType" "BY_CODE" "[Lcom/example/kurir/kurir/codec/PacketType;" (.ref sb)) (V_sb : Arv Z h0 sb kb (.object "com/example/kurir/kurir/codec/PacketType") (16 : Int32) [.null, (.ref s_CONNECT), (.ref s_CONNACK), (.ref s_PUBLISH), (.ref s_PUBACK), (.ref s_PUBREC), (.ref s_PUBREL), (.ref s_PUBCOMP), (.ref s_SUBSCRIBE), (.ref s_SUBACK), (.ref s_UNSUBSCRIBE), (.ref s_UNSUBACK), (.ref s_PINGREQ), (.ref s_PINGRESP), (.ref s_DISCONNECT), (.ref s_AUTH)] .null) (S_AUTH : Sta Z h0 "com/example/kurir/kurir/codec/PacketType" "AUTH" "Lcom/example/kurir/kurir/codec/PacketType;" (.ref s_AUTH)) (S_V3 : Sta Z h0 "com/example/kurir/kurir/codec/ProtocolVersion" "MQTT_3_1_1" "Lcom/example/kurir/kurir/codec/ProtocolVersion;" (.ref s_V3)) (hne : s_PUBLISH ≠ s_AUTH) :
    MetFree l (⟨"com/example/kurir/kurir/codec/PacketType", "of", "(ILcom/example/kurir/kurir/codec/ProtocolVersion;)Lcom/example/kurir/kurir/codec/PacketType;"⟩ : MethodName) (head1 (Jvm.Cond.code (⟨"com/example/kurir/kurir/codec/PacketType", "of", "(ILcom/example/kurir/kurir/codec/ProtocolVersion;)Lcom/example/kurir/kurir/codec/PacketType;"⟩ : MethodName) prog_56_method_4_code 3 (some (.object "com/example/kurir/kurir/codec/PacketType")) :: ws) ({ frames := 0, cells := 0, slots := 0, locals := 0 } : Room)) (fun a U => a = #[(.int (48 : Int32)), (.ref a2)] ∧ Z.Warmed39 U.vm ∧ U.heap = h0) (fun _ _ _ _ _ => True) (fun _ U o U' => ∃ v L, o = .returned v ∧ Q2_2 Z s_PUBLISH h0 n0 v U'.heap L ∧ FrameEnd U o U' L ({ frames := 0, cells := 0, slots := 0, locals := 0 } : Room).cells ({ frames := 0, cells := 0, slots := 0, locals := 0 } : Room).slots) := by
  refine MetFree.of_bodySF (plainFor_of_name pn_com_example_kurir_kurir_codec_PacketType) hisR ?_
  intro p e s m args below meth c s₁ Bd hml0 hP hK
  obtain ⟨rfl, hZ, hh⟩ := hP
  have hx := Bd.exec
  have hby := Bd.bytes
  have hlk := BodyLoose.notSynchronized Bd
  have hml : c.maxLocals = 3 := hml0
  have hown : s.vm.findClass "com/example/kurir/kurir/codec/PacketType" = some m.cls := findClass_of_methodNamed Bd.named
  have hnm := (name_of_methodNamed Bd.named Bd.method).1
  have X0 : Stand p l e ({ frames := 0, cells := 0, slots := 0, locals := 0 } : Room) s m #[(.int (48 : Int32)), (.ref a2)] below meth c s₁ [] 0 0 := Stand.of_body Bd
  have e0 : s₁.heap = h0 := by rw [← hh, Bd.state]; rfl
  have N0 := Fr.nil n0
  refine OwnR.of (s := s) (Q := Q2_2 Z s_PUBLISH h0 n0) (fun t k => castTop (ef_rm2_2 m a2) k) ?_
  show OwnR _ _ _ _ _ _ _ (s₁.setTop (mkF m 0 #[.val (.int (48 : Int32)), .val (.ref a2), .unset] []))
  obtain ⟨T1, X1, e1, st1⟩ := getS2 X0 hx hZ hown (host := "") (Or.inl (hw _ (List.mem_of_getElem? (i := 51) rfl))) Via.refl e0 S_BY (g := (mkF m 0 #[.val (.int (48 : Int32)), .val (.ref a2), .unset] [])) rfl (hb hby d2_0)
  refine OwnR.of (st1) ?_
  show OwnR _ _ _ _ _ _ _ (T1.setTop (mkF m 3 #[.val (.int (48 : Int32)), .val (.ref a2), .unset] [(.ref sb)]))
  refine OwnR.of (fun _ hr => XS.iloadN X1.here hx rfl (hb hby d2_3) rfl hr) ?_
  show OwnR _ _ _ _ _ _ _ (T1.setTop (mkF m 4 #[.val (.int (48 : Int32)), .val (.ref a2), .unset] [(.int (48 : Int32)), (.ref sb)]))
  refine OwnR.of (fun _ hr => XS.iconst X1.here hx rfl (hb hby d2_4) hr) ?_
  show OwnR _ _ _ _ _ _ _ (T1.setTop (mkF m 5 #[.val (.int (48 : Int32)), .val (.ref a2), .unset] [(.int (4 : Int32)), (.int (48 : Int32)), (.ref sb)]))
  refine OwnR.of (fun _ hr => XS.iushr X1.here hx rfl (hb hby d2_5) rfl hr) ?_
  show OwnR _ _ _ _ _ _ _ (T1.setTop (mkF m 6 #[.val (.int (48 : Int32)), .val (.ref a2), .unset] [(.int (((48 : Int32).toUInt32 >>> ((4 : Int32) &&& 31).toUInt32).toInt32)), (.ref sb)]))
  rw [(by decide : (((48 : Int32).toUInt32 >>> ((4 : Int32) &&& 31).toUInt32).toInt32) = (3 : Int32))]
  show OwnR _ _ _ _ _ _ _ (T1.setTop (mkF m 6 #[.val (.int (48 : Int32)), .val (.ref a2), .unset] [(.int (3 : Int32)), (.ref sb)]))
  obtain ⟨cl2, Ar2, -, S2, N2, H2, G2⟩ := id V_sb
  have hin2 : ¬ ((3 : Int32) < 0 ∨ cl2.slots.size ≤ ((3 : Int32)).toNatClampNeg) := (inb_of S2 ⟨by decide, by decide⟩)
  refine OwnR.of (X1.aaload hx (j := (3 : Int32)) (v := (.ref s_PUBLISH)) (by rw [e1]; exact Ar2.1) (State.isArrayOf_alike hZ.alike Ar2.2.1) rfl Ar2.2.2 hin2 (Has.at H2 hin2 rfl) (g := (mkF m 6 #[.val (.int (48 : Int32)), .val (.ref a2), .unset] [(.int (3 : Int32)), (.ref sb)])) rfl rfl (hb hby d2_6)) ?_
  show OwnR _ _ _ _ _ _ _ (T1.setTop (mkF m 7 #[.val (.int (48 : Int32)), .val (.ref a2), .unset] [(.ref s_PUBLISH)]))
  refine OwnR.of (fun _ hr => XS.astoreN X1.here hx rfl (hb hby d2_7) rfl rfl (l' := #[.val (.int (48 : Int32)), .val (.ref a2), .val (.ref s_PUBLISH)]) rfl hr) ?_
  show OwnR _ _ _ _ _ _ _ (T1.setTop (mkF m 8 #[.val (.int (48 : Int32)), .val (.ref a2), .val (.ref s_PUBLISH)] []))
  refine OwnR.of (fun _ hr => XS.aloadN X1.here hx rfl (hb hby d2_8) rfl rfl hr) ?_
  show OwnR _ _ _ _ _ _ _ (T1.setTop (mkF m 9 #[.val (.int (48 : Int32)), .val (.ref a2), .val (.ref s_PUBLISH)] [(.ref s_PUBLISH)]))
  refine OwnR.of (fun _ hr => XS.ifnullNo X1.here hx rfl (hb hby d2_9) rfl hr) ?_
  show OwnR _ _ _ _ _ _ _ (T1.setTop (mkF m 12 #[.val (.int (48 : Int32)), .val (.ref a2), .val (.ref s_PUBLISH)] []))
  refine OwnR.of (fun _ hr => XS.aloadN X1.here hx rfl (hb hby d2_12) rfl rfl hr) ?_
  show OwnR _ _ _ _ _ _ _ (T1.setTop (mkF m 13 #[.val (.int (48 : Int32)), .val (.ref a2), .val (.ref s_PUBLISH)] [(.ref s_PUBLISH)]))
  obtain ⟨T3, X3, e3, st3⟩ := getS2 X1 hx hZ hown (host := "") (Or.inl (hw _ (List.mem_of_getElem? (i := 53) rfl))) Via.refl e1 S_AUTH (g := (mkF m 13 #[.val (.int (48 : Int32)), .val (.ref a2), .val (.ref s_PUBLISH)] [(.ref s_PUBLISH)])) rfl (hb hby d2_13)
  refine OwnR.of (st3) ?_
  show OwnR _ _ _ _ _ _ _ (T3.setTop (mkF m 16 #[.val (.int (48 : Int32)), .val (.ref a2), .val (.ref s_PUBLISH)] [(.ref s_AUTH), (.ref s_PUBLISH)]))
  refine OwnR.of (fun _ hr => Jvm.RoadKit.acmp (g := (mkF m 16 #[.val (.int (48 : Int32)), .val (.ref a2), .val (.ref s_PUBLISH)] [(.ref s_AUTH), (.ref s_PUBLISH)])) X3 hx rfl rfl rfl (pc0 := 16) (pc' := 42) (same := false) rfl (hb hby d2_16) rfl (decide_eq_false fun q => hne (Value.ref.inj q)) (by decide) (by decide) hr) ?_
  show OwnR _ _ _ _ _ _ _ (T3.setTop (mkF m 42 #[.val (.int (48 : Int32)), .val (.ref a2), .val (.ref s_PUBLISH)] []))
  refine OwnR.of (fun _ hr => XS.aloadN X3.here hx rfl (hb hby d2_42) rfl rfl hr) ?_
  show OwnR _ _ _ _ _ _ _ (T3.setTop (mkF m 43 #[.val (.int (48 : Int32)), .val (.ref a2), .val (.ref s_PUBLISH)] [(.ref s_PUBLISH)]))
  refine own_leafA X3 hx hlk Bd.returns rfl rfl (hb hby d2_43) (by decide) (by decide) ?_
  show Q2_2 Z s_PUBLISH h0 n0 _ T3.heap _
  rw [show T3.heap = h0 from e3]
  refine ⟨?_, N0, rfl⟩
  show (some (.ref s_PUBLISH) : Option Value) = some (.ref s_PUBLISH)
  rfl
theorem ef_rm2_3 (m : MethodId) (x1 : Addr) : entryFrame m #[(.int (64 : Int32)), (.ref x1)] 3 = mkF m 0 #[.val (.int (64 : Int32)), .val (.ref x1), .unset] [] := by first | (simp [entryFrame, mkF, argsToLocals, Value.category]; done) | rfl
def Q2_3 (Z : State) (s_PUBACK : Addr) (h0 : Heap) (n0 : Nat) (v : Option Value) (h : Heap) (L : List Loc) : Prop := v = some (.ref s_PUBACK) ∧ Fr n0 L ∧ h = h0
set_option maxRecDepth 65536 in
set_option maxHeartbeats 40000000 in
theorem rm2_3 (l : Launch) (Z : State) (a0 : Array Value) (hw : ∀ d ∈ tables_1, d.before a0 Z = true) (ws : List Jvm.Cond) (a2 : Addr) (sb : Addr) (kb : ClassId) (s_CONNECT s_CONNACK s_PUBLISH s_PUBACK s_PUBREC s_PUBREL s_PUBCOMP s_SUBSCRIBE s_SUBACK s_UNSUBSCRIBE s_UNSUBACK s_PINGREQ s_PINGRESP s_DISCONNECT s_AUTH : Addr) (s_V3 : Addr) (h0 : Heap) (n0 : Nat) (Z0 : n0 ≤ h0.size) (S_BY : Sta Z h0 "com/example/kurir/kurir/codec/PacketType" "BY_CODE" "[Lcom/example/kurir/kurir/codec/PacketType;" (.ref sb)) (V_sb : Arv Z h0 sb kb (.object "com/example/kurir/kurir/codec/PacketType") (16 : Int32) [.null, (.ref s_CONNECT), (.ref s_CONNACK), (.ref s_PUBLISH), (.ref s_PUBACK), (.ref s_PUBREC), (.ref s_PUBREL), (.ref s_PUBCOMP), (.ref s_SUBSCRIBE), (.ref s_SUBACK), (.ref s_UNSUBSCRIBE), (.ref s_UNSUBACK), (.ref s_PINGREQ), (.ref s_PINGRESP), (.ref s_DISCONNECT), (.ref s_AUTH)] .null) (S_AUTH : Sta Z h0 "com/example/kurir/kurir/codec/PacketType" "AUTH" "Lcom/example/kurir/kurir/codec/PacketType;" (.ref s_AUTH)) (S_V3 : Sta Z h0 "com/example/kurir/kurir/codec/ProtocolVersion" "MQTT_3_1_1" "Lcom/example/kurir/kurir/codec/ProtocolVersion;" (.ref s_V3)) (hne : s_PUBACK ≠ s_AUTH) :
    MetFree l (⟨"com/example/kurir/kurir/codec/PacketType", "of", "(ILcom/example/kurir/kurir/codec/ProtocolVersion;)Lcom/example/kurir/kurir/codec/PacketType;"⟩ : MethodName) (head1 (Jvm.Cond.code (⟨"com/example/kurir/kurir/codec/PacketType", "of", "(ILcom/example/kurir/kurir/codec/ProtocolVersion;)Lcom/example/kurir/kurir/codec/PacketType;"⟩ : MethodName) prog_56_method_4_code 3 (some (.object "com/example/kurir/kurir/codec/PacketType")) :: ws) ({ frames := 0, cells := 0, slots := 0, locals := 0 } : Room)) (fun a U => a = #[(.int (64 : Int32)), (.ref a2)] ∧ Z.Warmed39 U.vm ∧ U.heap = h0) (fun _ _ _ _ _ => True) (fun _ U o U' => ∃ v L, o = .returned v ∧ Q2_3 Z s_PUBACK h0 n0 v U'.heap L ∧ FrameEnd U o U' L ({ frames := 0, cells := 0, slots := 0, locals := 0 } : Room).cells ({ frames := 0, cells := 0, slots := 0, locals := 0 } : Room).slots) := by
  refine MetFree.of_bodySF (plainFor_of_name pn_com_example_kurir_kurir_codec_PacketType) hisR ?_
  intro p e s m args below meth c s₁ Bd hml0 hP hK
  obtain ⟨rfl, hZ, hh⟩ := hP
  have hx := Bd.exec
  have hby := Bd.bytes
  have hlk := BodyLoose.notSynchronized Bd
  have hml : c.maxLocals = 3 := hml0
  have hown : s.vm.findClass "com/example/kurir/kurir/codec/PacketType" = some m.cls := findClass_of_methodNamed Bd.named
  have hnm := (name_of_methodNamed Bd.named Bd.method).1
  have X0 : Stand p l e ({ frames := 0, cells := 0, slots := 0, locals := 0 } : Room) s m #[(.int (64 : Int32)), (.ref a2)] below meth c s₁ [] 0 0 := Stand.of_body Bd
  have e0 : s₁.heap = h0 := by rw [← hh, Bd.state]; rfl
  have N0 := Fr.nil n0
  refine OwnR.of (s := s) (Q := Q2_3 Z s_PUBACK h0 n0) (fun t k => castTop (ef_rm2_3 m a2) k) ?_
  show OwnR _ _ _ _ _ _ _ (s₁.setTop (mkF m 0 #[.val (.int (64 : Int32)), .val (.ref a2), .unset] []))
  obtain ⟨T1, X1, e1, st1⟩ := getS2 X0 hx hZ hown (host := "") (Or.inl (hw _ (List.mem_of_getElem? (i := 51) rfl))) Via.refl e0 S_BY (g := (mkF m 0 #[.val (.int (64 : Int32)), .val (.ref a2), .unset] [])) rfl (hb hby d2_0)
  refine OwnR.of (st1) ?_
  show OwnR _ _ _ _ _ _ _ (T1.setTop (mkF m 3 #[.val (.int (64 : Int32)), .val (.ref a2), .unset] [(.ref sb)]))
  refine OwnR.of (fun _ hr => XS.iloadN X1.here hx rfl (hb hby d2_3) rfl hr) ?_
  show OwnR _ _ _ _ _ _ _ (T1.setTop (mkF m 4 #[.val (.int (64 : Int32)), .val (.ref a2), .unset] [(.int (64 : Int32)), (.ref sb)]))
  refine OwnR.of (fun _ hr => XS.iconst X1.here hx rfl (hb hby d2_4) hr) ?_
  show OwnR _ _ _ _ _ _ _ (T1.setTop (mkF m 5 #[.val (.int (64 : Int32)), .val (.ref a2), .unset] [(.int (4 : Int32)), (.int (64 : Int32)), (.ref sb)]))
  refine OwnR.of (fun _ hr => XS.iushr X1.here hx rfl (hb hby d2_5) rfl hr) ?_
  show OwnR _ _ _ _ _ _ _ (T1.setTop (mkF m 6 #[.val (.int (64 : Int32)), .val (.ref a2), .unset] [(.int (((64 : Int32).toUInt32 >>> ((4 : Int32) &&& 31).toUInt32).toInt32)), (.ref sb)]))
  rw [(by decide : (((64 : Int32).toUInt32 >>> ((4 : Int32) &&& 31).toUInt32).toInt32) = (4 : Int32))]
  show OwnR _ _ _ _ _ _ _ (T1.setTop (mkF m 6 #[.val (.int (64 : Int32)), .val (.ref a2), .unset] [(.int (4 : Int32)), (.ref sb)]))
  obtain ⟨cl2, Ar2, -, S2, N2, H2, G2⟩ := id V_sb
  have hin2 : ¬ ((4 : Int32) < 0 ∨ cl2.slots.size ≤ ((4 : Int32)).toNatClampNeg) := (inb_of S2 ⟨by decide, by decide⟩)
  refine OwnR.of (X1.aaload hx (j := (4 : Int32)) (v := (.ref s_PUBACK)) (by rw [e1]; exact Ar2.1) (State.isArrayOf_alike hZ.alike Ar2.2.1) rfl Ar2.2.2 hin2 (Has.at H2 hin2 rfl) (g := (mkF m 6 #[.val (.int (64 : Int32)), .val (.ref a2), .unset] [(.int (4 : Int32)), (.ref sb)])) rfl rfl (hb hby d2_6)) ?_
  show OwnR _ _ _ _ _ _ _ (T1.setTop (mkF m 7 #[.val (.int (64 : Int32)), .val (.ref a2), .unset] [(.ref s_PUBACK)]))
  refine OwnR.of (fun _ hr => XS.astoreN X1.here hx rfl (hb hby d2_7) rfl rfl (l' := #[.val (.int (64 : Int32)), .val (.ref a2), .val (.ref s_PUBACK)]) rfl hr) ?_
  show OwnR _ _ _ _ _ _ _ (T1.setTop (mkF m 8 #[.val (.int (64 : Int32)), .val (.ref a2), .val (.ref s_PUBACK)] []))
  refine OwnR.of (fun _ hr => XS.aloadN X1.here hx rfl (hb hby d2_8) rfl rfl hr) ?_
  show OwnR _ _ _ _ _ _ _ (T1.setTop (mkF m 9 #[.val (.int (64 : Int32)), .val (.ref a2), .val (.ref s_PUBACK)] [(.ref s_PUBACK)]))
  refine OwnR.of (fun _ hr => XS.ifnullNo X1.here hx rfl (hb hby d2_9) rfl hr) ?_
  show OwnR _ _ _ _ _ _ _ (T1.setTop (mkF m 12 #[.val (.int (64 : Int32)), .val (.ref a2), .val (.ref s_PUBACK)] []))
  refine OwnR.of (fun _ hr => XS.aloadN X1.here hx rfl (hb hby d2_12) rfl rfl hr) ?_
  show OwnR _ _ _ _ _ _ _ (T1.setTop (mkF m 13 #[.val (.int (64 : Int32)), .val (.ref a2), .val (.ref s_PUBACK)] [(.ref s_PUBACK)]))
  obtain ⟨T3, X3, e3, st3⟩ := getS2 X1 hx hZ hown (host := "") (Or.inl (hw _ (List.mem_of_getElem? (i := 53) rfl))) Via.refl e1 S_AUTH (g := (mkF m 13 #[.val (.int (64 : Int32)), .val (.ref a2), .val (.ref s_PUBACK)] [(.ref s_PUBACK)])) rfl (hb hby d2_13)
  refine OwnR.of (st3) ?_
  show OwnR _ _ _ _ _ _ _ (T3.setTop (mkF m 16 #[.val (.int (64 : Int32)), .val (.ref a2), .val (.ref s_PUBACK)] [(.ref s_AUTH), (.ref s_PUBACK)]))
  refine OwnR.of (fun _ hr => Jvm.RoadKit.acmp (g := (mkF m 16 #[.val (.int (64 : Int32)), .val (.ref a2), .val (.ref s_PUBACK)] [(.ref s_AUTH), (.ref s_PUBACK)])) X3 hx rfl rfl rfl (pc0 := 16) (pc' := 42) (same := false) rfl (hb hby d2_16) rfl (decide_eq_false fun q => hne (Value.ref.inj q)) (by decide) (by decide) hr) ?_
  show OwnR _ _ _ _ _ _ _ (T3.setTop (mkF m 42 #[.val (.int (64 : Int32)), .val (.ref a2), .val (.ref s_PUBACK)] []))
  refine OwnR.of (fun _ hr => XS.aloadN X3.here hx rfl (hb hby d2_42) rfl rfl hr) ?_
  show OwnR _ _ _ _ _ _ _ (T3.setTop (mkF m 43 #[.val (.int (64 : Int32)), .val (.ref a2), .val (.ref s_PUBACK)] [(.ref s_PUBACK)]))
  refine own_leafA X3 hx hlk Bd.returns rfl rfl (hb hby d2_43) (by decide) (by decide) ?_
  show Q2_3 Z s_PUBACK h0 n0 _ T3.heap _
  rw [show T3.heap = h0 from e3]
  refine ⟨?_, N0, rfl⟩
  show (some (.ref s_PUBACK) : Option Value) = some (.ref s_PUBACK)
  rfl
theorem ef_rm2_4 (m : MethodId) (x1 : Addr) : entryFrame m #[(.int (80 : Int32)), (.ref x1)] 3 = mkF m 0 #[.val (.int (80 : Int32)), .val (.ref x1), .unset] [] := by first | (simp [entryFrame, mkF, argsToLocals, Value.category]; done) | rfl
def Q2_4 (Z : State) (s_PUBREC : Addr) (h0 : Heap) (n0 : Nat) (v : Option Value) (h : Heap) (L : List Loc) : Prop := v = some (.ref s_PUBREC) ∧ Fr n0 L ∧ h = h0
set_option maxRecDepth 65536 in
set_option maxHeartbeats 40000000 in
theorem rm2_4 (l : Launch) (Z : State) (a0 : Array Value) (hw : ∀ d ∈ tables_1, d.before a0 Z = true) (ws : List Jvm.Cond) (a2 : Addr) (sb : Addr) (kb : ClassId) (s_CONNECT s_CONNACK s_PUBLISH s_PUBACK s_PUBREC s_PUBREL s_PUBCOMP s_SUBSCRIBE s_SUBACK s_UNSUBSCRIBE s_UNSUBACK s_PINGREQ s_PINGRESP s_DISCONNECT s_AUTH : Addr) (s_V3 : Addr) (h0 : Heap) (n0 : Nat) (Z0 : n0 ≤ h0.size) (S_BY : Sta Z h0 "com/example/kurir/kurir/codec/PacketType" "BY_CODE" "[Lcom/example/kurir/kurir/codec/PacketType;" (.ref sb)) (V_sb : Arv Z h0 sb kb (.object "com/example/kurir/kurir/codec/PacketType") (16 : Int32) [.null, (.ref s_CONNECT), (.ref s_CONNACK), (.ref s_PUBLISH), (.ref s_PUBACK), (.ref s_PUBREC), (.ref s_PUBREL), (.ref s_PUBCOMP), (.ref s_SUBSCRIBE), (.ref s_SUBACK), (.ref s_UNSUBSCRIBE), (.ref s_UNSUBACK), (.ref s_PINGREQ), (.ref s_PINGRESP), (.ref s_DISCONNECT), (.ref s_AUTH)] .null) (S_AUTH : Sta Z h0 "com/example/kurir/kurir/codec/PacketType" "AUTH" "Lcom/example/kurir/kurir/codec/PacketType;" (.ref s_AUTH)) (S_V3 : Sta Z h0 "com/example/kurir/kurir/codec/ProtocolVersion" "MQTT_3_1_1" "Lcom/example/kurir/kurir/codec/ProtocolVersion;" (.ref s_V3)) (hne : s_PUBREC ≠ s_AUTH) :
    MetFree l (⟨"com/example/kurir/kurir/codec/PacketType", "of", "(ILcom/example/kurir/kurir/codec/ProtocolVersion;)Lcom/example/kurir/kurir/codec/PacketType;"⟩ : MethodName) (head1 (Jvm.Cond.code (⟨"com/example/kurir/kurir/codec/PacketType", "of", "(ILcom/example/kurir/kurir/codec/ProtocolVersion;)Lcom/example/kurir/kurir/codec/PacketType;"⟩ : MethodName) prog_56_method_4_code 3 (some (.object "com/example/kurir/kurir/codec/PacketType")) :: ws) ({ frames := 0, cells := 0, slots := 0, locals := 0 } : Room)) (fun a U => a = #[(.int (80 : Int32)), (.ref a2)] ∧ Z.Warmed39 U.vm ∧ U.heap = h0) (fun _ _ _ _ _ => True) (fun _ U o U' => ∃ v L, o = .returned v ∧ Q2_4 Z s_PUBREC h0 n0 v U'.heap L ∧ FrameEnd U o U' L ({ frames := 0, cells := 0, slots := 0, locals := 0 } : Room).cells ({ frames := 0, cells := 0, slots := 0, locals := 0 } : Room).slots) := by
  refine MetFree.of_bodySF (plainFor_of_name pn_com_example_kurir_kurir_codec_PacketType) hisR ?_
  intro p e s m args below meth c s₁ Bd hml0 hP hK
  obtain ⟨rfl, hZ, hh⟩ := hP
  have hx := Bd.exec
  have hby := Bd.bytes
  have hlk := BodyLoose.notSynchronized Bd
  have hml : c.maxLocals = 3 := hml0
  have hown : s.vm.findClass "com/example/kurir/kurir/codec/PacketType" = some m.cls := findClass_of_methodNamed Bd.named
  have hnm := (name_of_methodNamed Bd.named Bd.method).1
  have X0 : Stand p l e ({ frames := 0, cells := 0, slots := 0, locals := 0 } : Room) s m #[(.int (80 : Int32)), (.ref a2)] below meth c s₁ [] 0 0 := Stand.of_body Bd
  have e0 : s₁.heap = h0 := by rw [← hh, Bd.state]; rfl
  have N0 := Fr.nil n0
  refine OwnR.of (s := s) (Q := Q2_4 Z s_PUBREC h0 n0) (fun t k => castTop (ef_rm2_4 m a2) k) ?_
  show OwnR _ _ _ _ _ _ _ (s₁.setTop (mkF m 0 #[.val (.int (80 : Int32)), .val (.ref a2), .unset] []))
  obtain ⟨T1, X1, e1, st1⟩ := getS2 X0 hx hZ hown (host := "") (Or.inl (hw _ (List.mem_of_getElem? (i := 51) rfl))) Via.refl e0 S_BY (g := (mkF m 0 #[.val (.int (80 : Int32)), .val (.ref a2), .unset] [])) rfl (hb hby d2_0)
  refine OwnR.of (st1) ?_
  show OwnR _ _ _ _ _ _ _ (T1.setTop (mkF m 3 #[.val (.int (80 : Int32)), .val (.ref a2), .unset] [(.ref sb)]))
  refine OwnR.of (fun _ hr => XS.iloadN X1.here hx rfl (hb hby d2_3) rfl hr) ?_
  show OwnR _ _ _ _ _ _ _ (T1.setTop (mkF m 4 #[.val (.int (80 : Int32)), .val (.ref a2), .unset] [(.int (80 : Int32)), (.ref sb)]))
  refine OwnR.of (fun _ hr => XS.iconst X1.here hx rfl (hb hby d2_4) hr) ?_
  show OwnR _ _ _ _ _ _ _ (T1.setTop (mkF m 5 #[.val (.int (80 : Int32)), .val (.ref a2), .unset] [(.int (4 : Int32)), (.int (80 : Int32)), (.ref sb)]))
  refine OwnR.of (fun _ hr => XS.iushr X1.here hx rfl (hb hby d2_5) rfl hr) ?_
  show OwnR _ _ _ _ _ _ _ (T1.setTop (mkF m 6 #[.val (.int (80 : Int32)), .val (.ref a2), .unset] [(.int (((80 : Int32).toUInt32 >>> ((4 : Int32) &&& 31).toUInt32).toInt32)), (.ref sb)]))
  rw [(by decide : (((80 : Int32).toUInt32 >>> ((4 : Int32) &&& 31).toUInt32).toInt32) = (5 : Int32))]
  show OwnR _ _ _ _ _ _ _ (T1.setTop (mkF m 6 #[.val (.int (80 : Int32)), .val (.ref a2), .unset] [(.int (5 : Int32)), (.ref sb)]))
  obtain ⟨cl2, Ar2, -, S2, N2, H2, G2⟩ := id V_sb
  have hin2 : ¬ ((5 : Int32) < 0 ∨ cl2.slots.size ≤ ((5 : Int32)).toNatClampNeg) := (inb_of S2 ⟨by decide, by decide⟩)
  refine OwnR.of (X1.aaload hx (j := (5 : Int32)) (v := (.ref s_PUBREC)) (by rw [e1]; exact Ar2.1) (State.isArrayOf_alike hZ.alike Ar2.2.1) rfl Ar2.2.2 hin2 (Has.at H2 hin2 rfl) (g := (mkF m 6 #[.val (.int (80 : Int32)), .val (.ref a2), .unset] [(.int (5 : Int32)), (.ref sb)])) rfl rfl (hb hby d2_6)) ?_
  show OwnR _ _ _ _ _ _ _ (T1.setTop (mkF m 7 #[.val (.int (80 : Int32)), .val (.ref a2), .unset] [(.ref s_PUBREC)]))
  refine OwnR.of (fun _ hr => XS.astoreN X1.here hx rfl (hb hby d2_7) rfl rfl (l' := #[.val (.int (80 : Int32)), .val (.ref a2), .val (.ref s_PUBREC)]) rfl hr) ?_
  show OwnR _ _ _ _ _ _ _ (T1.setTop (mkF m 8 #[.val (.int (80 : Int32)), .val (.ref a2), .val (.ref s_PUBREC)] []))
  refine OwnR.of (fun _ hr => XS.aloadN X1.here hx rfl (hb hby d2_8) rfl rfl hr) ?_
  show OwnR _ _ _ _ _ _ _ (T1.setTop (mkF m 9 #[.val (.int (80 : Int32)), .val (.ref a2), .val (.ref s_PUBREC)] [(.ref s_PUBREC)]))
  refine OwnR.of (fun _ hr => XS.ifnullNo X1.here hx rfl (hb hby d2_9) rfl hr) ?_
  show OwnR _ _ _ _ _ _ _ (T1.setTop (mkF m 12 #[.val (.int (80 : Int32)), .val (.ref a2), .val (.ref s_PUBREC)] []))
  refine OwnR.of (fun _ hr => XS.aloadN X1.here hx rfl (hb hby d2_12) rfl rfl hr) ?_
  show OwnR _ _ _ _ _ _ _ (T1.setTop (mkF m 13 #[.val (.int (80 : Int32)), .val (.ref a2), .val (.ref s_PUBREC)] [(.ref s_PUBREC)]))
  obtain ⟨T3, X3, e3, st3⟩ := getS2 X1 hx hZ hown (host := "") (Or.inl (hw _ (List.mem_of_getElem? (i := 53) rfl))) Via.refl e1 S_AUTH (g := (mkF m 13 #[.val (.int (80 : Int32)), .val (.ref a2), .val (.ref s_PUBREC)] [(.ref s_PUBREC)])) rfl (hb hby d2_13)
  refine OwnR.of (st3) ?_
  show OwnR _ _ _ _ _ _ _ (T3.setTop (mkF m 16 #[.val (.int (80 : Int32)), .val (.ref a2), .val (.ref s_PUBREC)] [(.ref s_AUTH), (.ref s_PUBREC)]))
  refine OwnR.of (fun _ hr => Jvm.RoadKit.acmp (g := (mkF m 16 #[.val (.int (80 : Int32)), .val (.ref a2), .val (.ref s_PUBREC)] [(.ref s_AUTH), (.ref s_PUBREC)])) X3 hx rfl rfl rfl (pc0 := 16) (pc' := 42) (same := false) rfl (hb hby d2_16) rfl (decide_eq_false fun q => hne (Value.ref.inj q)) (by decide) (by decide) hr) ?_
  show OwnR _ _ _ _ _ _ _ (T3.setTop (mkF m 42 #[.val (.int (80 : Int32)), .val (.ref a2), .val (.ref s_PUBREC)] []))
  refine OwnR.of (fun _ hr => XS.aloadN X3.here hx rfl (hb hby d2_42) rfl rfl hr) ?_
  show OwnR _ _ _ _ _ _ _ (T3.setTop (mkF m 43 #[.val (.int (80 : Int32)), .val (.ref a2), .val (.ref s_PUBREC)] [(.ref s_PUBREC)]))
  refine own_leafA X3 hx hlk Bd.returns rfl rfl (hb hby d2_43) (by decide) (by decide) ?_
  show Q2_4 Z s_PUBREC h0 n0 _ T3.heap _
  rw [show T3.heap = h0 from e3]
  refine ⟨?_, N0, rfl⟩
  show (some (.ref s_PUBREC) : Option Value) = some (.ref s_PUBREC)
  rfl
theorem ef_rm2_5 (m : MethodId) (x1 : Addr) : entryFrame m #[(.int (98 : Int32)), (.ref x1)] 3 = mkF m 0 #[.val (.int (98 : Int32)), .val (.ref x1), .unset] [] := by first | (simp [entryFrame, mkF, argsToLocals, Value.category]; done) | rfl
def Q2_5 (Z : State) (s_PUBREL : Addr) (h0 : Heap) (n0 : Nat) (v : Option Value) (h : Heap) (L : List Loc) : Prop := v = some (.ref s_PUBREL) ∧ Fr n0 L ∧ h = h0
set_option maxRecDepth 65536 in
set_option maxHeartbeats 40000000 in
theorem rm2_5 (l : Launch) (Z : State) (a0 : Array Value) (hw : ∀ d ∈ tables_1, d.before a0 Z = true) (ws : List Jvm.Cond) (a2 : Addr) (sb : Addr) (kb : ClassId) (s_CONNECT s_CONNACK s_PUBLISH s_PUBACK s_PUBREC s_PUBREL s_PUBCOMP s_SUBSCRIBE s_SUBACK s_UNSUBSCRIBE s_UNSUBACK s_PINGREQ s_PINGRESP s_DISCONNECT s_AUTH : Addr) (s_V3 : Addr) (h0 : Heap) (n0 : Nat) (Z0 : n0 ≤ h0.size) (S_BY : Sta Z h0 "com/example/kurir/kurir/codec/PacketType" "BY_CODE" "[Lcom/example/kurir/kurir/codec/PacketType;" (.ref sb)) (V_sb : Arv Z h0 sb kb (.object "com/example/kurir/kurir/codec/PacketType") (16 : Int32) [.null, (.ref s_CONNECT), (.ref s_CONNACK), (.ref s_PUBLISH), (.ref s_PUBACK), (.ref s_PUBREC), (.ref s_PUBREL), (.ref s_PUBCOMP), (.ref s_SUBSCRIBE), (.ref s_SUBACK), (.ref s_UNSUBSCRIBE), (.ref s_UNSUBACK), (.ref s_PINGREQ), (.ref s_PINGRESP), (.ref s_DISCONNECT), (.ref s_AUTH)] .null) (S_AUTH : Sta Z h0 "com/example/kurir/kurir/codec/PacketType" "AUTH" "Lcom/example/kurir/kurir/codec/PacketType;" (.ref s_AUTH)) (S_V3 : Sta Z h0 "com/example/kurir/kurir/codec/ProtocolVersion" "MQTT_3_1_1" "Lcom/example/kurir/kurir/codec/ProtocolVersion;" (.ref s_V3)) (hne : s_PUBREL ≠ s_AUTH) :
    MetFree l (⟨"com/example/kurir/kurir/codec/PacketType", "of", "(ILcom/example/kurir/kurir/codec/ProtocolVersion;)Lcom/example/kurir/kurir/codec/PacketType;"⟩ : MethodName) (head1 (Jvm.Cond.code (⟨"com/example/kurir/kurir/codec/PacketType", "of", "(ILcom/example/kurir/kurir/codec/ProtocolVersion;)Lcom/example/kurir/kurir/codec/PacketType;"⟩ : MethodName) prog_56_method_4_code 3 (some (.object "com/example/kurir/kurir/codec/PacketType")) :: ws) ({ frames := 0, cells := 0, slots := 0, locals := 0 } : Room)) (fun a U => a = #[(.int (98 : Int32)), (.ref a2)] ∧ Z.Warmed39 U.vm ∧ U.heap = h0) (fun _ _ _ _ _ => True) (fun _ U o U' => ∃ v L, o = .returned v ∧ Q2_5 Z s_PUBREL h0 n0 v U'.heap L ∧ FrameEnd U o U' L ({ frames := 0, cells := 0, slots := 0, locals := 0 } : Room).cells ({ frames := 0, cells := 0, slots := 0, locals := 0 } : Room).slots) := by
  refine MetFree.of_bodySF (plainFor_of_name pn_com_example_kurir_kurir_codec_PacketType) hisR ?_
  intro p e s m args below meth c s₁ Bd hml0 hP hK
  obtain ⟨rfl, hZ, hh⟩ := hP
  have hx := Bd.exec
  have hby := Bd.bytes
  have hlk := BodyLoose.notSynchronized Bd
  have hml : c.maxLocals = 3 := hml0
  have hown : s.vm.findClass "com/example/kurir/kurir/codec/PacketType" = some m.cls := findClass_of_methodNamed Bd.named
  have hnm := (name_of_methodNamed Bd.named Bd.method).1
  have X0 : Stand p l e ({ frames := 0, cells := 0, slots := 0, locals := 0 } : Room) s m #[(.int (98 : Int32)), (.ref a2)] below meth c s₁ [] 0 0 := Stand.of_body Bd
  have e0 : s₁.heap = h0 := by rw [← hh, Bd.state]; rfl
  have N0 := Fr.nil n0
  refine OwnR.of (s := s) (Q := Q2_5 Z s_PUBREL h0 n0) (fun t k => castTop (ef_rm2_5 m a2) k) ?_
  show OwnR _ _ _ _ _ _ _ (s₁.setTop (mkF m 0 #[.val (.int (98 : Int32)), .val (.ref a2), .unset] []))
  obtain ⟨T1, X1, e1, st1⟩ := getS2 X0 hx hZ hown (host := "") (Or.inl (hw _ (List.mem_of_getElem? (i := 51) rfl))) Via.refl e0 S_BY (g := (mkF m 0 #[.val (.int (98 : Int32)), .val (.ref a2), .unset] [])) rfl (hb hby d2_0)
  refine OwnR.of (st1) ?_
  show OwnR _ _ _ _ _ _ _ (T1.setTop (mkF m 3 #[.val (.int (98 : Int32)), .val (.ref a2), .unset] [(.ref sb)]))
  refine OwnR.of (fun _ hr => XS.iloadN X1.here hx rfl (hb hby d2_3) rfl hr) ?_
  show OwnR _ _ _ _ _ _ _ (T1.setTop (mkF m 4 #[.val (.int (98 : Int32)), .val (.ref a2), .unset] [(.int (98 : Int32)), (.ref sb)]))
  refine OwnR.of (fun _ hr => XS.iconst X1.here hx rfl (hb hby d2_4) hr) ?_
  show OwnR _ _ _ _ _ _ _ (T1.setTop (mkF m 5 #[.val (.int (98 : Int32)), .val (.ref a2), .unset] [(.int (4 : Int32)), (.int (98 : Int32)), (.ref sb)]))
  refine OwnR.of (fun _ hr => XS.iushr X1.here hx rfl (hb hby d2_5) rfl hr) ?_
  show OwnR _ _ _ _ _ _ _ (T1.setTop (mkF m 6 #[.val (.int (98 : Int32)), .val (.ref a2), .unset] [(.int (((98 : Int32).toUInt32 >>> ((4 : Int32) &&& 31).toUInt32).toInt32)), (.ref sb)]))
  rw [(by decide : (((98 : Int32).toUInt32 >>> ((4 : Int32) &&& 31).toUInt32).toInt32) = (6 : Int32))]
  show OwnR _ _ _ _ _ _ _ (T1.setTop (mkF m 6 #[.val (.int (98 : Int32)), .val (.ref a2), .unset] [(.int (6 : Int32)), (.ref sb)]))
  obtain ⟨cl2, Ar2, -, S2, N2, H2, G2⟩ := id V_sb
  have hin2 : ¬ ((6 : Int32) < 0 ∨ cl2.slots.size ≤ ((6 : Int32)).toNatClampNeg) := (inb_of S2 ⟨by decide, by decide⟩)
  refine OwnR.of (X1.aaload hx (j := (6 : Int32)) (v := (.ref s_PUBREL)) (by rw [e1]; exact Ar2.1) (State.isArrayOf_alike hZ.alike Ar2.2.1) rfl Ar2.2.2 hin2 (Has.at H2 hin2 rfl) (g := (mkF m 6 #[.val (.int (98 : Int32)), .val (.ref a2), .unset] [(.int (6 : Int32)), (.ref sb)])) rfl rfl (hb hby d2_6)) ?_
  show OwnR _ _ _ _ _ _ _ (T1.setTop (mkF m 7 #[.val (.int (98 : Int32)), .val (.ref a2), .unset] [(.ref s_PUBREL)]))
  refine OwnR.of (fun _ hr => XS.astoreN X1.here hx rfl (hb hby d2_7) rfl rfl (l' := #[.val (.int (98 : Int32)), .val (.ref a2), .val (.ref s_PUBREL)]) rfl hr) ?_
  show OwnR _ _ _ _ _ _ _ (T1.setTop (mkF m 8 #[.val (.int (98 : Int32)), .val (.ref a2), .val (.ref s_PUBREL)] []))
  refine OwnR.of (fun _ hr => XS.aloadN X1.here hx rfl (hb hby d2_8) rfl rfl hr) ?_
  show OwnR _ _ _ _ _ _ _ (T1.setTop (mkF m 9 #[.val (.int (98 : Int32)), .val (.ref a2), .val (.ref s_PUBREL)] [(.ref s_PUBREL)]))
  refine OwnR.of (fun _ hr => XS.ifnullNo X1.here hx rfl (hb hby d2_9) rfl hr) ?_
  show OwnR _ _ _ _ _ _ _ (T1.setTop (mkF m 12 #[.val (.int (98 : Int32)), .val (.ref a2), .val (.ref s_PUBREL)] []))
  refine OwnR.of (fun _ hr => XS.aloadN X1.here hx rfl (hb hby d2_12) rfl rfl hr) ?_
  show OwnR _ _ _ _ _ _ _ (T1.setTop (mkF m 13 #[.val (.int (98 : Int32)), .val (.ref a2), .val (.ref s_PUBREL)] [(.ref s_PUBREL)]))
  obtain ⟨T3, X3, e3, st3⟩ := getS2 X1 hx hZ hown (host := "") (Or.inl (hw _ (List.mem_of_getElem? (i := 53) rfl))) Via.refl e1 S_AUTH (g := (mkF m 13 #[.val (.int (98 : Int32)), .val (.ref a2), .val (.ref s_PUBREL)] [(.ref s_PUBREL)])) rfl (hb hby d2_13)
  refine OwnR.of (st3) ?_
  show OwnR _ _ _ _ _ _ _ (T3.setTop (mkF m 16 #[.val (.int (98 : Int32)), .val (.ref a2), .val (.ref s_PUBREL)] [(.ref s_AUTH), (.ref s_PUBREL)]))
  refine OwnR.of (fun _ hr => Jvm.RoadKit.acmp (g := (mkF m 16 #[.val (.int (98 : Int32)), .val (.ref a2), .val (.ref s_PUBREL)] [(.ref s_AUTH), (.ref s_PUBREL)])) X3 hx rfl rfl rfl (pc0 := 16) (pc' := 42) (same := false) rfl (hb hby d2_16) rfl (decide_eq_false fun q => hne (Value.ref.inj q)) (by decide) (by decide) hr) ?_
  show OwnR _ _ _ _ _ _ _ (T3.setTop (mkF m 42 #[.val (.int (98 : Int32)), .val (.ref a2), .val (.ref s_PUBREL)] []))
  refine OwnR.of (fun _ hr => XS.aloadN X3.here hx rfl (hb hby d2_42) rfl rfl hr) ?_
  show OwnR _ _ _ _ _ _ _ (T3.setTop (mkF m 43 #[.val (.int (98 : Int32)), .val (.ref a2), .val (.ref s_PUBREL)] [(.ref s_PUBREL)]))
  refine own_leafA X3 hx hlk Bd.returns rfl rfl (hb hby d2_43) (by decide) (by decide) ?_
  show Q2_5 Z s_PUBREL h0 n0 _ T3.heap _
  rw [show T3.heap = h0 from e3]
  refine ⟨?_, N0, rfl⟩
  show (some (.ref s_PUBREL) : Option Value) = some (.ref s_PUBREL)
  rfl
theorem ef_rm2_6 (m : MethodId) (x1 : Addr) : entryFrame m #[(.int (112 : Int32)), (.ref x1)] 3 = mkF m 0 #[.val (.int (112 : Int32)), .val (.ref x1), .unset] [] := by first | (simp [entryFrame, mkF, argsToLocals, Value.category]; done) | rfl
def Q2_6 (Z : State) (s_PUBCOMP : Addr) (h0 : Heap) (n0 : Nat) (v : Option Value) (h : Heap) (L : List Loc) : Prop := v = some (.ref s_PUBCOMP) ∧ Fr n0 L ∧ h = h0
set_option maxRecDepth 65536 in
set_option maxHeartbeats 40000000 in
theorem rm2_6 (l : Launch) (Z : State) (a0 : Array Value) (hw : ∀ d ∈ tables_1, d.before a0 Z = true) (ws : List Jvm.Cond) (a2 : Addr) (sb : Addr) (kb : ClassId) (s_CONNECT s_CONNACK s_PUBLISH s_PUBACK s_PUBREC s_PUBREL s_PUBCOMP s_SUBSCRIBE s_SUBACK s_UNSUBSCRIBE s_UNSUBACK s_PINGREQ s_PINGRESP s_DISCONNECT s_AUTH : Addr) (s_V3 : Addr) (h0 : Heap) (n0 : Nat) (Z0 : n0 ≤ h0.size) (S_BY : Sta Z h0 "com/example/kurir/kurir/codec/PacketType" "BY_CODE" "[Lcom/example/kurir/kurir/codec/PacketType;" (.ref sb)) (V_sb : Arv Z h0 sb kb (.object "com/example/kurir/kurir/codec/PacketType") (16 : Int32) [.null, (.ref s_CONNECT), (.ref s_CONNACK), (.ref s_PUBLISH), (.ref s_PUBACK), (.ref s_PUBREC), (.ref s_PUBREL), (.ref s_PUBCOMP), (.ref s_SUBSCRIBE), (.ref s_SUBACK), (.ref s_UNSUBSCRIBE), (.ref s_UNSUBACK), (.ref s_PINGREQ), (.ref s_PINGRESP), (.ref s_DISCONNECT), (.ref s_AUTH)] .null) (S_AUTH : Sta Z h0 "com/example/kurir/kurir/codec/PacketType" "AUTH" "Lcom/example/kurir/kurir/codec/PacketType;" (.ref s_AUTH)) (S_V3 : Sta Z h0 "com/example/kurir/kurir/codec/ProtocolVersion" "MQTT_3_1_1" "Lcom/example/kurir/kurir/codec/ProtocolVersion;" (.ref s_V3)) (hne : s_PUBCOMP ≠ s_AUTH) :
    MetFree l (⟨"com/example/kurir/kurir/codec/PacketType", "of", "(ILcom/example/kurir/kurir/codec/ProtocolVersion;)Lcom/example/kurir/kurir/codec/PacketType;"⟩ : MethodName) (head1 (Jvm.Cond.code (⟨"com/example/kurir/kurir/codec/PacketType", "of", "(ILcom/example/kurir/kurir/codec/ProtocolVersion;)Lcom/example/kurir/kurir/codec/PacketType;"⟩ : MethodName) prog_56_method_4_code 3 (some (.object "com/example/kurir/kurir/codec/PacketType")) :: ws) ({ frames := 0, cells := 0, slots := 0, locals := 0 } : Room)) (fun a U => a = #[(.int (112 : Int32)), (.ref a2)] ∧ Z.Warmed39 U.vm ∧ U.heap = h0) (fun _ _ _ _ _ => True) (fun _ U o U' => ∃ v L, o = .returned v ∧ Q2_6 Z s_PUBCOMP h0 n0 v U'.heap L ∧ FrameEnd U o U' L ({ frames := 0, cells := 0, slots := 0, locals := 0 } : Room).cells ({ frames := 0, cells := 0, slots := 0, locals := 0 } : Room).slots) := by
  refine MetFree.of_bodySF (plainFor_of_name pn_com_example_kurir_kurir_codec_PacketType) hisR ?_
  intro p e s m args below meth c s₁ Bd hml0 hP hK
  obtain ⟨rfl, hZ, hh⟩ := hP
  have hx := Bd.exec
  have hby := Bd.bytes
  have hlk := BodyLoose.notSynchronized Bd
  have hml : c.maxLocals = 3 := hml0
  have hown : s.vm.findClass "com/example/kurir/kurir/codec/PacketType" = some m.cls := findClass_of_methodNamed Bd.named
  have hnm := (name_of_methodNamed Bd.named Bd.method).1
  have X0 : Stand p l e ({ frames := 0, cells := 0, slots := 0, locals := 0 } : Room) s m #[(.int (112 : Int32)), (.ref a2)] below meth c s₁ [] 0 0 := Stand.of_body Bd
  have e0 : s₁.heap = h0 := by rw [← hh, Bd.state]; rfl
  have N0 := Fr.nil n0
  refine OwnR.of (s := s) (Q := Q2_6 Z s_PUBCOMP h0 n0) (fun t k => castTop (ef_rm2_6 m a2) k) ?_
  show OwnR _ _ _ _ _ _ _ (s₁.setTop (mkF m 0 #[.val (.int (112 : Int32)), .val (.ref a2), .unset] []))
  obtain ⟨T1, X1, e1, st1⟩ := getS2 X0 hx hZ hown (host := "") (Or.inl (hw _ (List.mem_of_getElem? (i := 51) rfl))) Via.refl e0 S_BY (g := (mkF m 0 #[.val (.int (112 : Int32)), .val (.ref a2), .unset] [])) rfl (hb hby d2_0)
  refine OwnR.of (st1) ?_
  show OwnR _ _ _ _ _ _ _ (T1.setTop (mkF m 3 #[.val (.int (112 : Int32)), .val (.ref a2), .unset] [(.ref sb)]))
  refine OwnR.of (fun _ hr => XS.iloadN X1.here hx rfl (hb hby d2_3) rfl hr) ?_
  show OwnR _ _ _ _ _ _ _ (T1.setTop (mkF m 4 #[.val (.int (112 : Int32)), .val (.ref a2), .unset] [(.int (112 : Int32)), (.ref sb)]))
  refine OwnR.of (fun _ hr => XS.iconst X1.here hx rfl (hb hby d2_4) hr) ?_
  show OwnR _ _ _ _ _ _ _ (T1.setTop (mkF m 5 #[.val (.int (112 : Int32)), .val (.ref a2), .unset] [(.int (4 : Int32)), (.int (112 : Int32)), (.ref sb)]))
  refine OwnR.of (fun _ hr => XS.iushr X1.here hx rfl (hb hby d2_5) rfl hr) ?_
  show OwnR _ _ _ _ _ _ _ (T1.setTop (mkF m 6 #[.val (.int (112 : Int32)), .val (.ref a2), .unset] [(.int (((112 : Int32).toUInt32 >>> ((4 : Int32) &&& 31).toUInt32).toInt32)), (.ref sb)]))
  rw [(by decide : (((112 : Int32).toUInt32 >>> ((4 : Int32) &&& 31).toUInt32).toInt32) = (7 : Int32))]
  show OwnR _ _ _ _ _ _ _ (T1.setTop (mkF m 6 #[.val (.int (112 : Int32)), .val (.ref a2), .unset] [(.int (7 : Int32)), (.ref sb)]))
  obtain ⟨cl2, Ar2, -, S2, N2, H2, G2⟩ := id V_sb
  have hin2 : ¬ ((7 : Int32) < 0 ∨ cl2.slots.size ≤ ((7 : Int32)).toNatClampNeg) := (inb_of S2 ⟨by decide, by decide⟩)
  refine OwnR.of (X1.aaload hx (j := (7 : Int32)) (v := (.ref s_PUBCOMP)) (by rw [e1]; exact Ar2.1) (State.isArrayOf_alike hZ.alike Ar2.2.1) rfl Ar2.2.2 hin2 (Has.at H2 hin2 rfl) (g := (mkF m 6 #[.val (.int (112 : Int32)), .val (.ref a2), .unset] [(.int (7 : Int32)), (.ref sb)])) rfl rfl (hb hby d2_6)) ?_
  show OwnR _ _ _ _ _ _ _ (T1.setTop (mkF m 7 #[.val (.int (112 : Int32)), .val (.ref a2), .unset] [(.ref s_PUBCOMP)]))
  refine OwnR.of (fun _ hr => XS.astoreN X1.here hx rfl (hb hby d2_7) rfl rfl (l' := #[.val (.int (112 : Int32)), .val (.ref a2), .val (.ref s_PUBCOMP)]) rfl hr) ?_
  show OwnR _ _ _ _ _ _ _ (T1.setTop (mkF m 8 #[.val (.int (112 : Int32)), .val (.ref a2), .val (.ref s_PUBCOMP)] []))
  refine OwnR.of (fun _ hr => XS.aloadN X1.here hx rfl (hb hby d2_8) rfl rfl hr) ?_
  show OwnR _ _ _ _ _ _ _ (T1.setTop (mkF m 9 #[.val (.int (112 : Int32)), .val (.ref a2), .val (.ref s_PUBCOMP)] [(.ref s_PUBCOMP)]))
  refine OwnR.of (fun _ hr => XS.ifnullNo X1.here hx rfl (hb hby d2_9) rfl hr) ?_
  show OwnR _ _ _ _ _ _ _ (T1.setTop (mkF m 12 #[.val (.int (112 : Int32)), .val (.ref a2), .val (.ref s_PUBCOMP)] []))
  refine OwnR.of (fun _ hr => XS.aloadN X1.here hx rfl (hb hby d2_12) rfl rfl hr) ?_
  show OwnR _ _ _ _ _ _ _ (T1.setTop (mkF m 13 #[.val (.int (112 : Int32)), .val (.ref a2), .val (.ref s_PUBCOMP)] [(.ref s_PUBCOMP)]))
  obtain ⟨T3, X3, e3, st3⟩ := getS2 X1 hx hZ hown (host := "") (Or.inl (hw _ (List.mem_of_getElem? (i := 53) rfl))) Via.refl e1 S_AUTH (g := (mkF m 13 #[.val (.int (112 : Int32)), .val (.ref a2), .val (.ref s_PUBCOMP)] [(.ref s_PUBCOMP)])) rfl (hb hby d2_13)
  refine OwnR.of (st3) ?_
  show OwnR _ _ _ _ _ _ _ (T3.setTop (mkF m 16 #[.val (.int (112 : Int32)), .val (.ref a2), .val (.ref s_PUBCOMP)] [(.ref s_AUTH), (.ref s_PUBCOMP)]))
  refine OwnR.of (fun _ hr => Jvm.RoadKit.acmp (g := (mkF m 16 #[.val (.int (112 : Int32)), .val (.ref a2), .val (.ref s_PUBCOMP)] [(.ref s_AUTH), (.ref s_PUBCOMP)])) X3 hx rfl rfl rfl (pc0 := 16) (pc' := 42) (same := false) rfl (hb hby d2_16) rfl (decide_eq_false fun q => hne (Value.ref.inj q)) (by decide) (by decide) hr) ?_
  show OwnR _ _ _ _ _ _ _ (T3.setTop (mkF m 42 #[.val (.int (112 : Int32)), .val (.ref a2), .val (.ref s_PUBCOMP)] []))
  refine OwnR.of (fun _ hr => XS.aloadN X3.here hx rfl (hb hby d2_42) rfl rfl hr) ?_
  show OwnR _ _ _ _ _ _ _ (T3.setTop (mkF m 43 #[.val (.int (112 : Int32)), .val (.ref a2), .val (.ref s_PUBCOMP)] [(.ref s_PUBCOMP)]))
  refine own_leafA X3 hx hlk Bd.returns rfl rfl (hb hby d2_43) (by decide) (by decide) ?_
  show Q2_6 Z s_PUBCOMP h0 n0 _ T3.heap _
  rw [show T3.heap = h0 from e3]
  refine ⟨?_, N0, rfl⟩
  show (some (.ref s_PUBCOMP) : Option Value) = some (.ref s_PUBCOMP)
  rfl
theorem ef_rm2_7 (m : MethodId) (x1 : Addr) : entryFrame m #[(.int (130 : Int32)), (.ref x1)] 3 = mkF m 0 #[.val (.int (130 : Int32)), .val (.ref x1), .unset] [] := by first | (simp [entryFrame, mkF, argsToLocals, Value.category]; done) | rfl
def Q2_7 (Z : State) (s_SUBSCRIBE : Addr) (h0 : Heap) (n0 : Nat) (v : Option Value) (h : Heap) (L : List Loc) : Prop := v = some (.ref s_SUBSCRIBE) ∧ Fr n0 L ∧ h = h0
set_option maxRecDepth 65536 in
set_option maxHeartbeats 40000000 in
theorem rm2_7 (l : Launch) (Z : State) (a0 : Array Value) (hw : ∀ d ∈ tables_1, d.before a0 Z = true) (ws : List Jvm.Cond) (a2 : Addr) (sb : Addr) (kb : ClassId) (s_CONNECT s_CONNACK s_PUBLISH s_PUBACK s_PUBREC s_PUBREL s_PUBCOMP s_SUBSCRIBE s_SUBACK s_UNSUBSCRIBE s_UNSUBACK s_PINGREQ s_PINGRESP s_DISCONNECT s_AUTH : Addr) (s_V3 : Addr) (h0 : Heap) (n0 : Nat) (Z0 : n0 ≤ h0.size) (S_BY : Sta Z h0 "com/example/kurir/kurir/codec/PacketType" "BY_CODE" "[Lcom/example/kurir/kurir/codec/PacketType;" (.ref sb)) (V_sb : Arv Z h0 sb kb (.object "com/example/kurir/kurir/codec/PacketType") (16 : Int32) [.null, (.ref s_CONNECT), (.ref s_CONNACK), (.ref s_PUBLISH), (.ref s_PUBACK), (.ref s_PUBREC), (.ref s_PUBREL), (.ref s_PUBCOMP), (.ref s_SUBSCRIBE), (.ref s_SUBACK), (.ref s_UNSUBSCRIBE), (.ref s_UNSUBACK), (.ref s_PINGREQ), (.ref s_PINGRESP), (.ref s_DISCONNECT), (.ref s_AUTH)] .null) (S_AUTH : Sta Z h0 "com/example/kurir/kurir/codec/PacketType" "AUTH" "Lcom/example/kurir/kurir/codec/PacketType;" (.ref s_AUTH)) (S_V3 : Sta Z h0 "com/example/kurir/kurir/codec/ProtocolVersion" "MQTT_3_1_1" "Lcom/example/kurir/kurir/codec/ProtocolVersion;" (.ref s_V3)) (hne : s_SUBSCRIBE ≠ s_AUTH) :
    MetFree l (⟨"com/example/kurir/kurir/codec/PacketType", "of", "(ILcom/example/kurir/kurir/codec/ProtocolVersion;)Lcom/example/kurir/kurir/codec/PacketType;"⟩ : MethodName) (head1 (Jvm.Cond.code (⟨"com/example/kurir/kurir/codec/PacketType", "of", "(ILcom/example/kurir/kurir/codec/ProtocolVersion;)Lcom/example/kurir/kurir/codec/PacketType;"⟩ : MethodName) prog_56_method_4_code 3 (some (.object "com/example/kurir/kurir/codec/PacketType")) :: ws) ({ frames := 0, cells := 0, slots := 0, locals := 0 } : Room)) (fun a U => a = #[(.int (130 : Int32)), (.ref a2)] ∧ Z.Warmed39 U.vm ∧ U.heap = h0) (fun _ _ _ _ _ => True) (fun _ U o U' => ∃ v L, o = .returned v ∧ Q2_7 Z s_SUBSCRIBE h0 n0 v U'.heap L ∧ FrameEnd U o U' L ({ frames := 0, cells := 0, slots := 0, locals := 0 } : Room).cells ({ frames := 0, cells := 0, slots := 0, locals := 0 } : Room).slots) := by
  refine MetFree.of_bodySF (plainFor_of_name pn_com_example_kurir_kurir_codec_PacketType) hisR ?_
  intro p e s m args below meth c s₁ Bd hml0 hP hK
  obtain ⟨rfl, hZ, hh⟩ := hP
  have hx := Bd.exec
  have hby := Bd.bytes
  have hlk := BodyLoose.notSynchronized Bd
  have hml : c.maxLocals = 3 := hml0
  have hown : s.vm.findClass "com/example/kurir/kurir/codec/PacketType" = some m.cls := findClass_of_methodNamed Bd.named
  have hnm := (name_of_methodNamed Bd.named Bd.method).1
  have X0 : Stand p l e ({ frames := 0, cells := 0, slots := 0, locals := 0 } : Room) s m #[(.int (130 : Int32)), (.ref a2)] below meth c s₁ [] 0 0 := Stand.of_body Bd
  have e0 : s₁.heap = h0 := by rw [← hh, Bd.state]; rfl
  have N0 := Fr.nil n0
  refine OwnR.of (s := s) (Q := Q2_7 Z s_SUBSCRIBE h0 n0) (fun t k => castTop (ef_rm2_7 m a2) k) ?_
  show OwnR _ _ _ _ _ _ _ (s₁.setTop (mkF m 0 #[.val (.int (130 : Int32)), .val (.ref a2), .unset] []))
  obtain ⟨T1, X1, e1, st1⟩ := getS2 X0 hx hZ hown (host := "") (Or.inl (hw _ (List.mem_of_getElem? (i := 51) rfl))) Via.refl e0 S_BY (g := (mkF m 0 #[.val (.int (130 : Int32)), .val (.ref a2), .unset] [])) rfl (hb hby d2_0)
  refine OwnR.of (st1) ?_
  show OwnR _ _ _ _ _ _ _ (T1.setTop (mkF m 3 #[.val (.int (130 : Int32)), .val (.ref a2), .unset] [(.ref sb)]))
  refine OwnR.of (fun _ hr => XS.iloadN X1.here hx rfl (hb hby d2_3) rfl hr) ?_
  show OwnR _ _ _ _ _ _ _ (T1.setTop (mkF m 4 #[.val (.int (130 : Int32)), .val (.ref a2), .unset] [(.int (130 : Int32)), (.ref sb)]))
  refine OwnR.of (fun _ hr => XS.iconst X1.here hx rfl (hb hby d2_4) hr) ?_
  show OwnR _ _ _ _ _ _ _ (T1.setTop (mkF m 5 #[.val (.int (130 : Int32)), .val (.ref a2), .unset] [(.int (4 : Int32)), (.int (130 : Int32)), (.ref sb)]))
  refine OwnR.of (fun _ hr => XS.iushr X1.here hx rfl (hb hby d2_5) rfl hr) ?_
  show OwnR _ _ _ _ _ _ _ (T1.setTop (mkF m 6 #[.val (.int (130 : Int32)), .val (.ref a2), .unset] [(.int (((130 : Int32).toUInt32 >>> ((4 : Int32) &&& 31).toUInt32).toInt32)), (.ref sb)]))
  rw [(by decide : (((130 : Int32).toUInt32 >>> ((4 : Int32) &&& 31).toUInt32).toInt32) = (8 : Int32))]
  show OwnR _ _ _ _ _ _ _ (T1.setTop (mkF m 6 #[.val (.int (130 : Int32)), .val (.ref a2), .unset] [(.int (8 : Int32)), (.ref sb)]))
  obtain ⟨cl2, Ar2, -, S2, N2, H2, G2⟩ := id V_sb
  have hin2 : ¬ ((8 : Int32) < 0 ∨ cl2.slots.size ≤ ((8 : Int32)).toNatClampNeg) := (inb_of S2 ⟨by decide, by decide⟩)
  refine OwnR.of (X1.aaload hx (j := (8 : Int32)) (v := (.ref s_SUBSCRIBE)) (by rw [e1]; exact Ar2.1) (State.isArrayOf_alike hZ.alike Ar2.2.1) rfl Ar2.2.2 hin2 (Has.at H2 hin2 rfl) (g := (mkF m 6 #[.val (.int (130 : Int32)), .val (.ref a2), .unset] [(.int (8 : Int32)), (.ref sb)])) rfl rfl (hb hby d2_6)) ?_
  show OwnR _ _ _ _ _ _ _ (T1.setTop (mkF m 7 #[.val (.int (130 : Int32)), .val (.ref a2), .unset] [(.ref s_SUBSCRIBE)]))
  refine OwnR.of (fun _ hr => XS.astoreN X1.here hx rfl (hb hby d2_7) rfl rfl (l' := #[.val (.int (130 : Int32)), .val (.ref a2), .val (.ref s_SUBSCRIBE)]) rfl hr) ?_
  show OwnR _ _ _ _ _ _ _ (T1.setTop (mkF m 8 #[.val (.int (130 : Int32)), .val (.ref a2), .val (.ref s_SUBSCRIBE)] []))
  refine OwnR.of (fun _ hr => XS.aloadN X1.here hx rfl (hb hby d2_8) rfl rfl hr) ?_
  show OwnR _ _ _ _ _ _ _ (T1.setTop (mkF m 9 #[.val (.int (130 : Int32)), .val (.ref a2), .val (.ref s_SUBSCRIBE)] [(.ref s_SUBSCRIBE)]))
  refine OwnR.of (fun _ hr => XS.ifnullNo X1.here hx rfl (hb hby d2_9) rfl hr) ?_
  show OwnR _ _ _ _ _ _ _ (T1.setTop (mkF m 12 #[.val (.int (130 : Int32)), .val (.ref a2), .val (.ref s_SUBSCRIBE)] []))
  refine OwnR.of (fun _ hr => XS.aloadN X1.here hx rfl (hb hby d2_12) rfl rfl hr) ?_
  show OwnR _ _ _ _ _ _ _ (T1.setTop (mkF m 13 #[.val (.int (130 : Int32)), .val (.ref a2), .val (.ref s_SUBSCRIBE)] [(.ref s_SUBSCRIBE)]))
  obtain ⟨T3, X3, e3, st3⟩ := getS2 X1 hx hZ hown (host := "") (Or.inl (hw _ (List.mem_of_getElem? (i := 53) rfl))) Via.refl e1 S_AUTH (g := (mkF m 13 #[.val (.int (130 : Int32)), .val (.ref a2), .val (.ref s_SUBSCRIBE)] [(.ref s_SUBSCRIBE)])) rfl (hb hby d2_13)
  refine OwnR.of (st3) ?_
  show OwnR _ _ _ _ _ _ _ (T3.setTop (mkF m 16 #[.val (.int (130 : Int32)), .val (.ref a2), .val (.ref s_SUBSCRIBE)] [(.ref s_AUTH), (.ref s_SUBSCRIBE)]))
  refine OwnR.of (fun _ hr => Jvm.RoadKit.acmp (g := (mkF m 16 #[.val (.int (130 : Int32)), .val (.ref a2), .val (.ref s_SUBSCRIBE)] [(.ref s_AUTH), (.ref s_SUBSCRIBE)])) X3 hx rfl rfl rfl (pc0 := 16) (pc' := 42) (same := false) rfl (hb hby d2_16) rfl (decide_eq_false fun q => hne (Value.ref.inj q)) (by decide) (by decide) hr) ?_
  show OwnR _ _ _ _ _ _ _ (T3.setTop (mkF m 42 #[.val (.int (130 : Int32)), .val (.ref a2), .val (.ref s_SUBSCRIBE)] []))
  refine OwnR.of (fun _ hr => XS.aloadN X3.here hx rfl (hb hby d2_42) rfl rfl hr) ?_
  show OwnR _ _ _ _ _ _ _ (T3.setTop (mkF m 43 #[.val (.int (130 : Int32)), .val (.ref a2), .val (.ref s_SUBSCRIBE)] [(.ref s_SUBSCRIBE)]))
  refine own_leafA X3 hx hlk Bd.returns rfl rfl (hb hby d2_43) (by decide) (by decide) ?_
  show Q2_7 Z s_SUBSCRIBE h0 n0 _ T3.heap _
  rw [show T3.heap = h0 from e3]
  refine ⟨?_, N0, rfl⟩
  show (some (.ref s_SUBSCRIBE) : Option Value) = some (.ref s_SUBSCRIBE)
  rfl
theorem ef_rm2_8 (m : MethodId) (x1 : Addr) : entryFrame m #[(.int (144 : Int32)), (.ref x1)] 3 = mkF m 0 #[.val (.int (144 : Int32)), .val (.ref x1), .unset] [] := by first | (simp [entryFrame, mkF, argsToLocals, Value.category]; done) | rfl
def Q2_8 (Z : State) (s_SUBACK : Addr) (h0 : Heap) (n0 : Nat) (v : Option Value) (h : Heap) (L : List Loc) : Prop := v = some (.ref s_SUBACK) ∧ Fr n0 L ∧ h = h0
set_option maxRecDepth 65536 in
set_option maxHeartbeats 40000000 in
theorem rm2_8 (l : Launch) (Z : State) (a0 : Array Value) (hw : ∀ d ∈ tables_1, d.before a0 Z = true) (ws : List Jvm.Cond) (a2 : Addr) (sb : Addr) (kb : ClassId) (s_CONNECT s_CONNACK s_PUBLISH s_PUBACK s_PUBREC s_PUBREL s_PUBCOMP s_SUBSCRIBE s_SUBACK s_UNSUBSCRIBE s_UNSUBACK s_PINGREQ s_PINGRESP s_DISCONNECT s_AUTH : Addr) (s_V3 : Addr) (h0 : Heap) (n0 : Nat) (Z0 : n0 ≤ h0.size) (S_BY : Sta Z h0 "com/example/kurir/kurir/codec/PacketType" "BY_CODE" "[Lcom/example/kurir/kurir/codec/PacketType;" (.ref sb)) (V_sb : Arv Z h0 sb kb (.object "com/example/kurir/kurir/codec/PacketType") (16 : Int32) [.null, (.ref s_CONNECT), (.ref s_CONNACK), (.ref s_PUBLISH), (.ref s_PUBACK), (.ref s_PUBREC), (.ref s_PUBREL), (.ref s_PUBCOMP), (.ref s_SUBSCRIBE), (.ref s_SUBACK), (.ref s_UNSUBSCRIBE), (.ref s_UNSUBACK), (.ref s_PINGREQ), (.ref s_PINGRESP), (.ref s_DISCONNECT), (.ref s_AUTH)] .null) (S_AUTH : Sta Z h0 "com/example/kurir/kurir/codec/PacketType" "AUTH" "Lcom/example/kurir/kurir/codec/PacketType;" (.ref s_AUTH)) (S_V3 : Sta Z h0 "com/example/kurir/kurir/codec/ProtocolVersion" "MQTT_3_1_1" "Lcom/example/kurir/kurir/codec/ProtocolVersion;" (.ref s_V3)) (hne : s_SUBACK ≠ s_AUTH) :
    MetFree l (⟨"com/example/kurir/kurir/codec/PacketType", "of", "(ILcom/example/kurir/kurir/codec/ProtocolVersion;)Lcom/example/kurir/kurir/codec/PacketType;"⟩ : MethodName) (head1 (Jvm.Cond.code (⟨"com/example/kurir/kurir/codec/PacketType", "of", "(ILcom/example/kurir/kurir/codec/ProtocolVersion;)Lcom/example/kurir/kurir/codec/PacketType;"⟩ : MethodName) prog_56_method_4_code 3 (some (.object "com/example/kurir/kurir/codec/PacketType")) :: ws) ({ frames := 0, cells := 0, slots := 0, locals := 0 } : Room)) (fun a U => a = #[(.int (144 : Int32)), (.ref a2)] ∧ Z.Warmed39 U.vm ∧ U.heap = h0) (fun _ _ _ _ _ => True) (fun _ U o U' => ∃ v L, o = .returned v ∧ Q2_8 Z s_SUBACK h0 n0 v U'.heap L ∧ FrameEnd U o U' L ({ frames := 0, cells := 0, slots := 0, locals := 0 } : Room).cells ({ frames := 0, cells := 0, slots := 0, locals := 0 } : Room).slots) := by
  refine MetFree.of_bodySF (plainFor_of_name pn_com_example_kurir_kurir_codec_PacketType) hisR ?_
  intro p e s m args below meth c s₁ Bd hml0 hP hK
  obtain ⟨rfl, hZ, hh⟩ := hP
  have hx := Bd.exec
  have hby := Bd.bytes
  have hlk := BodyLoose.notSynchronized Bd
  have hml : c.maxLocals = 3 := hml0
  have hown : s.vm.findClass "com/example/kurir/kurir/codec/PacketType" = some m.cls := findClass_of_methodNamed Bd.named
  have hnm := (name_of_methodNamed Bd.named Bd.method).1
  have X0 : Stand p l e ({ frames := 0, cells := 0, slots := 0, locals := 0 } : Room) s m #[(.int (144 : Int32)), (.ref a2)] below meth c s₁ [] 0 0 := Stand.of_body Bd
  have e0 : s₁.heap = h0 := by rw [← hh, Bd.state]; rfl
  have N0 := Fr.nil n0
  refine OwnR.of (s := s) (Q := Q2_8 Z s_SUBACK h0 n0) (fun t k => castTop (ef_rm2_8 m a2) k) ?_
  show OwnR _ _ _ _ _ _ _ (s₁.setTop (mkF m 0 #[.val (.int (144 : Int32)), .val (.ref a2), .unset] []))
  obtain ⟨T1, X1, e1, st1⟩ := getS2 X0 hx hZ hown (host := "") (Or.inl (hw _ (List.mem_of_getElem? (i := 51) rfl))) Via.refl e0 S_BY (g := (mkF m 0 #[.val (.int (144 : Int32)), .val (.ref a2), .unset] [])) rfl (hb hby d2_0)
  refine OwnR.of (st1) ?_
  show OwnR _ _ _ _ _ _ _ (T1.setTop (mkF m 3 #[.val (.int (144 : Int32)), .val (.ref a2), .unset] [(.ref sb)]))
  refine OwnR.of (fun _ hr => XS.iloadN X1.here hx rfl (hb hby d2_3) rfl hr) ?_
  show OwnR _ _ _ _ _ _ _ (T1.setTop (mkF m 4 #[.val (.int (144 : Int32)), .val (.ref a2), .unset] [(.int (144 : Int32)), (.ref sb)]))
  refine OwnR.of (fun _ hr => XS.iconst X1.here hx rfl (hb hby d2_4) hr) ?_
  show OwnR _ _ _ _ _ _ _ (T1.setTop (mkF m 5 #[.val (.int (144 : Int32)), .val (.ref a2), .unset] [(.int (4 : Int32)), (.int (144 : Int32)), (.ref sb)]))
  refine OwnR.of (fun _ hr => XS.iushr X1.here hx rfl (hb hby d2_5) rfl hr) ?_
  show OwnR _ _ _ _ _ _ _ (T1.setTop (mkF m 6 #[.val (.int (144 : Int32)), .val (.ref a2), .unset] [(.int (((144 : Int32).toUInt32 >>> ((4 : Int32) &&& 31).toUInt32).toInt32)), (.ref sb)]))
  rw [(by decide : (((144 : Int32).toUInt32 >>> ((4 : Int32) &&& 31).toUInt32).toInt32) = (9 : Int32))]
  show OwnR _ _ _ _ _ _ _ (T1.setTop (mkF m 6 #[.val (.int (144 : Int32)), .val (.ref a2), .unset] [(.int (9 : Int32)), (.ref sb)]))
  obtain ⟨cl2, Ar2, -, S2, N2, H2, G2⟩ := id V_sb
  have hin2 : ¬ ((9 : Int32) < 0 ∨ cl2.slots.size ≤ ((9 : Int32)).toNatClampNeg) := (inb_of S2 ⟨by decide, by decide⟩)
  refine OwnR.of (X1.aaload hx (j := (9 : Int32)) (v := (.ref s_SUBACK)) (by rw [e1]; exact Ar2.1) (State.isArrayOf_alike hZ.alike Ar2.2.1) rfl Ar2.2.2 hin2 (Has.at H2 hin2 rfl) (g := (mkF m 6 #[.val (.int (144 : Int32)), .val (.ref a2), .unset] [(.int (9 : Int32)), (.ref sb)])) rfl rfl (hb hby d2_6)) ?_
  show OwnR _ _ _ _ _ _ _ (T1.setTop (mkF m 7 #[.val (.int (144 : Int32)), .val (.ref a2), .unset] [(.ref s_SUBACK)]))
  refine OwnR.of (fun _ hr => XS.astoreN X1.here hx rfl (hb hby d2_7) rfl rfl (l' := #[.val (.int (144 : Int32)), .val (.ref a2), .val (.ref s_SUBACK)]) rfl hr) ?_
  show OwnR _ _ _ _ _ _ _ (T1.setTop (mkF m 8 #[.val (.int (144 : Int32)), .val (.ref a2), .val (.ref s_SUBACK)] []))
  refine OwnR.of (fun _ hr => XS.aloadN X1.here hx rfl (hb hby d2_8) rfl rfl hr) ?_
  show OwnR _ _ _ _ _ _ _ (T1.setTop (mkF m 9 #[.val (.int (144 : Int32)), .val (.ref a2), .val (.ref s_SUBACK)] [(.ref s_SUBACK)]))
  refine OwnR.of (fun _ hr => XS.ifnullNo X1.here hx rfl (hb hby d2_9) rfl hr) ?_
  show OwnR _ _ _ _ _ _ _ (T1.setTop (mkF m 12 #[.val (.int (144 : Int32)), .val (.ref a2), .val (.ref s_SUBACK)] []))
  refine OwnR.of (fun _ hr => XS.aloadN X1.here hx rfl (hb hby d2_12) rfl rfl hr) ?_
  show OwnR _ _ _ _ _ _ _ (T1.setTop (mkF m 13 #[.val (.int (144 : Int32)), .val (.ref a2), .val (.ref s_SUBACK)] [(.ref s_SUBACK)]))
  obtain ⟨T3, X3, e3, st3⟩ := getS2 X1 hx hZ hown (host := "") (Or.inl (hw _ (List.mem_of_getElem? (i := 53) rfl))) Via.refl e1 S_AUTH (g := (mkF m 13 #[.val (.int (144 : Int32)), .val (.ref a2), .val (.ref s_SUBACK)] [(.ref s_SUBACK)])) rfl (hb hby d2_13)
  refine OwnR.of (st3) ?_
  show OwnR _ _ _ _ _ _ _ (T3.setTop (mkF m 16 #[.val (.int (144 : Int32)), .val (.ref a2), .val (.ref s_SUBACK)] [(.ref s_AUTH), (.ref s_SUBACK)]))
  refine OwnR.of (fun _ hr => Jvm.RoadKit.acmp (g := (mkF m 16 #[.val (.int (144 : Int32)), .val (.ref a2), .val (.ref s_SUBACK)] [(.ref s_AUTH), (.ref s_SUBACK)])) X3 hx rfl rfl rfl (pc0 := 16) (pc' := 42) (same := false) rfl (hb hby d2_16) rfl (decide_eq_false fun q => hne (Value.ref.inj q)) (by decide) (by decide) hr) ?_
  show OwnR _ _ _ _ _ _ _ (T3.setTop (mkF m 42 #[.val (.int (144 : Int32)), .val (.ref a2), .val (.ref s_SUBACK)] []))
  refine OwnR.of (fun _ hr => XS.aloadN X3.here hx rfl (hb hby d2_42) rfl rfl hr) ?_
  show OwnR _ _ _ _ _ _ _ (T3.setTop (mkF m 43 #[.val (.int (144 : Int32)), .val (.ref a2), .val (.ref s_SUBACK)] [(.ref s_SUBACK)]))
  refine own_leafA X3 hx hlk Bd.returns rfl rfl (hb hby d2_43) (by decide) (by decide) ?_
  show Q2_8 Z s_SUBACK h0 n0 _ T3.heap _
  rw [show T3.heap = h0 from e3]
  refine ⟨?_, N0, rfl⟩
  show (some (.ref s_SUBACK) : Option Value) = some (.ref s_SUBACK)
  rfl
theorem ef_rm2_9 (m : MethodId) (x1 : Addr) : entryFrame m #[(.int (162 : Int32)), (.ref x1)] 3 = mkF m 0 #[.val (.int (162 : Int32)), .val (.ref x1), .unset] [] := by first | (simp [entryFrame, mkF, argsToLocals, Value.category]; done) | rfl
def Q2_9 (Z : State) (s_UNSUBSCRIBE : Addr) (h0 : Heap) (n0 : Nat) (v : Option Value) (h : Heap) (L : List Loc) : Prop := v = some (.ref s_UNSUBSCRIBE) ∧ Fr n0 L ∧ h = h0
set_option maxRecDepth 65536 in
set_option maxHeartbeats 40000000 in
theorem rm2_9 (l : Launch) (Z : State) (a0 : Array Value) (hw : ∀ d ∈ tables_1, d.before a0 Z = true) (ws : List Jvm.Cond) (a2 : Addr) (sb : Addr) (kb : ClassId) (s_CONNECT s_CONNACK s_PUBLISH s_PUBACK s_PUBREC s_PUBREL s_PUBCOMP s_SUBSCRIBE s_SUBACK s_UNSUBSCRIBE s_UNSUBACK s_PINGREQ s_PINGRESP s_DISCONNECT s_AUTH : Addr) (s_V3 : Addr) (h0 : Heap) (n0 : Nat) (Z0 : n0 ≤ h0.size) (S_BY : Sta Z h0 "com/example/kurir/kurir/codec/PacketType" "BY_CODE" "[Lcom/example/kurir/kurir/codec/PacketType;" (.ref sb)) (V_sb : Arv Z h0 sb kb (.object "com/example/kurir/kurir/codec/PacketType") (16 : Int32) [.null, (.ref s_CONNECT), (.ref s_CONNACK), (.ref s_PUBLISH), (.ref s_PUBACK), (.ref s_PUBREC), (.ref s_PUBREL), (.ref s_PUBCOMP), (.ref s_SUBSCRIBE), (.ref s_SUBACK), (.ref s_UNSUBSCRIBE), (.ref s_UNSUBACK), (.ref s_PINGREQ), (.ref s_PINGRESP), (.ref s_DISCONNECT), (.ref s_AUTH)] .null) (S_AUTH : Sta Z h0 "com/example/kurir/kurir/codec/PacketType" "AUTH" "Lcom/example/kurir/kurir/codec/PacketType;" (.ref s_AUTH)) (S_V3 : Sta Z h0 "com/example/kurir/kurir/codec/ProtocolVersion" "MQTT_3_1_1" "Lcom/example/kurir/kurir/codec/ProtocolVersion;" (.ref s_V3)) (hne : s_UNSUBSCRIBE ≠ s_AUTH) :
    MetFree l (⟨"com/example/kurir/kurir/codec/PacketType", "of", "(ILcom/example/kurir/kurir/codec/ProtocolVersion;)Lcom/example/kurir/kurir/codec/PacketType;"⟩ : MethodName) (head1 (Jvm.Cond.code (⟨"com/example/kurir/kurir/codec/PacketType", "of", "(ILcom/example/kurir/kurir/codec/ProtocolVersion;)Lcom/example/kurir/kurir/codec/PacketType;"⟩ : MethodName) prog_56_method_4_code 3 (some (.object "com/example/kurir/kurir/codec/PacketType")) :: ws) ({ frames := 0, cells := 0, slots := 0, locals := 0 } : Room)) (fun a U => a = #[(.int (162 : Int32)), (.ref a2)] ∧ Z.Warmed39 U.vm ∧ U.heap = h0) (fun _ _ _ _ _ => True) (fun _ U o U' => ∃ v L, o = .returned v ∧ Q2_9 Z s_UNSUBSCRIBE h0 n0 v U'.heap L ∧ FrameEnd U o U' L ({ frames := 0, cells := 0, slots := 0, locals := 0 } : Room).cells ({ frames := 0, cells := 0, slots := 0, locals := 0 } : Room).slots) := by
  refine MetFree.of_bodySF (plainFor_of_name pn_com_example_kurir_kurir_codec_PacketType) hisR ?_
  intro p e s m args below meth c s₁ Bd hml0 hP hK
  obtain ⟨rfl, hZ, hh⟩ := hP
  have hx := Bd.exec
  have hby := Bd.bytes
  have hlk := BodyLoose.notSynchronized Bd
  have hml : c.maxLocals = 3 := hml0
  have hown : s.vm.findClass "com/example/kurir/kurir/codec/PacketType" = some m.cls := findClass_of_methodNamed Bd.named
  have hnm := (name_of_methodNamed Bd.named Bd.method).1
  have X0 : Stand p l e ({ frames := 0, cells := 0, slots := 0, locals := 0 } : Room) s m #[(.int (162 : Int32)), (.ref a2)] below meth c s₁ [] 0 0 := Stand.of_body Bd
  have e0 : s₁.heap = h0 := by rw [← hh, Bd.state]; rfl
  have N0 := Fr.nil n0
  refine OwnR.of (s := s) (Q := Q2_9 Z s_UNSUBSCRIBE h0 n0) (fun t k => castTop (ef_rm2_9 m a2) k) ?_
  show OwnR _ _ _ _ _ _ _ (s₁.setTop (mkF m 0 #[.val (.int (162 : Int32)), .val (.ref a2), .unset] []))
  obtain ⟨T1, X1, e1, st1⟩ := getS2 X0 hx hZ hown (host := "") (Or.inl (hw _ (List.mem_of_getElem? (i := 51) rfl))) Via.refl e0 S_BY (g := (mkF m 0 #[.val (.int (162 : Int32)), .val (.ref a2), .unset] [])) rfl (hb hby d2_0)
  refine OwnR.of (st1) ?_
  show OwnR _ _ _ _ _ _ _ (T1.setTop (mkF m 3 #[.val (.int (162 : Int32)), .val (.ref a2), .unset] [(.ref sb)]))
  refine OwnR.of (fun _ hr => XS.iloadN X1.here hx rfl (hb hby d2_3) rfl hr) ?_
  show OwnR _ _ _ _ _ _ _ (T1.setTop (mkF m 4 #[.val (.int (162 : Int32)), .val (.ref a2), .unset] [(.int (162 : Int32)), (.ref sb)]))
  refine OwnR.of (fun _ hr => XS.iconst X1.here hx rfl (hb hby d2_4) hr) ?_
  show OwnR _ _ _ _ _ _ _ (T1.setTop (mkF m 5 #[.val (.int (162 : Int32)), .val (.ref a2), .unset] [(.int (4 : Int32)), (.int (162 : Int32)), (.ref sb)]))
  refine OwnR.of (fun _ hr => XS.iushr X1.here hx rfl (hb hby d2_5) rfl hr) ?_
  show OwnR _ _ _ _ _ _ _ (T1.setTop (mkF m 6 #[.val (.int (162 : Int32)), .val (.ref a2), .unset] [(.int (((162 : Int32).toUInt32 >>> ((4 : Int32) &&& 31).toUInt32).toInt32)), (.ref sb)]))
  rw [(by decide : (((162 : Int32).toUInt32 >>> ((4 : Int32) &&& 31).toUInt32).toInt32) = (10 : Int32))]
  show OwnR _ _ _ _ _ _ _ (T1.setTop (mkF m 6 #[.val (.int (162 : Int32)), .val (.ref a2), .unset] [(.int (10 : Int32)), (.ref sb)]))
  obtain ⟨cl2, Ar2, -, S2, N2, H2, G2⟩ := id V_sb
  have hin2 : ¬ ((10 : Int32) < 0 ∨ cl2.slots.size ≤ ((10 : Int32)).toNatClampNeg) := (inb_of S2 ⟨by decide, by decide⟩)
  refine OwnR.of (X1.aaload hx (j := (10 : Int32)) (v := (.ref s_UNSUBSCRIBE)) (by rw [e1]; exact Ar2.1) (State.isArrayOf_alike hZ.alike Ar2.2.1) rfl Ar2.2.2 hin2 (Has.at H2 hin2 rfl) (g := (mkF m 6 #[.val (.int (162 : Int32)), .val (.ref a2), .unset] [(.int (10 : Int32)), (.ref sb)])) rfl rfl (hb hby d2_6)) ?_
  show OwnR _ _ _ _ _ _ _ (T1.setTop (mkF m 7 #[.val (.int (162 : Int32)), .val (.ref a2), .unset] [(.ref s_UNSUBSCRIBE)]))
  refine OwnR.of (fun _ hr => XS.astoreN X1.here hx rfl (hb hby d2_7) rfl rfl (l' := #[.val (.int (162 : Int32)), .val (.ref a2), .val (.ref s_UNSUBSCRIBE)]) rfl hr) ?_
  show OwnR _ _ _ _ _ _ _ (T1.setTop (mkF m 8 #[.val (.int (162 : Int32)), .val (.ref a2), .val (.ref s_UNSUBSCRIBE)] []))
  refine OwnR.of (fun _ hr => XS.aloadN X1.here hx rfl (hb hby d2_8) rfl rfl hr) ?_
  show OwnR _ _ _ _ _ _ _ (T1.setTop (mkF m 9 #[.val (.int (162 : Int32)), .val (.ref a2), .val (.ref s_UNSUBSCRIBE)] [(.ref s_UNSUBSCRIBE)]))
  refine OwnR.of (fun _ hr => XS.ifnullNo X1.here hx rfl (hb hby d2_9) rfl hr) ?_
  show OwnR _ _ _ _ _ _ _ (T1.setTop (mkF m 12 #[.val (.int (162 : Int32)), .val (.ref a2), .val (.ref s_UNSUBSCRIBE)] []))
  refine OwnR.of (fun _ hr => XS.aloadN X1.here hx rfl (hb hby d2_12) rfl rfl hr) ?_
  show OwnR _ _ _ _ _ _ _ (T1.setTop (mkF m 13 #[.val (.int (162 : Int32)), .val (.ref a2), .val (.ref s_UNSUBSCRIBE)] [(.ref s_UNSUBSCRIBE)]))
  obtain ⟨T3, X3, e3, st3⟩ := getS2 X1 hx hZ hown (host := "") (Or.inl (hw _ (List.mem_of_getElem? (i := 53) rfl))) Via.refl e1 S_AUTH (g := (mkF m 13 #[.val (.int (162 : Int32)), .val (.ref a2), .val (.ref s_UNSUBSCRIBE)] [(.ref s_UNSUBSCRIBE)])) rfl (hb hby d2_13)
  refine OwnR.of (st3) ?_
  show OwnR _ _ _ _ _ _ _ (T3.setTop (mkF m 16 #[.val (.int (162 : Int32)), .val (.ref a2), .val (.ref s_UNSUBSCRIBE)] [(.ref s_AUTH), (.ref s_UNSUBSCRIBE)]))
  refine OwnR.of (fun _ hr => Jvm.RoadKit.acmp (g := (mkF m 16 #[.val (.int (162 : Int32)), .val (.ref a2), .val (.ref s_UNSUBSCRIBE)] [(.ref s_AUTH), (.ref s_UNSUBSCRIBE)])) X3 hx rfl rfl rfl (pc0 := 16) (pc' := 42) (same := false) rfl (hb hby d2_16) rfl (decide_eq_false fun q => hne (Value.ref.inj q)) (by decide) (by decide) hr) ?_
  show OwnR _ _ _ _ _ _ _ (T3.setTop (mkF m 42 #[.val (.int (162 : Int32)), .val (.ref a2), .val (.ref s_UNSUBSCRIBE)] []))
  refine OwnR.of (fun _ hr => XS.aloadN X3.here hx rfl (hb hby d2_42) rfl rfl hr) ?_
  show OwnR _ _ _ _ _ _ _ (T3.setTop (mkF m 43 #[.val (.int (162 : Int32)), .val (.ref a2), .val (.ref s_UNSUBSCRIBE)] [(.ref s_UNSUBSCRIBE)]))
  refine own_leafA X3 hx hlk Bd.returns rfl rfl (hb hby d2_43) (by decide) (by decide) ?_
  show Q2_9 Z s_UNSUBSCRIBE h0 n0 _ T3.heap _
  rw [show T3.heap = h0 from e3]
  refine ⟨?_, N0, rfl⟩
  show (some (.ref s_UNSUBSCRIBE) : Option Value) = some (.ref s_UNSUBSCRIBE)
  rfl
theorem ef_rm2_10 (m : MethodId) (x1 : Addr) : entryFrame m #[(.int (176 : Int32)), (.ref x1)] 3 = mkF m 0 #[.val (.int (176 : Int32)), .val (.ref x1), .unset] [] := by first | (simp [entryFrame, mkF, argsToLocals, Value.category]; done) | rfl
def Q2_10 (Z : State) (s_UNSUBACK : Addr) (h0 : Heap) (n0 : Nat) (v : Option Value) (h : Heap) (L : List Loc) : Prop := v = some (.ref s_UNSUBACK) ∧ Fr n0 L ∧ h = h0
set_option maxRecDepth 65536 in
set_option maxHeartbeats 40000000 in
theorem rm2_10 (l : Launch) (Z : State) (a0 : Array Value) (hw : ∀ d ∈ tables_1, d.before a0 Z = true) (ws : List Jvm.Cond) (a2 : Addr) (sb : Addr) (kb : ClassId) (s_CONNECT s_CONNACK s_PUBLISH s_PUBACK s_PUBREC s_PUBREL s_PUBCOMP s_SUBSCRIBE s_SUBACK s_UNSUBSCRIBE s_UNSUBACK s_PINGREQ s_PINGRESP s_DISCONNECT s_AUTH : Addr) (s_V3 : Addr) (h0 : Heap) (n0 : Nat) (Z0 : n0 ≤ h0.size) (S_BY : Sta Z h0 "com/example/kurir/kurir/codec/PacketType" "BY_CODE" "[Lcom/example/kurir/kurir/codec/PacketType;" (.ref sb)) (V_sb : Arv Z h0 sb kb (.object "com/example/kurir/kurir/codec/PacketType") (16 : Int32) [.null, (.ref s_CONNECT), (.ref s_CONNACK), (.ref s_PUBLISH), (.ref s_PUBACK), (.ref s_PUBREC), (.ref s_PUBREL), (.ref s_PUBCOMP), (.ref s_SUBSCRIBE), (.ref s_SUBACK), (.ref s_UNSUBSCRIBE), (.ref s_UNSUBACK), (.ref s_PINGREQ), (.ref s_PINGRESP), (.ref s_DISCONNECT), (.ref s_AUTH)] .null) (S_AUTH : Sta Z h0 "com/example/kurir/kurir/codec/PacketType" "AUTH" "Lcom/example/kurir/kurir/codec/PacketType;" (.ref s_AUTH)) (S_V3 : Sta Z h0 "com/example/kurir/kurir/codec/ProtocolVersion" "MQTT_3_1_1" "Lcom/example/kurir/kurir/codec/ProtocolVersion;" (.ref s_V3)) (hne : s_UNSUBACK ≠ s_AUTH) :
    MetFree l (⟨"com/example/kurir/kurir/codec/PacketType", "of", "(ILcom/example/kurir/kurir/codec/ProtocolVersion;)Lcom/example/kurir/kurir/codec/PacketType;"⟩ : MethodName) (head1 (Jvm.Cond.code (⟨"com/example/kurir/kurir/codec/PacketType", "of", "(ILcom/example/kurir/kurir/codec/ProtocolVersion;)Lcom/example/kurir/kurir/codec/PacketType;"⟩ : MethodName) prog_56_method_4_code 3 (some (.object "com/example/kurir/kurir/codec/PacketType")) :: ws) ({ frames := 0, cells := 0, slots := 0, locals := 0 } : Room)) (fun a U => a = #[(.int (176 : Int32)), (.ref a2)] ∧ Z.Warmed39 U.vm ∧ U.heap = h0) (fun _ _ _ _ _ => True) (fun _ U o U' => ∃ v L, o = .returned v ∧ Q2_10 Z s_UNSUBACK h0 n0 v U'.heap L ∧ FrameEnd U o U' L ({ frames := 0, cells := 0, slots := 0, locals := 0 } : Room).cells ({ frames := 0, cells := 0, slots := 0, locals := 0 } : Room).slots) := by
  refine MetFree.of_bodySF (plainFor_of_name pn_com_example_kurir_kurir_codec_PacketType) hisR ?_
  intro p e s m args below meth c s₁ Bd hml0 hP hK
  obtain ⟨rfl, hZ, hh⟩ := hP
  have hx := Bd.exec
  have hby := Bd.bytes
  have hlk := BodyLoose.notSynchronized Bd
  have hml : c.maxLocals = 3 := hml0
  have hown : s.vm.findClass "com/example/kurir/kurir/codec/PacketType" = some m.cls := findClass_of_methodNamed Bd.named
  have hnm := (name_of_methodNamed Bd.named Bd.method).1
  have X0 : Stand p l e ({ frames := 0, cells := 0, slots := 0, locals := 0 } : Room) s m #[(.int (176 : Int32)), (.ref a2)] below meth c s₁ [] 0 0 := Stand.of_body Bd
  have e0 : s₁.heap = h0 := by rw [← hh, Bd.state]; rfl
  have N0 := Fr.nil n0
  refine OwnR.of (s := s) (Q := Q2_10 Z s_UNSUBACK h0 n0) (fun t k => castTop (ef_rm2_10 m a2) k) ?_
  show OwnR _ _ _ _ _ _ _ (s₁.setTop (mkF m 0 #[.val (.int (176 : Int32)), .val (.ref a2), .unset] []))
  obtain ⟨T1, X1, e1, st1⟩ := getS2 X0 hx hZ hown (host := "") (Or.inl (hw _ (List.mem_of_getElem? (i := 51) rfl))) Via.refl e0 S_BY (g := (mkF m 0 #[.val (.int (176 : Int32)), .val (.ref a2), .unset] [])) rfl (hb hby d2_0)
  refine OwnR.of (st1) ?_
  show OwnR _ _ _ _ _ _ _ (T1.setTop (mkF m 3 #[.val (.int (176 : Int32)), .val (.ref a2), .unset] [(.ref sb)]))
  refine OwnR.of (fun _ hr => XS.iloadN X1.here hx rfl (hb hby d2_3) rfl hr) ?_
  show OwnR _ _ _ _ _ _ _ (T1.setTop (mkF m 4 #[.val (.int (176 : Int32)), .val (.ref a2), .unset] [(.int (176 : Int32)), (.ref sb)]))
  refine OwnR.of (fun _ hr => XS.iconst X1.here hx rfl (hb hby d2_4) hr) ?_
  show OwnR _ _ _ _ _ _ _ (T1.setTop (mkF m 5 #[.val (.int (176 : Int32)), .val (.ref a2), .unset] [(.int (4 : Int32)), (.int (176 : Int32)), (.ref sb)]))
  refine OwnR.of (fun _ hr => XS.iushr X1.here hx rfl (hb hby d2_5) rfl hr) ?_
  show OwnR _ _ _ _ _ _ _ (T1.setTop (mkF m 6 #[.val (.int (176 : Int32)), .val (.ref a2), .unset] [(.int (((176 : Int32).toUInt32 >>> ((4 : Int32) &&& 31).toUInt32).toInt32)), (.ref sb)]))
  rw [(by decide : (((176 : Int32).toUInt32 >>> ((4 : Int32) &&& 31).toUInt32).toInt32) = (11 : Int32))]
  show OwnR _ _ _ _ _ _ _ (T1.setTop (mkF m 6 #[.val (.int (176 : Int32)), .val (.ref a2), .unset] [(.int (11 : Int32)), (.ref sb)]))
  obtain ⟨cl2, Ar2, -, S2, N2, H2, G2⟩ := id V_sb
  have hin2 : ¬ ((11 : Int32) < 0 ∨ cl2.slots.size ≤ ((11 : Int32)).toNatClampNeg) := (inb_of S2 ⟨by decide, by decide⟩)
  refine OwnR.of (X1.aaload hx (j := (11 : Int32)) (v := (.ref s_UNSUBACK)) (by rw [e1]; exact Ar2.1) (State.isArrayOf_alike hZ.alike Ar2.2.1) rfl Ar2.2.2 hin2 (Has.at H2 hin2 rfl) (g := (mkF m 6 #[.val (.int (176 : Int32)), .val (.ref a2), .unset] [(.int (11 : Int32)), (.ref sb)])) rfl rfl (hb hby d2_6)) ?_
  show OwnR _ _ _ _ _ _ _ (T1.setTop (mkF m 7 #[.val (.int (176 : Int32)), .val (.ref a2), .unset] [(.ref s_UNSUBACK)]))
  refine OwnR.of (fun _ hr => XS.astoreN X1.here hx rfl (hb hby d2_7) rfl rfl (l' := #[.val (.int (176 : Int32)), .val (.ref a2), .val (.ref s_UNSUBACK)]) rfl hr) ?_
  show OwnR _ _ _ _ _ _ _ (T1.setTop (mkF m 8 #[.val (.int (176 : Int32)), .val (.ref a2), .val (.ref s_UNSUBACK)] []))
  refine OwnR.of (fun _ hr => XS.aloadN X1.here hx rfl (hb hby d2_8) rfl rfl hr) ?_
  show OwnR _ _ _ _ _ _ _ (T1.setTop (mkF m 9 #[.val (.int (176 : Int32)), .val (.ref a2), .val (.ref s_UNSUBACK)] [(.ref s_UNSUBACK)]))
  refine OwnR.of (fun _ hr => XS.ifnullNo X1.here hx rfl (hb hby d2_9) rfl hr) ?_
  show OwnR _ _ _ _ _ _ _ (T1.setTop (mkF m 12 #[.val (.int (176 : Int32)), .val (.ref a2), .val (.ref s_UNSUBACK)] []))
  refine OwnR.of (fun _ hr => XS.aloadN X1.here hx rfl (hb hby d2_12) rfl rfl hr) ?_
  show OwnR _ _ _ _ _ _ _ (T1.setTop (mkF m 13 #[.val (.int (176 : Int32)), .val (.ref a2), .val (.ref s_UNSUBACK)] [(.ref s_UNSUBACK)]))
  obtain ⟨T3, X3, e3, st3⟩ := getS2 X1 hx hZ hown (host := "") (Or.inl (hw _ (List.mem_of_getElem? (i := 53) rfl))) Via.refl e1 S_AUTH (g := (mkF m 13 #[.val (.int (176 : Int32)), .val (.ref a2), .val (.ref s_UNSUBACK)] [(.ref s_UNSUBACK)])) rfl (hb hby d2_13)
  refine OwnR.of (st3) ?_
  show OwnR _ _ _ _ _ _ _ (T3.setTop (mkF m 16 #[.val (.int (176 : Int32)), .val (.ref a2), .val (.ref s_UNSUBACK)] [(.ref s_AUTH), (.ref s_UNSUBACK)]))
  refine OwnR.of (fun _ hr => Jvm.RoadKit.acmp (g := (mkF m 16 #[.val (.int (176 : Int32)), .val (.ref a2), .val (.ref s_UNSUBACK)] [(.ref s_AUTH), (.ref s_UNSUBACK)])) X3 hx rfl rfl rfl (pc0 := 16) (pc' := 42) (same := false) rfl (hb hby d2_16) rfl (decide_eq_false fun q => hne (Value.ref.inj q)) (by decide) (by decide) hr) ?_
  show OwnR _ _ _ _ _ _ _ (T3.setTop (mkF m 42 #[.val (.int (176 : Int32)), .val (.ref a2), .val (.ref s_UNSUBACK)] []))
  refine OwnR.of (fun _ hr => XS.aloadN X3.here hx rfl (hb hby d2_42) rfl rfl hr) ?_
  show OwnR _ _ _ _ _ _ _ (T3.setTop (mkF m 43 #[.val (.int (176 : Int32)), .val (.ref a2), .val (.ref s_UNSUBACK)] [(.ref s_UNSUBACK)]))
  refine own_leafA X3 hx hlk Bd.returns rfl rfl (hb hby d2_43) (by decide) (by decide) ?_
  show Q2_10 Z s_UNSUBACK h0 n0 _ T3.heap _
  rw [show T3.heap = h0 from e3]
  refine ⟨?_, N0, rfl⟩
  show (some (.ref s_UNSUBACK) : Option Value) = some (.ref s_UNSUBACK)
  rfl
theorem ef_rm2_11 (m : MethodId) (x1 : Addr) : entryFrame m #[(.int (192 : Int32)), (.ref x1)] 3 = mkF m 0 #[.val (.int (192 : Int32)), .val (.ref x1), .unset] [] := by first | (simp [entryFrame, mkF, argsToLocals, Value.category]; done) | rfl
def Q2_11 (Z : State) (s_PINGREQ : Addr) (h0 : Heap) (n0 : Nat) (v : Option Value) (h : Heap) (L : List Loc) : Prop := v = some (.ref s_PINGREQ) ∧ Fr n0 L ∧ h = h0
set_option maxRecDepth 65536 in
set_option maxHeartbeats 40000000 in
theorem rm2_11 (l : Launch) (Z : State) (a0 : Array Value) (hw : ∀ d ∈ tables_1, d.before a0 Z = true) (ws : List Jvm.Cond) (a2 : Addr) (sb : Addr) (kb : ClassId) (s_CONNECT s_CONNACK s_PUBLISH s_PUBACK s_PUBREC s_PUBREL s_PUBCOMP s_SUBSCRIBE s_SUBACK s_UNSUBSCRIBE s_UNSUBACK s_PINGREQ s_PINGRESP s_DISCONNECT s_AUTH : Addr) (s_V3 : Addr) (h0 : Heap) (n0 : Nat) (Z0 : n0 ≤ h0.size) (S_BY : Sta Z h0 "com/example/kurir/kurir/codec/PacketType" "BY_CODE" "[Lcom/example/kurir/kurir/codec/PacketType;" (.ref sb)) (V_sb : Arv Z h0 sb kb (.object "com/example/kurir/kurir/codec/PacketType") (16 : Int32) [.null, (.ref s_CONNECT), (.ref s_CONNACK), (.ref s_PUBLISH), (.ref s_PUBACK), (.ref s_PUBREC), (.ref s_PUBREL), (.ref s_PUBCOMP), (.ref s_SUBSCRIBE), (.ref s_SUBACK), (.ref s_UNSUBSCRIBE), (.ref s_UNSUBACK), (.ref s_PINGREQ), (.ref s_PINGRESP), (.ref s_DISCONNECT), (.ref s_AUTH)] .null) (S_AUTH : Sta Z h0 "com/example/kurir/kurir/codec/PacketType" "AUTH" "Lcom/example/kurir/kurir/codec/PacketType;" (.ref s_AUTH)) (S_V3 : Sta Z h0 "com/example/kurir/kurir/codec/ProtocolVersion" "MQTT_3_1_1" "Lcom/example/kurir/kurir/codec/ProtocolVersion;" (.ref s_V3)) (hne : s_PINGREQ ≠ s_AUTH) :
    MetFree l (⟨"com/example/kurir/kurir/codec/PacketType", "of", "(ILcom/example/kurir/kurir/codec/ProtocolVersion;)Lcom/example/kurir/kurir/codec/PacketType;"⟩ : MethodName) (head1 (Jvm.Cond.code (⟨"com/example/kurir/kurir/codec/PacketType", "of", "(ILcom/example/kurir/kurir/codec/ProtocolVersion;)Lcom/example/kurir/kurir/codec/PacketType;"⟩ : MethodName) prog_56_method_4_code 3 (some (.object "com/example/kurir/kurir/codec/PacketType")) :: ws) ({ frames := 0, cells := 0, slots := 0, locals := 0 } : Room)) (fun a U => a = #[(.int (192 : Int32)), (.ref a2)] ∧ Z.Warmed39 U.vm ∧ U.heap = h0) (fun _ _ _ _ _ => True) (fun _ U o U' => ∃ v L, o = .returned v ∧ Q2_11 Z s_PINGREQ h0 n0 v U'.heap L ∧ FrameEnd U o U' L ({ frames := 0, cells := 0, slots := 0, locals := 0 } : Room).cells ({ frames := 0, cells := 0, slots := 0, locals := 0 } : Room).slots) := by
  refine MetFree.of_bodySF (plainFor_of_name pn_com_example_kurir_kurir_codec_PacketType) hisR ?_
  intro p e s m args below meth c s₁ Bd hml0 hP hK
  obtain ⟨rfl, hZ, hh⟩ := hP
  have hx := Bd.exec
  have hby := Bd.bytes
  have hlk := BodyLoose.notSynchronized Bd
  have hml : c.maxLocals = 3 := hml0
  have hown : s.vm.findClass "com/example/kurir/kurir/codec/PacketType" = some m.cls := findClass_of_methodNamed Bd.named
  have hnm := (name_of_methodNamed Bd.named Bd.method).1
  have X0 : Stand p l e ({ frames := 0, cells := 0, slots := 0, locals := 0 } : Room) s m #[(.int (192 : Int32)), (.ref a2)] below meth c s₁ [] 0 0 := Stand.of_body Bd
  have e0 : s₁.heap = h0 := by rw [← hh, Bd.state]; rfl
  have N0 := Fr.nil n0
  refine OwnR.of (s := s) (Q := Q2_11 Z s_PINGREQ h0 n0) (fun t k => castTop (ef_rm2_11 m a2) k) ?_
  show OwnR _ _ _ _ _ _ _ (s₁.setTop (mkF m 0 #[.val (.int (192 : Int32)), .val (.ref a2), .unset] []))
  obtain ⟨T1, X1, e1, st1⟩ := getS2 X0 hx hZ hown (host := "") (Or.inl (hw _ (List.mem_of_getElem? (i := 51) rfl))) Via.refl e0 S_BY (g := (mkF m 0 #[.val (.int (192 : Int32)), .val (.ref a2), .unset] [])) rfl (hb hby d2_0)
  refine OwnR.of (st1) ?_
  show OwnR _ _ _ _ _ _ _ (T1.setTop (mkF m 3 #[.val (.int (192 : Int32)), .val (.ref a2), .unset] [(.ref sb)]))
  refine OwnR.of (fun _ hr => XS.iloadN X1.here hx rfl (hb hby d2_3) rfl hr) ?_
  show OwnR _ _ _ _ _ _ _ (T1.setTop (mkF m 4 #[.val (.int (192 : Int32)), .val (.ref a2), .unset] [(.int (192 : Int32)), (.ref sb)]))
  refine OwnR.of (fun _ hr => XS.iconst X1.here hx rfl (hb hby d2_4) hr) ?_
  show OwnR _ _ _ _ _ _ _ (T1.setTop (mkF m 5 #[.val (.int (192 : Int32)), .val (.ref a2), .unset] [(.int (4 : Int32)), (.int (192 : Int32)), (.ref sb)]))
  refine OwnR.of (fun _ hr => XS.iushr X1.here hx rfl (hb hby d2_5) rfl hr) ?_
  show OwnR _ _ _ _ _ _ _ (T1.setTop (mkF m 6 #[.val (.int (192 : Int32)), .val (.ref a2), .unset] [(.int (((192 : Int32).toUInt32 >>> ((4 : Int32) &&& 31).toUInt32).toInt32)), (.ref sb)]))
  rw [(by decide : (((192 : Int32).toUInt32 >>> ((4 : Int32) &&& 31).toUInt32).toInt32) = (12 : Int32))]
  show OwnR _ _ _ _ _ _ _ (T1.setTop (mkF m 6 #[.val (.int (192 : Int32)), .val (.ref a2), .unset] [(.int (12 : Int32)), (.ref sb)]))
  obtain ⟨cl2, Ar2, -, S2, N2, H2, G2⟩ := id V_sb
  have hin2 : ¬ ((12 : Int32) < 0 ∨ cl2.slots.size ≤ ((12 : Int32)).toNatClampNeg) := (inb_of S2 ⟨by decide, by decide⟩)
  refine OwnR.of (X1.aaload hx (j := (12 : Int32)) (v := (.ref s_PINGREQ)) (by rw [e1]; exact Ar2.1) (State.isArrayOf_alike hZ.alike Ar2.2.1) rfl Ar2.2.2 hin2 (Has.at H2 hin2 rfl) (g := (mkF m 6 #[.val (.int (192 : Int32)), .val (.ref a2), .unset] [(.int (12 : Int32)), (.ref sb)])) rfl rfl (hb hby d2_6)) ?_
  show OwnR _ _ _ _ _ _ _ (T1.setTop (mkF m 7 #[.val (.int (192 : Int32)), .val (.ref a2), .unset] [(.ref s_PINGREQ)]))
  refine OwnR.of (fun _ hr => XS.astoreN X1.here hx rfl (hb hby d2_7) rfl rfl (l' := #[.val (.int (192 : Int32)), .val (.ref a2), .val (.ref s_PINGREQ)]) rfl hr) ?_
  show OwnR _ _ _ _ _ _ _ (T1.setTop (mkF m 8 #[.val (.int (192 : Int32)), .val (.ref a2), .val (.ref s_PINGREQ)] []))
  refine OwnR.of (fun _ hr => XS.aloadN X1.here hx rfl (hb hby d2_8) rfl rfl hr) ?_
  show OwnR _ _ _ _ _ _ _ (T1.setTop (mkF m 9 #[.val (.int (192 : Int32)), .val (.ref a2), .val (.ref s_PINGREQ)] [(.ref s_PINGREQ)]))
  refine OwnR.of (fun _ hr => XS.ifnullNo X1.here hx rfl (hb hby d2_9) rfl hr) ?_
  show OwnR _ _ _ _ _ _ _ (T1.setTop (mkF m 12 #[.val (.int (192 : Int32)), .val (.ref a2), .val (.ref s_PINGREQ)] []))
  refine OwnR.of (fun _ hr => XS.aloadN X1.here hx rfl (hb hby d2_12) rfl rfl hr) ?_
  show OwnR _ _ _ _ _ _ _ (T1.setTop (mkF m 13 #[.val (.int (192 : Int32)), .val (.ref a2), .val (.ref s_PINGREQ)] [(.ref s_PINGREQ)]))
  obtain ⟨T3, X3, e3, st3⟩ := getS2 X1 hx hZ hown (host := "") (Or.inl (hw _ (List.mem_of_getElem? (i := 53) rfl))) Via.refl e1 S_AUTH (g := (mkF m 13 #[.val (.int (192 : Int32)), .val (.ref a2), .val (.ref s_PINGREQ)] [(.ref s_PINGREQ)])) rfl (hb hby d2_13)
  refine OwnR.of (st3) ?_
  show OwnR _ _ _ _ _ _ _ (T3.setTop (mkF m 16 #[.val (.int (192 : Int32)), .val (.ref a2), .val (.ref s_PINGREQ)] [(.ref s_AUTH), (.ref s_PINGREQ)]))
  refine OwnR.of (fun _ hr => Jvm.RoadKit.acmp (g := (mkF m 16 #[.val (.int (192 : Int32)), .val (.ref a2), .val (.ref s_PINGREQ)] [(.ref s_AUTH), (.ref s_PINGREQ)])) X3 hx rfl rfl rfl (pc0 := 16) (pc' := 42) (same := false) rfl (hb hby d2_16) rfl (decide_eq_false fun q => hne (Value.ref.inj q)) (by decide) (by decide) hr) ?_
  show OwnR _ _ _ _ _ _ _ (T3.setTop (mkF m 42 #[.val (.int (192 : Int32)), .val (.ref a2), .val (.ref s_PINGREQ)] []))
  refine OwnR.of (fun _ hr => XS.aloadN X3.here hx rfl (hb hby d2_42) rfl rfl hr) ?_
  show OwnR _ _ _ _ _ _ _ (T3.setTop (mkF m 43 #[.val (.int (192 : Int32)), .val (.ref a2), .val (.ref s_PINGREQ)] [(.ref s_PINGREQ)]))
  refine own_leafA X3 hx hlk Bd.returns rfl rfl (hb hby d2_43) (by decide) (by decide) ?_
  show Q2_11 Z s_PINGREQ h0 n0 _ T3.heap _
  rw [show T3.heap = h0 from e3]
  refine ⟨?_, N0, rfl⟩
  show (some (.ref s_PINGREQ) : Option Value) = some (.ref s_PINGREQ)
  rfl
theorem ef_rm2_12 (m : MethodId) (x1 : Addr) : entryFrame m #[(.int (208 : Int32)), (.ref x1)] 3 = mkF m 0 #[.val (.int (208 : Int32)), .val (.ref x1), .unset] [] := by first | (simp [entryFrame, mkF, argsToLocals, Value.category]; done) | rfl
def Q2_12 (Z : State) (s_PINGRESP : Addr) (h0 : Heap) (n0 : Nat) (v : Option Value) (h : Heap) (L : List Loc) : Prop := v = some (.ref s_PINGRESP) ∧ Fr n0 L ∧ h = h0
set_option maxRecDepth 65536 in
set_option maxHeartbeats 40000000 in
theorem rm2_12 (l : Launch) (Z : State) (a0 : Array Value) (hw : ∀ d ∈ tables_1, d.before a0 Z = true) (ws : List Jvm.Cond) (a2 : Addr) (sb : Addr) (kb : ClassId) (s_CONNECT s_CONNACK s_PUBLISH s_PUBACK s_PUBREC s_PUBREL s_PUBCOMP s_SUBSCRIBE s_SUBACK s_UNSUBSCRIBE s_UNSUBACK s_PINGREQ s_PINGRESP s_DISCONNECT s_AUTH : Addr) (s_V3 : Addr) (h0 : Heap) (n0 : Nat) (Z0 : n0 ≤ h0.size) (S_BY : Sta Z h0 "com/example/kurir/kurir/codec/PacketType" "BY_CODE" "[Lcom/example/kurir/kurir/codec/PacketType;" (.ref sb)) (V_sb : Arv Z h0 sb kb (.object "com/example/kurir/kurir/codec/PacketType") (16 : Int32) [.null, (.ref s_CONNECT), (.ref s_CONNACK), (.ref s_PUBLISH), (.ref s_PUBACK), (.ref s_PUBREC), (.ref s_PUBREL), (.ref s_PUBCOMP), (.ref s_SUBSCRIBE), (.ref s_SUBACK), (.ref s_UNSUBSCRIBE), (.ref s_UNSUBACK), (.ref s_PINGREQ), (.ref s_PINGRESP), (.ref s_DISCONNECT), (.ref s_AUTH)] .null) (S_AUTH : Sta Z h0 "com/example/kurir/kurir/codec/PacketType" "AUTH" "Lcom/example/kurir/kurir/codec/PacketType;" (.ref s_AUTH)) (S_V3 : Sta Z h0 "com/example/kurir/kurir/codec/ProtocolVersion" "MQTT_3_1_1" "Lcom/example/kurir/kurir/codec/ProtocolVersion;" (.ref s_V3)) (hne : s_PINGRESP ≠ s_AUTH) :
    MetFree l (⟨"com/example/kurir/kurir/codec/PacketType", "of", "(ILcom/example/kurir/kurir/codec/ProtocolVersion;)Lcom/example/kurir/kurir/codec/PacketType;"⟩ : MethodName) (head1 (Jvm.Cond.code (⟨"com/example/kurir/kurir/codec/PacketType", "of", "(ILcom/example/kurir/kurir/codec/ProtocolVersion;)Lcom/example/kurir/kurir/codec/PacketType;"⟩ : MethodName) prog_56_method_4_code 3 (some (.object "com/example/kurir/kurir/codec/PacketType")) :: ws) ({ frames := 0, cells := 0, slots := 0, locals := 0 } : Room)) (fun a U => a = #[(.int (208 : Int32)), (.ref a2)] ∧ Z.Warmed39 U.vm ∧ U.heap = h0) (fun _ _ _ _ _ => True) (fun _ U o U' => ∃ v L, o = .returned v ∧ Q2_12 Z s_PINGRESP h0 n0 v U'.heap L ∧ FrameEnd U o U' L ({ frames := 0, cells := 0, slots := 0, locals := 0 } : Room).cells ({ frames := 0, cells := 0, slots := 0, locals := 0 } : Room).slots) := by
  refine MetFree.of_bodySF (plainFor_of_name pn_com_example_kurir_kurir_codec_PacketType) hisR ?_
  intro p e s m args below meth c s₁ Bd hml0 hP hK
  obtain ⟨rfl, hZ, hh⟩ := hP
  have hx := Bd.exec
  have hby := Bd.bytes
  have hlk := BodyLoose.notSynchronized Bd
  have hml : c.maxLocals = 3 := hml0
  have hown : s.vm.findClass "com/example/kurir/kurir/codec/PacketType" = some m.cls := findClass_of_methodNamed Bd.named
  have hnm := (name_of_methodNamed Bd.named Bd.method).1
  have X0 : Stand p l e ({ frames := 0, cells := 0, slots := 0, locals := 0 } : Room) s m #[(.int (208 : Int32)), (.ref a2)] below meth c s₁ [] 0 0 := Stand.of_body Bd
  have e0 : s₁.heap = h0 := by rw [← hh, Bd.state]; rfl
  have N0 := Fr.nil n0
  refine OwnR.of (s := s) (Q := Q2_12 Z s_PINGRESP h0 n0) (fun t k => castTop (ef_rm2_12 m a2) k) ?_
  show OwnR _ _ _ _ _ _ _ (s₁.setTop (mkF m 0 #[.val (.int (208 : Int32)), .val (.ref a2), .unset] []))
  obtain ⟨T1, X1, e1, st1⟩ := getS2 X0 hx hZ hown (host := "") (Or.inl (hw _ (List.mem_of_getElem? (i := 51) rfl))) Via.refl e0 S_BY (g := (mkF m 0 #[.val (.int (208 : Int32)), .val (.ref a2), .unset] [])) rfl (hb hby d2_0)
  refine OwnR.of (st1) ?_
  show OwnR _ _ _ _ _ _ _ (T1.setTop (mkF m 3 #[.val (.int (208 : Int32)), .val (.ref a2), .unset] [(.ref sb)]))
  refine OwnR.of (fun _ hr => XS.iloadN X1.here hx rfl (hb hby d2_3) rfl hr) ?_
  show OwnR _ _ _ _ _ _ _ (T1.setTop (mkF m 4 #[.val (.int (208 : Int32)), .val (.ref a2), .unset] [(.int (208 : Int32)), (.ref sb)]))
  refine OwnR.of (fun _ hr => XS.iconst X1.here hx rfl (hb hby d2_4) hr) ?_
  show OwnR _ _ _ _ _ _ _ (T1.setTop (mkF m 5 #[.val (.int (208 : Int32)), .val (.ref a2), .unset] [(.int (4 : Int32)), (.int (208 : Int32)), (.ref sb)]))
  refine OwnR.of (fun _ hr => XS.iushr X1.here hx rfl (hb hby d2_5) rfl hr) ?_
  show OwnR _ _ _ _ _ _ _ (T1.setTop (mkF m 6 #[.val (.int (208 : Int32)), .val (.ref a2), .unset] [(.int (((208 : Int32).toUInt32 >>> ((4 : Int32) &&& 31).toUInt32).toInt32)), (.ref sb)]))
  rw [(by decide : (((208 : Int32).toUInt32 >>> ((4 : Int32) &&& 31).toUInt32).toInt32) = (13 : Int32))]
  show OwnR _ _ _ _ _ _ _ (T1.setTop (mkF m 6 #[.val (.int (208 : Int32)), .val (.ref a2), .unset] [(.int (13 : Int32)), (.ref sb)]))
  obtain ⟨cl2, Ar2, -, S2, N2, H2, G2⟩ := id V_sb
  have hin2 : ¬ ((13 : Int32) < 0 ∨ cl2.slots.size ≤ ((13 : Int32)).toNatClampNeg) := (inb_of S2 ⟨by decide, by decide⟩)
  refine OwnR.of (X1.aaload hx (j := (13 : Int32)) (v := (.ref s_PINGRESP)) (by rw [e1]; exact Ar2.1) (State.isArrayOf_alike hZ.alike Ar2.2.1) rfl Ar2.2.2 hin2 (Has.at H2 hin2 rfl) (g := (mkF m 6 #[.val (.int (208 : Int32)), .val (.ref a2), .unset] [(.int (13 : Int32)), (.ref sb)])) rfl rfl (hb hby d2_6)) ?_
  show OwnR _ _ _ _ _ _ _ (T1.setTop (mkF m 7 #[.val (.int (208 : Int32)), .val (.ref a2), .unset] [(.ref s_PINGRESP)]))
  refine OwnR.of (fun _ hr => XS.astoreN X1.here hx rfl (hb hby d2_7) rfl rfl (l' := #[.val (.int (208 : Int32)), .val (.ref a2), .val (.ref s_PINGRESP)]) rfl hr) ?_
  show OwnR _ _ _ _ _ _ _ (T1.setTop (mkF m 8 #[.val (.int (208 : Int32)), .val (.ref a2), .val (.ref s_PINGRESP)] []))
  refine OwnR.of (fun _ hr => XS.aloadN X1.here hx rfl (hb hby d2_8) rfl rfl hr) ?_
  show OwnR _ _ _ _ _ _ _ (T1.setTop (mkF m 9 #[.val (.int (208 : Int32)), .val (.ref a2), .val (.ref s_PINGRESP)] [(.ref s_PINGRESP)]))
  refine OwnR.of (fun _ hr => XS.ifnullNo X1.here hx rfl (hb hby d2_9) rfl hr) ?_
  show OwnR _ _ _ _ _ _ _ (T1.setTop (mkF m 12 #[.val (.int (208 : Int32)), .val (.ref a2), .val (.ref s_PINGRESP)] []))
  refine OwnR.of (fun _ hr => XS.aloadN X1.here hx rfl (hb hby d2_12) rfl rfl hr) ?_
  show OwnR _ _ _ _ _ _ _ (T1.setTop (mkF m 13 #[.val (.int (208 : Int32)), .val (.ref a2), .val (.ref s_PINGRESP)] [(.ref s_PINGRESP)]))
  obtain ⟨T3, X3, e3, st3⟩ := getS2 X1 hx hZ hown (host := "") (Or.inl (hw _ (List.mem_of_getElem? (i := 53) rfl))) Via.refl e1 S_AUTH (g := (mkF m 13 #[.val (.int (208 : Int32)), .val (.ref a2), .val (.ref s_PINGRESP)] [(.ref s_PINGRESP)])) rfl (hb hby d2_13)
  refine OwnR.of (st3) ?_
  show OwnR _ _ _ _ _ _ _ (T3.setTop (mkF m 16 #[.val (.int (208 : Int32)), .val (.ref a2), .val (.ref s_PINGRESP)] [(.ref s_AUTH), (.ref s_PINGRESP)]))
  refine OwnR.of (fun _ hr => Jvm.RoadKit.acmp (g := (mkF m 16 #[.val (.int (208 : Int32)), .val (.ref a2), .val (.ref s_PINGRESP)] [(.ref s_AUTH), (.ref s_PINGRESP)])) X3 hx rfl rfl rfl (pc0 := 16) (pc' := 42) (same := false) rfl (hb hby d2_16) rfl (decide_eq_false fun q => hne (Value.ref.inj q)) (by decide) (by decide) hr) ?_
  show OwnR _ _ _ _ _ _ _ (T3.setTop (mkF m 42 #[.val (.int (208 : Int32)), .val (.ref a2), .val (.ref s_PINGRESP)] []))
  refine OwnR.of (fun _ hr => XS.aloadN X3.here hx rfl (hb hby d2_42) rfl rfl hr) ?_
  show OwnR _ _ _ _ _ _ _ (T3.setTop (mkF m 43 #[.val (.int (208 : Int32)), .val (.ref a2), .val (.ref s_PINGRESP)] [(.ref s_PINGRESP)]))
  refine own_leafA X3 hx hlk Bd.returns rfl rfl (hb hby d2_43) (by decide) (by decide) ?_
  show Q2_12 Z s_PINGRESP h0 n0 _ T3.heap _
  rw [show T3.heap = h0 from e3]
  refine ⟨?_, N0, rfl⟩
  show (some (.ref s_PINGRESP) : Option Value) = some (.ref s_PINGRESP)
  rfl
theorem ef_rm2_13 (m : MethodId) (x1 : Addr) : entryFrame m #[(.int (224 : Int32)), (.ref x1)] 3 = mkF m 0 #[.val (.int (224 : Int32)), .val (.ref x1), .unset] [] := by first | (simp [entryFrame, mkF, argsToLocals, Value.category]; done) | rfl
def Q2_13 (Z : State) (s_DISCONNECT : Addr) (h0 : Heap) (n0 : Nat) (v : Option Value) (h : Heap) (L : List Loc) : Prop := v = some (.ref s_DISCONNECT) ∧ Fr n0 L ∧ h = h0
set_option maxRecDepth 65536 in
set_option maxHeartbeats 40000000 in
theorem rm2_13 (l : Launch) (Z : State) (a0 : Array Value) (hw : ∀ d ∈ tables_1, d.before a0 Z = true) (ws : List Jvm.Cond) (a2 : Addr) (sb : Addr) (kb : ClassId) (s_CONNECT s_CONNACK s_PUBLISH s_PUBACK s_PUBREC s_PUBREL s_PUBCOMP s_SUBSCRIBE s_SUBACK s_UNSUBSCRIBE s_UNSUBACK s_PINGREQ s_PINGRESP s_DISCONNECT s_AUTH : Addr) (s_V3 : Addr) (h0 : Heap) (n0 : Nat) (Z0 : n0 ≤ h0.size) (S_BY : Sta Z h0 "com/example/kurir/kurir/codec/PacketType" "BY_CODE" "[Lcom/example/kurir/kurir/codec/PacketType;" (.ref sb)) (V_sb : Arv Z h0 sb kb (.object "com/example/kurir/kurir/codec/PacketType") (16 : Int32) [.null, (.ref s_CONNECT), (.ref s_CONNACK), (.ref s_PUBLISH), (.ref s_PUBACK), (.ref s_PUBREC), (.ref s_PUBREL), (.ref s_PUBCOMP), (.ref s_SUBSCRIBE), (.ref s_SUBACK), (.ref s_UNSUBSCRIBE), (.ref s_UNSUBACK), (.ref s_PINGREQ), (.ref s_PINGRESP), (.ref s_DISCONNECT), (.ref s_AUTH)] .null) (S_AUTH : Sta Z h0 "com/example/kurir/kurir/codec/PacketType" "AUTH" "Lcom/example/kurir/kurir/codec/PacketType;" (.ref s_AUTH)) (S_V3 : Sta Z h0 "com/example/kurir/kurir/codec/ProtocolVersion" "MQTT_3_1_1" "Lcom/example/kurir/kurir/codec/ProtocolVersion;" (.ref s_V3)) (hne : s_DISCONNECT ≠ s_AUTH) :
    MetFree l (⟨"com/example/kurir/kurir/codec/PacketType", "of", "(ILcom/example/kurir/kurir/codec/ProtocolVersion;)Lcom/example/kurir/kurir/codec/PacketType;"⟩ : MethodName) (head1 (Jvm.Cond.code (⟨"com/example/kurir/kurir/codec/PacketType", "of", "(ILcom/example/kurir/kurir/codec/ProtocolVersion;)Lcom/example/kurir/kurir/codec/PacketType;"⟩ : MethodName) prog_56_method_4_code 3 (some (.object "com/example/kurir/kurir/codec/PacketType")) :: ws) ({ frames := 0, cells := 0, slots := 0, locals := 0 } : Room)) (fun a U => a = #[(.int (224 : Int32)), (.ref a2)] ∧ Z.Warmed39 U.vm ∧ U.heap = h0) (fun _ _ _ _ _ => True) (fun _ U o U' => ∃ v L, o = .returned v ∧ Q2_13 Z s_DISCONNECT h0 n0 v U'.heap L ∧ FrameEnd U o U' L ({ frames := 0, cells := 0, slots := 0, locals := 0 } : Room).cells ({ frames := 0, cells := 0, slots := 0, locals := 0 } : Room).slots) := by
  refine MetFree.of_bodySF (plainFor_of_name pn_com_example_kurir_kurir_codec_PacketType) hisR ?_
  intro p e s m args below meth c s₁ Bd hml0 hP hK
  obtain ⟨rfl, hZ, hh⟩ := hP
  have hx := Bd.exec
  have hby := Bd.bytes
  have hlk := BodyLoose.notSynchronized Bd
  have hml : c.maxLocals = 3 := hml0
  have hown : s.vm.findClass "com/example/kurir/kurir/codec/PacketType" = some m.cls := findClass_of_methodNamed Bd.named
  have hnm := (name_of_methodNamed Bd.named Bd.method).1
  have X0 : Stand p l e ({ frames := 0, cells := 0, slots := 0, locals := 0 } : Room) s m #[(.int (224 : Int32)), (.ref a2)] below meth c s₁ [] 0 0 := Stand.of_body Bd
  have e0 : s₁.heap = h0 := by rw [← hh, Bd.state]; rfl
  have N0 := Fr.nil n0
  refine OwnR.of (s := s) (Q := Q2_13 Z s_DISCONNECT h0 n0) (fun t k => castTop (ef_rm2_13 m a2) k) ?_
  show OwnR _ _ _ _ _ _ _ (s₁.setTop (mkF m 0 #[.val (.int (224 : Int32)), .val (.ref a2), .unset] []))
  obtain ⟨T1, X1, e1, st1⟩ := getS2 X0 hx hZ hown (host := "") (Or.inl (hw _ (List.mem_of_getElem? (i := 51) rfl))) Via.refl e0 S_BY (g := (mkF m 0 #[.val (.int (224 : Int32)), .val (.ref a2), .unset] [])) rfl (hb hby d2_0)
  refine OwnR.of (st1) ?_
  show OwnR _ _ _ _ _ _ _ (T1.setTop (mkF m 3 #[.val (.int (224 : Int32)), .val (.ref a2), .unset] [(.ref sb)]))
  refine OwnR.of (fun _ hr => XS.iloadN X1.here hx rfl (hb hby d2_3) rfl hr) ?_
  show OwnR _ _ _ _ _ _ _ (T1.setTop (mkF m 4 #[.val (.int (224 : Int32)), .val (.ref a2), .unset] [(.int (224 : Int32)), (.ref sb)]))
  refine OwnR.of (fun _ hr => XS.iconst X1.here hx rfl (hb hby d2_4) hr) ?_
  show OwnR _ _ _ _ _ _ _ (T1.setTop (mkF m 5 #[.val (.int (224 : Int32)), .val (.ref a2), .unset] [(.int (4 : Int32)), (.int (224 : Int32)), (.ref sb)]))
  refine OwnR.of (fun _ hr => XS.iushr X1.here hx rfl (hb hby d2_5) rfl hr) ?_
  show OwnR _ _ _ _ _ _ _ (T1.setTop (mkF m 6 #[.val (.int (224 : Int32)), .val (.ref a2), .unset] [(.int (((224 : Int32).toUInt32 >>> ((4 : Int32) &&& 31).toUInt32).toInt32)), (.ref sb)]))
  rw [(by decide : (((224 : Int32).toUInt32 >>> ((4 : Int32) &&& 31).toUInt32).toInt32) = (14 : Int32))]
  show OwnR _ _ _ _ _ _ _ (T1.setTop (mkF m 6 #[.val (.int (224 : Int32)), .val (.ref a2), .unset] [(.int (14 : Int32)), (.ref sb)]))
  obtain ⟨cl2, Ar2, -, S2, N2, H2, G2⟩ := id V_sb
  have hin2 : ¬ ((14 : Int32) < 0 ∨ cl2.slots.size ≤ ((14 : Int32)).toNatClampNeg) := (inb_of S2 ⟨by decide, by decide⟩)
  refine OwnR.of (X1.aaload hx (j := (14 : Int32)) (v := (.ref s_DISCONNECT)) (by rw [e1]; exact Ar2.1) (State.isArrayOf_alike hZ.alike Ar2.2.1) rfl Ar2.2.2 hin2 (Has.at H2 hin2 rfl) (g := (mkF m 6 #[.val (.int (224 : Int32)), .val (.ref a2), .unset] [(.int (14 : Int32)), (.ref sb)])) rfl rfl (hb hby d2_6)) ?_
  show OwnR _ _ _ _ _ _ _ (T1.setTop (mkF m 7 #[.val (.int (224 : Int32)), .val (.ref a2), .unset] [(.ref s_DISCONNECT)]))
  refine OwnR.of (fun _ hr => XS.astoreN X1.here hx rfl (hb hby d2_7) rfl rfl (l' := #[.val (.int (224 : Int32)), .val (.ref a2), .val (.ref s_DISCONNECT)]) rfl hr) ?_
  show OwnR _ _ _ _ _ _ _ (T1.setTop (mkF m 8 #[.val (.int (224 : Int32)), .val (.ref a2), .val (.ref s_DISCONNECT)] []))
  refine OwnR.of (fun _ hr => XS.aloadN X1.here hx rfl (hb hby d2_8) rfl rfl hr) ?_
  show OwnR _ _ _ _ _ _ _ (T1.setTop (mkF m 9 #[.val (.int (224 : Int32)), .val (.ref a2), .val (.ref s_DISCONNECT)] [(.ref s_DISCONNECT)]))
  refine OwnR.of (fun _ hr => XS.ifnullNo X1.here hx rfl (hb hby d2_9) rfl hr) ?_
  show OwnR _ _ _ _ _ _ _ (T1.setTop (mkF m 12 #[.val (.int (224 : Int32)), .val (.ref a2), .val (.ref s_DISCONNECT)] []))
  refine OwnR.of (fun _ hr => XS.aloadN X1.here hx rfl (hb hby d2_12) rfl rfl hr) ?_
  show OwnR _ _ _ _ _ _ _ (T1.setTop (mkF m 13 #[.val (.int (224 : Int32)), .val (.ref a2), .val (.ref s_DISCONNECT)] [(.ref s_DISCONNECT)]))
  obtain ⟨T3, X3, e3, st3⟩ := getS2 X1 hx hZ hown (host := "") (Or.inl (hw _ (List.mem_of_getElem? (i := 53) rfl))) Via.refl e1 S_AUTH (g := (mkF m 13 #[.val (.int (224 : Int32)), .val (.ref a2), .val (.ref s_DISCONNECT)] [(.ref s_DISCONNECT)])) rfl (hb hby d2_13)
  refine OwnR.of (st3) ?_
  show OwnR _ _ _ _ _ _ _ (T3.setTop (mkF m 16 #[.val (.int (224 : Int32)), .val (.ref a2), .val (.ref s_DISCONNECT)] [(.ref s_AUTH), (.ref s_DISCONNECT)]))
  refine OwnR.of (fun _ hr => Jvm.RoadKit.acmp (g := (mkF m 16 #[.val (.int (224 : Int32)), .val (.ref a2), .val (.ref s_DISCONNECT)] [(.ref s_AUTH), (.ref s_DISCONNECT)])) X3 hx rfl rfl rfl (pc0 := 16) (pc' := 42) (same := false) rfl (hb hby d2_16) rfl (decide_eq_false fun q => hne (Value.ref.inj q)) (by decide) (by decide) hr) ?_
  show OwnR _ _ _ _ _ _ _ (T3.setTop (mkF m 42 #[.val (.int (224 : Int32)), .val (.ref a2), .val (.ref s_DISCONNECT)] []))
  refine OwnR.of (fun _ hr => XS.aloadN X3.here hx rfl (hb hby d2_42) rfl rfl hr) ?_
  show OwnR _ _ _ _ _ _ _ (T3.setTop (mkF m 43 #[.val (.int (224 : Int32)), .val (.ref a2), .val (.ref s_DISCONNECT)] [(.ref s_DISCONNECT)]))
  refine own_leafA X3 hx hlk Bd.returns rfl rfl (hb hby d2_43) (by decide) (by decide) ?_
  show Q2_13 Z s_DISCONNECT h0 n0 _ T3.heap _
  rw [show T3.heap = h0 from e3]
  refine ⟨?_, N0, rfl⟩
  show (some (.ref s_DISCONNECT) : Option Value) = some (.ref s_DISCONNECT)
  rfl
theorem ef_rm2_14 (m : MethodId) (x1 : Addr) : entryFrame m #[(.int (240 : Int32)), (.ref x1)] 3 = mkF m 0 #[.val (.int (240 : Int32)), .val (.ref x1), .unset] [] := by first | (simp [entryFrame, mkF, argsToLocals, Value.category]; done) | rfl
theorem d2_19 : decode prog_56_method_4_code 19 = .ok (.aload_n 1, 1) := by decide +kernel
theorem d2_20 : decode prog_56_method_4_code 20 = .ok (.getstatic 78, 3) := by decide +kernel
theorem d2_23 : decode prog_56_method_4_code 23 = .ok (.if_acmp .ne 19, 3) := by decide +kernel
def Q2_14 (Z : State) (s_AUTH : Addr) (h0 : Heap) (n0 : Nat) (v : Option Value) (h : Heap) (L : List Loc) : Prop := v = some (.ref s_AUTH) ∧ Fr n0 L ∧ h = h0
set_option maxRecDepth 65536 in
set_option maxHeartbeats 40000000 in
theorem rm2_14 (l : Launch) (Z : State) (a0 : Array Value) (hw : ∀ d ∈ tables_1, d.before a0 Z = true) (ws : List Jvm.Cond) (a2 : Addr) (sb : Addr) (kb : ClassId) (s_CONNECT s_CONNACK s_PUBLISH s_PUBACK s_PUBREC s_PUBREL s_PUBCOMP s_SUBSCRIBE s_SUBACK s_UNSUBSCRIBE s_UNSUBACK s_PINGREQ s_PINGRESP s_DISCONNECT s_AUTH : Addr) (s_V3 : Addr) (h0 : Heap) (n0 : Nat) (Z0 : n0 ≤ h0.size) (S_BY : Sta Z h0 "com/example/kurir/kurir/codec/PacketType" "BY_CODE" "[Lcom/example/kurir/kurir/codec/PacketType;" (.ref sb)) (V_sb : Arv Z h0 sb kb (.object "com/example/kurir/kurir/codec/PacketType") (16 : Int32) [.null, (.ref s_CONNECT), (.ref s_CONNACK), (.ref s_PUBLISH), (.ref s_PUBACK), (.ref s_PUBREC), (.ref s_PUBREL), (.ref s_PUBCOMP), (.ref s_SUBSCRIBE), (.ref s_SUBACK), (.ref s_UNSUBSCRIBE), (.ref s_UNSUBACK), (.ref s_PINGREQ), (.ref s_PINGRESP), (.ref s_DISCONNECT), (.ref s_AUTH)] .null) (S_AUTH : Sta Z h0 "com/example/kurir/kurir/codec/PacketType" "AUTH" "Lcom/example/kurir/kurir/codec/PacketType;" (.ref s_AUTH)) (S_V3 : Sta Z h0 "com/example/kurir/kurir/codec/ProtocolVersion" "MQTT_3_1_1" "Lcom/example/kurir/kurir/codec/ProtocolVersion;" (.ref s_V3)) (hne : a2 ≠ s_V3) :
    MetFree l (⟨"com/example/kurir/kurir/codec/PacketType", "of", "(ILcom/example/kurir/kurir/codec/ProtocolVersion;)Lcom/example/kurir/kurir/codec/PacketType;"⟩ : MethodName) (head1 (Jvm.Cond.code (⟨"com/example/kurir/kurir/codec/PacketType", "of", "(ILcom/example/kurir/kurir/codec/ProtocolVersion;)Lcom/example/kurir/kurir/codec/PacketType;"⟩ : MethodName) prog_56_method_4_code 3 (some (.object "com/example/kurir/kurir/codec/PacketType")) :: ws) ({ frames := 0, cells := 0, slots := 0, locals := 0 } : Room)) (fun a U => a = #[(.int (240 : Int32)), (.ref a2)] ∧ Z.Warmed39 U.vm ∧ U.heap = h0) (fun _ _ _ _ _ => True) (fun _ U o U' => ∃ v L, o = .returned v ∧ Q2_14 Z s_AUTH h0 n0 v U'.heap L ∧ FrameEnd U o U' L ({ frames := 0, cells := 0, slots := 0, locals := 0 } : Room).cells ({ frames := 0, cells := 0, slots := 0, locals := 0 } : Room).slots) := by
  refine MetFree.of_bodySF (plainFor_of_name pn_com_example_kurir_kurir_codec_PacketType) hisR ?_
  intro p e s m args below meth c s₁ Bd hml0 hP hK
  obtain ⟨rfl, hZ, hh⟩ := hP
  have hx := Bd.exec
  have hby := Bd.bytes
  have hlk := BodyLoose.notSynchronized Bd
  have hml : c.maxLocals = 3 := hml0
  have hown : s.vm.findClass "com/example/kurir/kurir/codec/PacketType" = some m.cls := findClass_of_methodNamed Bd.named
  have hnm := (name_of_methodNamed Bd.named Bd.method).1
  have X0 : Stand p l e ({ frames := 0, cells := 0, slots := 0, locals := 0 } : Room) s m #[(.int (240 : Int32)), (.ref a2)] below meth c s₁ [] 0 0 := Stand.of_body Bd
  have e0 : s₁.heap = h0 := by rw [← hh, Bd.state]; rfl
  have N0 := Fr.nil n0
  refine OwnR.of (s := s) (Q := Q2_14 Z s_AUTH h0 n0) (fun t k => castTop (ef_rm2_14 m a2) k) ?_
  show OwnR _ _ _ _ _ _ _ (s₁.setTop (mkF m 0 #[.val (.int (240 : Int32)), .val (.ref a2), .unset] []))
  obtain ⟨T1, X1, e1, st1⟩ := getS2 X0 hx hZ hown (host := "") (Or.inl (hw _ (List.mem_of_getElem? (i := 51) rfl))) Via.refl e0 S_BY (g := (mkF m 0 #[.val (.int (240 : Int32)), .val (.ref a2), .unset] [])) rfl (hb hby d2_0)
  refine OwnR.of (st1) ?_
  show OwnR _ _ _ _ _ _ _ (T1.setTop (mkF m 3 #[.val (.int (240 : Int32)), .val (.ref a2), .unset] [(.ref sb)]))
  refine OwnR.of (fun _ hr => XS.iloadN X1.here hx rfl (hb hby d2_3) rfl hr) ?_
  show OwnR _ _ _ _ _ _ _ (T1.setTop (mkF m 4 #[.val (.int (240 : Int32)), .val (.ref a2), .unset] [(.int (240 : Int32)), (.ref sb)]))
  refine OwnR.of (fun _ hr => XS.iconst X1.here hx rfl (hb hby d2_4) hr) ?_
  show OwnR _ _ _ _ _ _ _ (T1.setTop (mkF m 5 #[.val (.int (240 : Int32)), .val (.ref a2), .unset] [(.int (4 : Int32)), (.int (240 : Int32)), (.ref sb)]))
  refine OwnR.of (fun _ hr => XS.iushr X1.here hx rfl (hb hby d2_5) rfl hr) ?_
  show OwnR _ _ _ _ _ _ _ (T1.setTop (mkF m 6 #[.val (.int (240 : Int32)), .val (.ref a2), .unset] [(.int (((240 : Int32).toUInt32 >>> ((4 : Int32) &&& 31).toUInt32).toInt32)), (.ref sb)]))
  rw [(by decide : (((240 : Int32).toUInt32 >>> ((4 : Int32) &&& 31).toUInt32).toInt32) = (15 : Int32))]
  show OwnR _ _ _ _ _ _ _ (T1.setTop (mkF m 6 #[.val (.int (240 : Int32)), .val (.ref a2), .unset] [(.int (15 : Int32)), (.ref sb)]))
  obtain ⟨cl2, Ar2, -, S2, N2, H2, G2⟩ := id V_sb
  have hin2 : ¬ ((15 : Int32) < 0 ∨ cl2.slots.size ≤ ((15 : Int32)).toNatClampNeg) := (inb_of S2 ⟨by decide, by decide⟩)
  refine OwnR.of (X1.aaload hx (j := (15 : Int32)) (v := (.ref s_AUTH)) (by rw [e1]; exact Ar2.1) (State.isArrayOf_alike hZ.alike Ar2.2.1) rfl Ar2.2.2 hin2 (Has.at H2 hin2 rfl) (g := (mkF m 6 #[.val (.int (240 : Int32)), .val (.ref a2), .unset] [(.int (15 : Int32)), (.ref sb)])) rfl rfl (hb hby d2_6)) ?_
  show OwnR _ _ _ _ _ _ _ (T1.setTop (mkF m 7 #[.val (.int (240 : Int32)), .val (.ref a2), .unset] [(.ref s_AUTH)]))
  refine OwnR.of (fun _ hr => XS.astoreN X1.here hx rfl (hb hby d2_7) rfl rfl (l' := #[.val (.int (240 : Int32)), .val (.ref a2), .val (.ref s_AUTH)]) rfl hr) ?_
  show OwnR _ _ _ _ _ _ _ (T1.setTop (mkF m 8 #[.val (.int (240 : Int32)), .val (.ref a2), .val (.ref s_AUTH)] []))
  refine OwnR.of (fun _ hr => XS.aloadN X1.here hx rfl (hb hby d2_8) rfl rfl hr) ?_
  show OwnR _ _ _ _ _ _ _ (T1.setTop (mkF m 9 #[.val (.int (240 : Int32)), .val (.ref a2), .val (.ref s_AUTH)] [(.ref s_AUTH)]))
  refine OwnR.of (fun _ hr => XS.ifnullNo X1.here hx rfl (hb hby d2_9) rfl hr) ?_
  show OwnR _ _ _ _ _ _ _ (T1.setTop (mkF m 12 #[.val (.int (240 : Int32)), .val (.ref a2), .val (.ref s_AUTH)] []))
  refine OwnR.of (fun _ hr => XS.aloadN X1.here hx rfl (hb hby d2_12) rfl rfl hr) ?_
  show OwnR _ _ _ _ _ _ _ (T1.setTop (mkF m 13 #[.val (.int (240 : Int32)), .val (.ref a2), .val (.ref s_AUTH)] [(.ref s_AUTH)]))
  obtain ⟨T3, X3, e3, st3⟩ := getS2 X1 hx hZ hown (host := "") (Or.inl (hw _ (List.mem_of_getElem? (i := 53) rfl))) Via.refl e1 S_AUTH (g := (mkF m 13 #[.val (.int (240 : Int32)), .val (.ref a2), .val (.ref s_AUTH)] [(.ref s_AUTH)])) rfl (hb hby d2_13)
  refine OwnR.of (st3) ?_
  show OwnR _ _ _ _ _ _ _ (T3.setTop (mkF m 16 #[.val (.int (240 : Int32)), .val (.ref a2), .val (.ref s_AUTH)] [(.ref s_AUTH), (.ref s_AUTH)]))
  refine OwnR.of (fun _ hr => Jvm.RoadKit.acmp (g := (mkF m 16 #[.val (.int (240 : Int32)), .val (.ref a2), .val (.ref s_AUTH)] [(.ref s_AUTH), (.ref s_AUTH)])) X3 hx rfl rfl rfl (pc0 := 16) (pc' := 19) (same := true) rfl (hb hby d2_16) rfl (decide_eq_true rfl) (by decide) (by decide) hr) ?_
  show OwnR _ _ _ _ _ _ _ (T3.setTop (mkF m 19 #[.val (.int (240 : Int32)), .val (.ref a2), .val (.ref s_AUTH)] []))
  refine OwnR.of (fun _ hr => XS.aloadN X3.here hx rfl (hb hby d2_19) rfl rfl hr) ?_
  show OwnR _ _ _ _ _ _ _ (T3.setTop (mkF m 20 #[.val (.int (240 : Int32)), .val (.ref a2), .val (.ref s_AUTH)] [(.ref a2)]))
  obtain ⟨T4, X4, e4, st4⟩ := getS2 X3 hx hZ hown (host := "") (Or.inl (hw _ (List.mem_of_getElem? (i := 54) rfl))) Via.refl e3 S_V3 (g := (mkF m 20 #[.val (.int (240 : Int32)), .val (.ref a2), .val (.ref s_AUTH)] [(.ref a2)])) rfl (hb hby d2_20)
  refine OwnR.of (st4) ?_
  show OwnR _ _ _ _ _ _ _ (T4.setTop (mkF m 23 #[.val (.int (240 : Int32)), .val (.ref a2), .val (.ref s_AUTH)] [(.ref s_V3), (.ref a2)]))
  refine OwnR.of (fun _ hr => Jvm.RoadKit.acmp (g := (mkF m 23 #[.val (.int (240 : Int32)), .val (.ref a2), .val (.ref s_AUTH)] [(.ref s_V3), (.ref a2)])) X4 hx rfl rfl rfl (pc0 := 23) (pc' := 42) (same := false) rfl (hb hby d2_23) rfl (decide_eq_false fun q => hne (Value.ref.inj q)) (by decide) (by decide) hr) ?_
  show OwnR _ _ _ _ _ _ _ (T4.setTop (mkF m 42 #[.val (.int (240 : Int32)), .val (.ref a2), .val (.ref s_AUTH)] []))
  refine OwnR.of (fun _ hr => XS.aloadN X4.here hx rfl (hb hby d2_42) rfl rfl hr) ?_
  show OwnR _ _ _ _ _ _ _ (T4.setTop (mkF m 43 #[.val (.int (240 : Int32)), .val (.ref a2), .val (.ref s_AUTH)] [(.ref s_AUTH)]))
  refine own_leafA X4 hx hlk Bd.returns rfl rfl (hb hby d2_43) (by decide) (by decide) ?_
  show Q2_14 Z s_AUTH h0 n0 _ T4.heap _
  rw [show T4.heap = h0 from e4]
  refine ⟨?_, N0, rfl⟩
  show (some (.ref s_AUTH) : Option Value) = some (.ref s_AUTH)
  rfl
theorem pn_com_example_kurir_kurir_codec_PacketTypeFirstBytePinLaw : plainName "com/example/kurir/kurir/codec/PacketTypeFirstBytePinLaw" = true := by first | (simp [plainName, overriddenIn]; done) | decide +kernel
theorem ef_rm0 (m : MethodId) (x0 : Int32) (x1 : Int32) : entryFrame m #[(.int x0), (.int x1)] maxLocals = mkF m 0 #[.val (.int x0), .val (.int x1), .unset, .unset, .unset, .unset, .unset, .unset] [] := by first | (simp [entryFrame, mkF, argsToLocals, Value.category, maxLocals]; done) | rfl
theorem pd___I : parseMethodDescriptor "()I" = some ⟨[], some .int⟩ := by decide +kernel
theorem pd__ILcom_example_kurir_kurir_codec_ProtocolVersion__Lcom_example_kurir_kurir_codec_PacketType_ : parseMethodDescriptor "(ILcom/example/kurir/kurir/codec/ProtocolVersion;)Lcom/example/kurir/kurir/codec/PacketType;" = some ⟨[.int, (.object "com/example/kurir/kurir/codec/ProtocolVersion")], some (.object "com/example/kurir/kurir/codec/PacketType")⟩ := by decide +kernel
def Q0 (Z : State)  (h0 : Heap) (n0 : Nat) (v : Option Value) (h : Heap) (L : List Loc) : Prop := v = some (.int (1 : Int32)) ∧ Fr n0 L
set_option maxRecDepth 65536 in
set_option maxHeartbeats 40000000 in
theorem rm0 (l : Launch) (Z : State) (a0 : Array Value) (hw : ∀ d ∈ tables_1, d.before a0 Z = true) (ws : List Jvm.Cond) (p1 : Int32) (p2 : Int32) (sb : Addr) (kb : ClassId) (s_CONNECT s_CONNACK s_PUBLISH s_PUBACK s_PUBREC s_PUBREL s_PUBCOMP s_SUBSCRIBE s_SUBACK s_UNSUBSCRIBE s_UNSUBACK s_PINGREQ s_PINGRESP s_DISCONNECT s_AUTH : Addr) (s_V3 : Addr) (s_V5 : Addr) (h0 : Heap) (n0 : Nat) (Z0 : n0 ≤ h0.size) (S_BY : Sta Z h0 "com/example/kurir/kurir/codec/PacketType" "BY_CODE" "[Lcom/example/kurir/kurir/codec/PacketType;" (.ref sb)) (V_sb : Arv Z h0 sb kb (.object "com/example/kurir/kurir/codec/PacketType") (16 : Int32) [.null, (.ref s_CONNECT), (.ref s_CONNACK), (.ref s_PUBLISH), (.ref s_PUBACK), (.ref s_PUBREC), (.ref s_PUBREL), (.ref s_PUBCOMP), (.ref s_SUBSCRIBE), (.ref s_SUBACK), (.ref s_UNSUBSCRIBE), (.ref s_UNSUBACK), (.ref s_PINGREQ), (.ref s_PINGRESP), (.ref s_DISCONNECT), (.ref s_AUTH)] .null) (S_AUTH : Sta Z h0 "com/example/kurir/kurir/codec/PacketType" "AUTH" "Lcom/example/kurir/kurir/codec/PacketType;" (.ref s_AUTH)) (S_V3 : Sta Z h0 "com/example/kurir/kurir/codec/ProtocolVersion" "MQTT_3_1_1" "Lcom/example/kurir/kurir/codec/ProtocolVersion;" (.ref s_V3)) (S_V5 : Sta Z h0 "com/example/kurir/kurir/codec/ProtocolVersion" "MQTT_5" "Lcom/example/kurir/kurir/codec/ProtocolVersion;" (.ref s_V5)) (S_CONNECT : Sta Z h0 "com/example/kurir/kurir/codec/PacketType" "CONNECT" "Lcom/example/kurir/kurir/codec/PacketType;" (.ref s_CONNECT)) (E_CONNECT : Exa Z h0 s_CONNECT "com/example/kurir/kurir/codec/PacketType") (Fc_CONNECT : Fld Z h0 s_CONNECT "com/example/kurir/kurir/codec/PacketType" "code" "I" (.int (1 : Int32))) (Ff_CONNECT : Fld Z h0 s_CONNECT "com/example/kurir/kurir/codec/PacketType" "flags" "I" (.int (0 : Int32))) (S_CONNACK : Sta Z h0 "com/example/kurir/kurir/codec/PacketType" "CONNACK" "Lcom/example/kurir/kurir/codec/PacketType;" (.ref s_CONNACK)) (E_CONNACK : Exa Z h0 s_CONNACK "com/example/kurir/kurir/codec/PacketType") (Fc_CONNACK : Fld Z h0 s_CONNACK "com/example/kurir/kurir/codec/PacketType" "code" "I" (.int (2 : Int32))) (Ff_CONNACK : Fld Z h0 s_CONNACK "com/example/kurir/kurir/codec/PacketType" "flags" "I" (.int (0 : Int32))) (S_PUBLISH : Sta Z h0 "com/example/kurir/kurir/codec/PacketType" "PUBLISH" "Lcom/example/kurir/kurir/codec/PacketType;" (.ref s_PUBLISH)) (E_PUBLISH : Exa Z h0 s_PUBLISH "com/example/kurir/kurir/codec/PacketType") (Fc_PUBLISH : Fld Z h0 s_PUBLISH "com/example/kurir/kurir/codec/PacketType" "code" "I" (.int (3 : Int32))) (Ff_PUBLISH : Fld Z h0 s_PUBLISH "com/example/kurir/kurir/codec/PacketType" "flags" "I" (.int (-1 : Int32))) (S_PUBACK : Sta Z h0 "com/example/kurir/kurir/codec/PacketType" "PUBACK" "Lcom/example/kurir/kurir/codec/PacketType;" (.ref s_PUBACK)) (E_PUBACK : Exa Z h0 s_PUBACK "com/example/kurir/kurir/codec/PacketType") (Fc_PUBACK : Fld Z h0 s_PUBACK "com/example/kurir/kurir/codec/PacketType" "code" "I" (.int (4 : Int32))) (Ff_PUBACK : Fld Z h0 s_PUBACK "com/example/kurir/kurir/codec/PacketType" "flags" "I" (.int (0 : Int32))) (S_PUBREC : Sta Z h0 "com/example/kurir/kurir/codec/PacketType" "PUBREC" "Lcom/example/kurir/kurir/codec/PacketType;" (.ref s_PUBREC)) (E_PUBREC : Exa Z h0 s_PUBREC "com/example/kurir/kurir/codec/PacketType") (Fc_PUBREC : Fld Z h0 s_PUBREC "com/example/kurir/kurir/codec/PacketType" "code" "I" (.int (5 : Int32))) (Ff_PUBREC : Fld Z h0 s_PUBREC "com/example/kurir/kurir/codec/PacketType" "flags" "I" (.int (0 : Int32))) (S_PUBREL : Sta Z h0 "com/example/kurir/kurir/codec/PacketType" "PUBREL" "Lcom/example/kurir/kurir/codec/PacketType;" (.ref s_PUBREL)) (E_PUBREL : Exa Z h0 s_PUBREL "com/example/kurir/kurir/codec/PacketType") (Fc_PUBREL : Fld Z h0 s_PUBREL "com/example/kurir/kurir/codec/PacketType" "code" "I" (.int (6 : Int32))) (Ff_PUBREL : Fld Z h0 s_PUBREL "com/example/kurir/kurir/codec/PacketType" "flags" "I" (.int (2 : Int32))) (S_PUBCOMP : Sta Z h0 "com/example/kurir/kurir/codec/PacketType" "PUBCOMP" "Lcom/example/kurir/kurir/codec/PacketType;" (.ref s_PUBCOMP)) (E_PUBCOMP : Exa Z h0 s_PUBCOMP "com/example/kurir/kurir/codec/PacketType") (Fc_PUBCOMP : Fld Z h0 s_PUBCOMP "com/example/kurir/kurir/codec/PacketType" "code" "I" (.int (7 : Int32))) (Ff_PUBCOMP : Fld Z h0 s_PUBCOMP "com/example/kurir/kurir/codec/PacketType" "flags" "I" (.int (0 : Int32))) (S_SUBSCRIBE : Sta Z h0 "com/example/kurir/kurir/codec/PacketType" "SUBSCRIBE" "Lcom/example/kurir/kurir/codec/PacketType;" (.ref s_SUBSCRIBE)) (E_SUBSCRIBE : Exa Z h0 s_SUBSCRIBE "com/example/kurir/kurir/codec/PacketType") (Fc_SUBSCRIBE : Fld Z h0 s_SUBSCRIBE "com/example/kurir/kurir/codec/PacketType" "code" "I" (.int (8 : Int32))) (Ff_SUBSCRIBE : Fld Z h0 s_SUBSCRIBE "com/example/kurir/kurir/codec/PacketType" "flags" "I" (.int (2 : Int32))) (S_SUBACK : Sta Z h0 "com/example/kurir/kurir/codec/PacketType" "SUBACK" "Lcom/example/kurir/kurir/codec/PacketType;" (.ref s_SUBACK)) (E_SUBACK : Exa Z h0 s_SUBACK "com/example/kurir/kurir/codec/PacketType") (Fc_SUBACK : Fld Z h0 s_SUBACK "com/example/kurir/kurir/codec/PacketType" "code" "I" (.int (9 : Int32))) (Ff_SUBACK : Fld Z h0 s_SUBACK "com/example/kurir/kurir/codec/PacketType" "flags" "I" (.int (0 : Int32))) (S_UNSUBSCRIBE : Sta Z h0 "com/example/kurir/kurir/codec/PacketType" "UNSUBSCRIBE" "Lcom/example/kurir/kurir/codec/PacketType;" (.ref s_UNSUBSCRIBE)) (E_UNSUBSCRIBE : Exa Z h0 s_UNSUBSCRIBE "com/example/kurir/kurir/codec/PacketType") (Fc_UNSUBSCRIBE : Fld Z h0 s_UNSUBSCRIBE "com/example/kurir/kurir/codec/PacketType" "code" "I" (.int (10 : Int32))) (Ff_UNSUBSCRIBE : Fld Z h0 s_UNSUBSCRIBE "com/example/kurir/kurir/codec/PacketType" "flags" "I" (.int (2 : Int32))) (S_UNSUBACK : Sta Z h0 "com/example/kurir/kurir/codec/PacketType" "UNSUBACK" "Lcom/example/kurir/kurir/codec/PacketType;" (.ref s_UNSUBACK)) (E_UNSUBACK : Exa Z h0 s_UNSUBACK "com/example/kurir/kurir/codec/PacketType") (Fc_UNSUBACK : Fld Z h0 s_UNSUBACK "com/example/kurir/kurir/codec/PacketType" "code" "I" (.int (11 : Int32))) (Ff_UNSUBACK : Fld Z h0 s_UNSUBACK "com/example/kurir/kurir/codec/PacketType" "flags" "I" (.int (0 : Int32))) (S_PINGREQ : Sta Z h0 "com/example/kurir/kurir/codec/PacketType" "PINGREQ" "Lcom/example/kurir/kurir/codec/PacketType;" (.ref s_PINGREQ)) (E_PINGREQ : Exa Z h0 s_PINGREQ "com/example/kurir/kurir/codec/PacketType") (Fc_PINGREQ : Fld Z h0 s_PINGREQ "com/example/kurir/kurir/codec/PacketType" "code" "I" (.int (12 : Int32))) (Ff_PINGREQ : Fld Z h0 s_PINGREQ "com/example/kurir/kurir/codec/PacketType" "flags" "I" (.int (0 : Int32))) (S_PINGRESP : Sta Z h0 "com/example/kurir/kurir/codec/PacketType" "PINGRESP" "Lcom/example/kurir/kurir/codec/PacketType;" (.ref s_PINGRESP)) (E_PINGRESP : Exa Z h0 s_PINGRESP "com/example/kurir/kurir/codec/PacketType") (Fc_PINGRESP : Fld Z h0 s_PINGRESP "com/example/kurir/kurir/codec/PacketType" "code" "I" (.int (13 : Int32))) (Ff_PINGRESP : Fld Z h0 s_PINGRESP "com/example/kurir/kurir/codec/PacketType" "flags" "I" (.int (0 : Int32))) (S_DISCONNECT : Sta Z h0 "com/example/kurir/kurir/codec/PacketType" "DISCONNECT" "Lcom/example/kurir/kurir/codec/PacketType;" (.ref s_DISCONNECT)) (E_DISCONNECT : Exa Z h0 s_DISCONNECT "com/example/kurir/kurir/codec/PacketType") (Fc_DISCONNECT : Fld Z h0 s_DISCONNECT "com/example/kurir/kurir/codec/PacketType" "code" "I" (.int (14 : Int32))) (Ff_DISCONNECT : Fld Z h0 s_DISCONNECT "com/example/kurir/kurir/codec/PacketType" "flags" "I" (.int (0 : Int32))) (E_AUTH : Exa Z h0 s_AUTH "com/example/kurir/kurir/codec/PacketType") (Fc_AUTH : Fld Z h0 s_AUTH "com/example/kurir/kurir/codec/PacketType" "code" "I" (.int (15 : Int32))) (Ff_AUTH : Fld Z h0 s_AUTH "com/example/kurir/kurir/codec/PacketType" "flags" "I" (.int (0 : Int32))) (ne_CONNECT : s_CONNECT ≠ s_AUTH) (ne_CONNACK : s_CONNACK ≠ s_AUTH) (ne_PUBLISH : s_PUBLISH ≠ s_AUTH) (ne_PUBACK : s_PUBACK ≠ s_AUTH) (ne_PUBREC : s_PUBREC ≠ s_AUTH) (ne_PUBREL : s_PUBREL ≠ s_AUTH) (ne_PUBCOMP : s_PUBCOMP ≠ s_AUTH) (ne_SUBSCRIBE : s_SUBSCRIBE ≠ s_AUTH) (ne_SUBACK : s_SUBACK ≠ s_AUTH) (ne_UNSUBSCRIBE : s_UNSUBSCRIBE ≠ s_AUTH) (ne_UNSUBACK : s_UNSUBACK ≠ s_AUTH) (ne_PINGREQ : s_PINGREQ ≠ s_AUTH) (ne_PINGRESP : s_PINGRESP ≠ s_AUTH) (ne_DISCONNECT : s_DISCONNECT ≠ s_AUTH) (ne_V : s_V5 ≠ s_V3) :
    MetFree l x (head1 (Jvm.Cond.code x code maxLocals ret :: ws) room_1) (fun a U => a = #[(.int p1), (.int p2)] ∧ Z.Warmed39 U.vm ∧ U.heap = h0) (fun _ _ _ _ _ => True) (fun _ U o U' => ∃ v L, o = .returned v ∧ Q0 Z  h0 n0 v U'.heap L ∧ FrameEnd U o U' L 16 128) := by
  refine MetFree.of_bodySF (plainFor_of_name pn_com_example_kurir_kurir_codec_PacketTypeFirstBytePinLaw) hisR ?_
  intro p e s m args below meth c s₁ Bd hml0 hP hK
  obtain ⟨rfl, hZ, hh⟩ := hP
  have hx := Bd.exec
  have hby := Bd.bytes
  have hlk := BodyLoose.notSynchronized Bd
  have hml : c.maxLocals = 8 := hml0
  have hown : s.vm.findClass "com/example/kurir/kurir/codec/PacketTypeFirstBytePinLaw" = some m.cls := findClass_of_methodNamed Bd.named
  have hnm := (name_of_methodNamed Bd.named Bd.method).1
  have X0 : Stand p l e room_1 s m #[(.int p1), (.int p2)] below meth c s₁ [] 0 0 := Stand.of_body Bd
  have e0 : s₁.heap = h0 := by rw [← hh, Bd.state]; rfl
  have N0 := Fr.nil n0
  refine OwnR.of (s := s) (Q := Q0 Z  h0 n0) (fun t k => castTop (ef_rm0 m p1 p2) k) ?_
  show OwnR _ _ _ _ _ _ _ (s₁.setTop (mkF m 0 #[.val (.int p1), .val (.int p2), .unset, .unset, .unset, .unset, .unset, .unset] []))
  refine OwnR.of (fun _ hr => XS.bipush X0.here hx rfl (hb hby at_0) hr) ?_
  show OwnR _ _ _ _ _ _ _ (s₁.setTop (mkF m 2 #[.val (.int p1), .val (.int p2), .unset, .unset, .unset, .unset, .unset, .unset] [(.int (15 : Int32))]))
  obtain ⟨T1, h1, k1, X1, e1, E1, A1, AE1, O1, st1⟩ := newRE X0 hx hZ hown (hw _ (List.mem_of_getElem? (i := 0) rfl)) (hw _ (List.mem_of_getElem? (i := 1) rfl)) e0 (g := (mkF m 2 #[.val (.int p1), .val (.int p2), .unset, .unset, .unset, .unset, .unset, .unset] [(.int (15 : Int32))])) rfl (hb hby at_2) rfl (by decide) (cap := 15) (by decide) (by decide) (by decide) (by decide) (ad := "[Lcom/example/kurir/kurir/codec/PacketType;") rfl
  obtain ⟨b1, g1⟩ : ∃ z, z = h0.size := ⟨_, rfl⟩
  rw [← g1] at A1 AE1 st1
  refine OwnR.of (st1) ?_
  have gn_b1 : n0 ≤ b1 := Nat.le_trans (Nat.le_trans Z0 (Keep.refl h0 []).1) (Nat.le_of_eq g1.symm)
  have sz_b1 : h0.size ≤ b1 := Nat.le_trans (Keep.refl h0 []).1 (Nat.le_of_eq g1.symm)
  have K1 : Keep h0 h1 [] := Keep.ext (Keep.refl h0 []) E1
  have V1 : Arv Z h1 b1 k1 (.object "com/example/kurir/kurir/codec/PacketType") (15 : Int32) [.null, .null, .null, .null, .null, .null, .null, .null, .null, .null, .null, .null, .null, .null, .null] .null := (Arv.new A1 (by decide)).pad (pad_rep [] .null 15)
  show OwnR _ _ _ _ _ _ _ (T1.setTop (mkF m 5 #[.val (.int p1), .val (.int p2), .unset, .unset, .unset, .unset, .unset, .unset] [(.ref b1)]))
  refine OwnR.of (fun _ hr => XS.dup X1.here hx rfl (hb hby at_5) rfl rfl hr) ?_
  show OwnR _ _ _ _ _ _ _ (T1.setTop (mkF m 6 #[.val (.int p1), .val (.int p2), .unset, .unset, .unset, .unset, .unset, .unset] [(.ref b1), (.ref b1)]))
  refine OwnR.of (fun _ hr => XS.iconst X1.here hx rfl (hb hby at_6) hr) ?_
  show OwnR _ _ _ _ _ _ _ (T1.setTop (mkF m 7 #[.val (.int p1), .val (.int p2), .unset, .unset, .unset, .unset, .unset, .unset] [(.int (0 : Int32)), (.ref b1), (.ref b1)]))
  obtain ⟨T2, X2, e2, st2⟩ := getS2 X1 hx hZ hown (host := "") (Or.inl (hw _ (List.mem_of_getElem? (i := 2) rfl))) Via.refl e1 (own_sta S_CONNECT K1) (g := (mkF m 7 #[.val (.int p1), .val (.int p2), .unset, .unset, .unset, .unset, .unset, .unset] [(.int (0 : Int32)), (.ref b1), (.ref b1)])) rfl (hb hby at_7)
  refine OwnR.of (st2) ?_
  show OwnR _ _ _ _ _ _ _ (T2.setTop (mkF m 10 #[.val (.int p1), .val (.int p2), .unset, .unset, .unset, .unset, .unset, .unset] [(.ref s_CONNECT), (.int (0 : Int32)), (.ref b1), (.ref b1)]))
  obtain ⟨cl3, Ar3, q3, S3, N3q, H3, G3⟩ := id V1
  have hin3 : ¬ ((0 : Int32) < 0 ∨ cl3.slots.size ≤ ((0 : Int32)).toNatClampNeg) := (inb_of S3 ⟨by decide, by decide⟩)
  obtain ⟨T3, h3, X3, e3, W3, st3⟩ := stR X2 hx hZ e2 Ar3 (j := (0 : Int32)) hin3 rfl (Sto.ofV Ar3 q3 O1 (Ins.self (Exa.keep E_CONNECT K1))) (g := (mkF m 10 #[.val (.int p1), .val (.int p2), .unset, .unset, .unset, .unset, .unset, .unset] [(.ref s_CONNECT), (.int (0 : Int32)), (.ref b1), (.ref b1)])) rfl rfl (hb hby at_10)
  refine OwnR.of (st3) ?_
  have V3 := Arv.set Ar3 q3 S3 N3q H3 G3 rfl W3 0 rfl (Nat.le_of_ble_eq_true rfl)
  have V3 : Arv Z h3 b1 k1 (.object "com/example/kurir/kurir/codec/PacketType") (15 : Int32) [(.ref s_CONNECT), .null, .null, .null, .null, .null, .null, .null, .null, .null, .null, .null, .null, .null, .null] .null := V3
  have K3 : Keep h0 h3 [] := Keep.wr K1 W3 (Or.inr sz_b1)
  have N3 := Fr.snoc X3 N0 gn_b1
  show OwnR _ _ _ _ _ _ _ (T3.setTop (mkF m 11 #[.val (.int p1), .val (.int p2), .unset, .unset, .unset, .unset, .unset, .unset] [(.ref b1)]))
  refine OwnR.of (fun _ hr => XS.dup X3.here hx rfl (hb hby at_11) rfl rfl hr) ?_
  show OwnR _ _ _ _ _ _ _ (T3.setTop (mkF m 12 #[.val (.int p1), .val (.int p2), .unset, .unset, .unset, .unset, .unset, .unset] [(.ref b1), (.ref b1)]))
  refine OwnR.of (fun _ hr => XS.iconst X3.here hx rfl (hb hby at_12) hr) ?_
  show OwnR _ _ _ _ _ _ _ (T3.setTop (mkF m 13 #[.val (.int p1), .val (.int p2), .unset, .unset, .unset, .unset, .unset, .unset] [(.int (1 : Int32)), (.ref b1), (.ref b1)]))
  obtain ⟨T4, X4, e4, st4⟩ := getS2 X3 hx hZ hown (host := "") (Or.inl (hw _ (List.mem_of_getElem? (i := 6) rfl))) Via.refl e3 (own_sta S_CONNACK K3) (g := (mkF m 13 #[.val (.int p1), .val (.int p2), .unset, .unset, .unset, .unset, .unset, .unset] [(.int (1 : Int32)), (.ref b1), (.ref b1)])) rfl (hb hby at_13)
  refine OwnR.of (st4) ?_
  show OwnR _ _ _ _ _ _ _ (T4.setTop (mkF m 16 #[.val (.int p1), .val (.int p2), .unset, .unset, .unset, .unset, .unset, .unset] [(.ref s_CONNACK), (.int (1 : Int32)), (.ref b1), (.ref b1)]))
  obtain ⟨cl5, Ar5, q5, S5, N5q, H5, G5⟩ := id V3
  have hin5 : ¬ ((1 : Int32) < 0 ∨ cl5.slots.size ≤ ((1 : Int32)).toNatClampNeg) := (inb_of S5 ⟨by decide, by decide⟩)
  obtain ⟨T5, h5, X5, e5, W5, st5⟩ := stR X4 hx hZ e4 Ar5 (j := (1 : Int32)) hin5 rfl (Sto.ofV Ar5 q5 O1 (Ins.self (Exa.keep E_CONNACK K3))) (g := (mkF m 16 #[.val (.int p1), .val (.int p2), .unset, .unset, .unset, .unset, .unset, .unset] [(.ref s_CONNACK), (.int (1 : Int32)), (.ref b1), (.ref b1)])) rfl rfl (hb hby at_16)
  refine OwnR.of (st5) ?_
  have V5 := Arv.set Ar5 q5 S5 N5q H5 G5 rfl W5 1 rfl (Nat.le_of_ble_eq_true rfl)
  have V5 : Arv Z h5 b1 k1 (.object "com/example/kurir/kurir/codec/PacketType") (15 : Int32) [(.ref s_CONNECT), (.ref s_CONNACK), .null, .null, .null, .null, .null, .null, .null, .null, .null, .null, .null, .null, .null] .null := V5
  have K5 : Keep h0 h5 [] := Keep.wr K3 W5 (Or.inr sz_b1)
  have N5 := Fr.snoc X5 N3 gn_b1
  show OwnR _ _ _ _ _ _ _ (T5.setTop (mkF m 17 #[.val (.int p1), .val (.int p2), .unset, .unset, .unset, .unset, .unset, .unset] [(.ref b1)]))
  refine OwnR.of (fun _ hr => XS.dup X5.here hx rfl (hb hby at_17) rfl rfl hr) ?_
  show OwnR _ _ _ _ _ _ _ (T5.setTop (mkF m 18 #[.val (.int p1), .val (.int p2), .unset, .unset, .unset, .unset, .unset, .unset] [(.ref b1), (.ref b1)]))
  refine OwnR.of (fun _ hr => XS.iconst X5.here hx rfl (hb hby at_18) hr) ?_
  show OwnR _ _ _ _ _ _ _ (T5.setTop (mkF m 19 #[.val (.int p1), .val (.int p2), .unset, .unset, .unset, .unset, .unset, .unset] [(.int (2 : Int32)), (.ref b1), (.ref b1)]))
  obtain ⟨T6, X6, e6, st6⟩ := getS2 X5 hx hZ hown (host := "") (Or.inl (hw _ (List.mem_of_getElem? (i := 8) rfl))) Via.refl e5 (own_sta S_PUBLISH K5) (g := (mkF m 19 #[.val (.int p1), .val (.int p2), .unset, .unset, .unset, .unset, .unset, .unset] [(.int (2 : Int32)), (.ref b1), (.ref b1)])) rfl (hb hby at_19)
  refine OwnR.of (st6) ?_
  show OwnR _ _ _ _ _ _ _ (T6.setTop (mkF m 22 #[.val (.int p1), .val (.int p2), .unset, .unset, .unset, .unset, .unset, .unset] [(.ref s_PUBLISH), (.int (2 : Int32)), (.ref b1), (.ref b1)]))
  obtain ⟨cl7, Ar7, q7, S7, N7q, H7, G7⟩ := id V5
  have hin7 : ¬ ((2 : Int32) < 0 ∨ cl7.slots.size ≤ ((2 : Int32)).toNatClampNeg) := (inb_of S7 ⟨by decide, by decide⟩)
  obtain ⟨T7, h7, X7, e7, W7, st7⟩ := stR X6 hx hZ e6 Ar7 (j := (2 : Int32)) hin7 rfl (Sto.ofV Ar7 q7 O1 (Ins.self (Exa.keep E_PUBLISH K5))) (g := (mkF m 22 #[.val (.int p1), .val (.int p2), .unset, .unset, .unset, .unset, .unset, .unset] [(.ref s_PUBLISH), (.int (2 : Int32)), (.ref b1), (.ref b1)])) rfl rfl (hb hby at_22)
  refine OwnR.of (st7) ?_
  have V7 := Arv.set Ar7 q7 S7 N7q H7 G7 rfl W7 2 rfl (Nat.le_of_ble_eq_true rfl)
  have V7 : Arv Z h7 b1 k1 (.object "com/example/kurir/kurir/codec/PacketType") (15 : Int32) [(.ref s_CONNECT), (.ref s_CONNACK), (.ref s_PUBLISH), .null, .null, .null, .null, .null, .null, .null, .null, .null, .null, .null, .null] .null := V7
  have K7 : Keep h0 h7 [] := Keep.wr K5 W7 (Or.inr sz_b1)
  have N7 := Fr.snoc X7 N5 gn_b1
  show OwnR _ _ _ _ _ _ _ (T7.setTop (mkF m 23 #[.val (.int p1), .val (.int p2), .unset, .unset, .unset, .unset, .unset, .unset] [(.ref b1)]))
  refine OwnR.of (fun _ hr => XS.dup X7.here hx rfl (hb hby at_23) rfl rfl hr) ?_
  show OwnR _ _ _ _ _ _ _ (T7.setTop (mkF m 24 #[.val (.int p1), .val (.int p2), .unset, .unset, .unset, .unset, .unset, .unset] [(.ref b1), (.ref b1)]))
  refine OwnR.of (fun _ hr => XS.iconst X7.here hx rfl (hb hby at_24) hr) ?_
  show OwnR _ _ _ _ _ _ _ (T7.setTop (mkF m 25 #[.val (.int p1), .val (.int p2), .unset, .unset, .unset, .unset, .unset, .unset] [(.int (3 : Int32)), (.ref b1), (.ref b1)]))
  obtain ⟨T8, X8, e8, st8⟩ := getS2 X7 hx hZ hown (host := "") (Or.inl (hw _ (List.mem_of_getElem? (i := 10) rfl))) Via.refl e7 (own_sta S_PUBACK K7) (g := (mkF m 25 #[.val (.int p1), .val (.int p2), .unset, .unset, .unset, .unset, .unset, .unset] [(.int (3 : Int32)), (.ref b1), (.ref b1)])) rfl (hb hby at_25)
  refine OwnR.of (st8) ?_
  show OwnR _ _ _ _ _ _ _ (T8.setTop (mkF m 28 #[.val (.int p1), .val (.int p2), .unset, .unset, .unset, .unset, .unset, .unset] [(.ref s_PUBACK), (.int (3 : Int32)), (.ref b1), (.ref b1)]))
  obtain ⟨cl9, Ar9, q9, S9, N9q, H9, G9⟩ := id V7
  have hin9 : ¬ ((3 : Int32) < 0 ∨ cl9.slots.size ≤ ((3 : Int32)).toNatClampNeg) := (inb_of S9 ⟨by decide, by decide⟩)
  obtain ⟨T9, h9, X9, e9, W9, st9⟩ := stR X8 hx hZ e8 Ar9 (j := (3 : Int32)) hin9 rfl (Sto.ofV Ar9 q9 O1 (Ins.self (Exa.keep E_PUBACK K7))) (g := (mkF m 28 #[.val (.int p1), .val (.int p2), .unset, .unset, .unset, .unset, .unset, .unset] [(.ref s_PUBACK), (.int (3 : Int32)), (.ref b1), (.ref b1)])) rfl rfl (hb hby at_28)
  refine OwnR.of (st9) ?_
  have V9 := Arv.set Ar9 q9 S9 N9q H9 G9 rfl W9 3 rfl (Nat.le_of_ble_eq_true rfl)
  have V9 : Arv Z h9 b1 k1 (.object "com/example/kurir/kurir/codec/PacketType") (15 : Int32) [(.ref s_CONNECT), (.ref s_CONNACK), (.ref s_PUBLISH), (.ref s_PUBACK), .null, .null, .null, .null, .null, .null, .null, .null, .null, .null, .null] .null := V9
  have K9 : Keep h0 h9 [] := Keep.wr K7 W9 (Or.inr sz_b1)
  have N9 := Fr.snoc X9 N7 gn_b1
  show OwnR _ _ _ _ _ _ _ (T9.setTop (mkF m 29 #[.val (.int p1), .val (.int p2), .unset, .unset, .unset, .unset, .unset, .unset] [(.ref b1)]))
  refine OwnR.of (fun _ hr => XS.dup X9.here hx rfl (hb hby at_29) rfl rfl hr) ?_
  show OwnR _ _ _ _ _ _ _ (T9.setTop (mkF m 30 #[.val (.int p1), .val (.int p2), .unset, .unset, .unset, .unset, .unset, .unset] [(.ref b1), (.ref b1)]))
  refine OwnR.of (fun _ hr => XS.iconst X9.here hx rfl (hb hby at_30) hr) ?_
  show OwnR _ _ _ _ _ _ _ (T9.setTop (mkF m 31 #[.val (.int p1), .val (.int p2), .unset, .unset, .unset, .unset, .unset, .unset] [(.int (4 : Int32)), (.ref b1), (.ref b1)]))
  obtain ⟨T10, X10, e10, st10⟩ := getS2 X9 hx hZ hown (host := "") (Or.inl (hw _ (List.mem_of_getElem? (i := 12) rfl))) Via.refl e9 (own_sta S_PUBREC K9) (g := (mkF m 31 #[.val (.int p1), .val (.int p2), .unset, .unset, .unset, .unset, .unset, .unset] [(.int (4 : Int32)), (.ref b1), (.ref b1)])) rfl (hb hby at_31)
  refine OwnR.of (st10) ?_
  show OwnR _ _ _ _ _ _ _ (T10.setTop (mkF m 34 #[.val (.int p1), .val (.int p2), .unset, .unset, .unset, .unset, .unset, .unset] [(.ref s_PUBREC), (.int (4 : Int32)), (.ref b1), (.ref b1)]))
  obtain ⟨cl11, Ar11, q11, S11, N11q, H11, G11⟩ := id V9
  have hin11 : ¬ ((4 : Int32) < 0 ∨ cl11.slots.size ≤ ((4 : Int32)).toNatClampNeg) := (inb_of S11 ⟨by decide, by decide⟩)
  obtain ⟨T11, h11, X11, e11, W11, st11⟩ := stR X10 hx hZ e10 Ar11 (j := (4 : Int32)) hin11 rfl (Sto.ofV Ar11 q11 O1 (Ins.self (Exa.keep E_PUBREC K9))) (g := (mkF m 34 #[.val (.int p1), .val (.int p2), .unset, .unset, .unset, .unset, .unset, .unset] [(.ref s_PUBREC), (.int (4 : Int32)), (.ref b1), (.ref b1)])) rfl rfl (hb hby at_34)
  refine OwnR.of (st11) ?_
  have V11 := Arv.set Ar11 q11 S11 N11q H11 G11 rfl W11 4 rfl (Nat.le_of_ble_eq_true rfl)
  have V11 : Arv Z h11 b1 k1 (.object "com/example/kurir/kurir/codec/PacketType") (15 : Int32) [(.ref s_CONNECT), (.ref s_CONNACK), (.ref s_PUBLISH), (.ref s_PUBACK), (.ref s_PUBREC), .null, .null, .null, .null, .null, .null, .null, .null, .null, .null] .null := V11
  have K11 : Keep h0 h11 [] := Keep.wr K9 W11 (Or.inr sz_b1)
  have N11 := Fr.snoc X11 N9 gn_b1
  show OwnR _ _ _ _ _ _ _ (T11.setTop (mkF m 35 #[.val (.int p1), .val (.int p2), .unset, .unset, .unset, .unset, .unset, .unset] [(.ref b1)]))
  refine OwnR.of (fun _ hr => XS.dup X11.here hx rfl (hb hby at_35) rfl rfl hr) ?_
  show OwnR _ _ _ _ _ _ _ (T11.setTop (mkF m 36 #[.val (.int p1), .val (.int p2), .unset, .unset, .unset, .unset, .unset, .unset] [(.ref b1), (.ref b1)]))
  refine OwnR.of (fun _ hr => XS.iconst X11.here hx rfl (hb hby at_36) hr) ?_
  show OwnR _ _ _ _ _ _ _ (T11.setTop (mkF m 37 #[.val (.int p1), .val (.int p2), .unset, .unset, .unset, .unset, .unset, .unset] [(.int (5 : Int32)), (.ref b1), (.ref b1)]))
  obtain ⟨T12, X12, e12, st12⟩ := getS2 X11 hx hZ hown (host := "") (Or.inl (hw _ (List.mem_of_getElem? (i := 14) rfl))) Via.refl e11 (own_sta S_PUBREL K11) (g := (mkF m 37 #[.val (.int p1), .val (.int p2), .unset, .unset, .unset, .unset, .unset, .unset] [(.int (5 : Int32)), (.ref b1), (.ref b1)])) rfl (hb hby at_37)
  refine OwnR.of (st12) ?_
  show OwnR _ _ _ _ _ _ _ (T12.setTop (mkF m 40 #[.val (.int p1), .val (.int p2), .unset, .unset, .unset, .unset, .unset, .unset] [(.ref s_PUBREL), (.int (5 : Int32)), (.ref b1), (.ref b1)]))
  obtain ⟨cl13, Ar13, q13, S13, N13q, H13, G13⟩ := id V11
  have hin13 : ¬ ((5 : Int32) < 0 ∨ cl13.slots.size ≤ ((5 : Int32)).toNatClampNeg) := (inb_of S13 ⟨by decide, by decide⟩)
  obtain ⟨T13, h13, X13, e13, W13, st13⟩ := stR X12 hx hZ e12 Ar13 (j := (5 : Int32)) hin13 rfl (Sto.ofV Ar13 q13 O1 (Ins.self (Exa.keep E_PUBREL K11))) (g := (mkF m 40 #[.val (.int p1), .val (.int p2), .unset, .unset, .unset, .unset, .unset, .unset] [(.ref s_PUBREL), (.int (5 : Int32)), (.ref b1), (.ref b1)])) rfl rfl (hb hby at_40)
  refine OwnR.of (st13) ?_
  have V13 := Arv.set Ar13 q13 S13 N13q H13 G13 rfl W13 5 rfl (Nat.le_of_ble_eq_true rfl)
  have V13 : Arv Z h13 b1 k1 (.object "com/example/kurir/kurir/codec/PacketType") (15 : Int32) [(.ref s_CONNECT), (.ref s_CONNACK), (.ref s_PUBLISH), (.ref s_PUBACK), (.ref s_PUBREC), (.ref s_PUBREL), .null, .null, .null, .null, .null, .null, .null, .null, .null] .null := V13
  have K13 : Keep h0 h13 [] := Keep.wr K11 W13 (Or.inr sz_b1)
  have N13 := Fr.snoc X13 N11 gn_b1
  show OwnR _ _ _ _ _ _ _ (T13.setTop (mkF m 41 #[.val (.int p1), .val (.int p2), .unset, .unset, .unset, .unset, .unset, .unset] [(.ref b1)]))
  refine OwnR.of (fun _ hr => XS.dup X13.here hx rfl (hb hby at_41) rfl rfl hr) ?_
  show OwnR _ _ _ _ _ _ _ (T13.setTop (mkF m 42 #[.val (.int p1), .val (.int p2), .unset, .unset, .unset, .unset, .unset, .unset] [(.ref b1), (.ref b1)]))
  refine OwnR.of (fun _ hr => XS.bipush X13.here hx rfl (hb hby at_42) hr) ?_
  show OwnR _ _ _ _ _ _ _ (T13.setTop (mkF m 44 #[.val (.int p1), .val (.int p2), .unset, .unset, .unset, .unset, .unset, .unset] [(.int (6 : Int32)), (.ref b1), (.ref b1)]))
  obtain ⟨T14, X14, e14, st14⟩ := getS2 X13 hx hZ hown (host := "") (Or.inl (hw _ (List.mem_of_getElem? (i := 16) rfl))) Via.refl e13 (own_sta S_PUBCOMP K13) (g := (mkF m 44 #[.val (.int p1), .val (.int p2), .unset, .unset, .unset, .unset, .unset, .unset] [(.int (6 : Int32)), (.ref b1), (.ref b1)])) rfl (hb hby at_44)
  refine OwnR.of (st14) ?_
  show OwnR _ _ _ _ _ _ _ (T14.setTop (mkF m 47 #[.val (.int p1), .val (.int p2), .unset, .unset, .unset, .unset, .unset, .unset] [(.ref s_PUBCOMP), (.int (6 : Int32)), (.ref b1), (.ref b1)]))
  obtain ⟨cl15, Ar15, q15, S15, N15q, H15, G15⟩ := id V13
  have hin15 : ¬ ((6 : Int32) < 0 ∨ cl15.slots.size ≤ ((6 : Int32)).toNatClampNeg) := (inb_of S15 ⟨by decide, by decide⟩)
  obtain ⟨T15, h15, X15, e15, W15, st15⟩ := stR X14 hx hZ e14 Ar15 (j := (6 : Int32)) hin15 rfl (Sto.ofV Ar15 q15 O1 (Ins.self (Exa.keep E_PUBCOMP K13))) (g := (mkF m 47 #[.val (.int p1), .val (.int p2), .unset, .unset, .unset, .unset, .unset, .unset] [(.ref s_PUBCOMP), (.int (6 : Int32)), (.ref b1), (.ref b1)])) rfl rfl (hb hby at_47)
  refine OwnR.of (st15) ?_
  have V15 := Arv.set Ar15 q15 S15 N15q H15 G15 rfl W15 6 rfl (Nat.le_of_ble_eq_true rfl)
  have V15 : Arv Z h15 b1 k1 (.object "com/example/kurir/kurir/codec/PacketType") (15 : Int32) [(.ref s_CONNECT), (.ref s_CONNACK), (.ref s_PUBLISH), (.ref s_PUBACK), (.ref s_PUBREC), (.ref s_PUBREL), (.ref s_PUBCOMP), .null, .null, .null, .null, .null, .null, .null, .null] .null := V15
  have K15 : Keep h0 h15 [] := Keep.wr K13 W15 (Or.inr sz_b1)
  have N15 := Fr.snoc X15 N13 gn_b1
  show OwnR _ _ _ _ _ _ _ (T15.setTop (mkF m 48 #[.val (.int p1), .val (.int p2), .unset, .unset, .unset, .unset, .unset, .unset] [(.ref b1)]))
  refine OwnR.of (fun _ hr => XS.dup X15.here hx rfl (hb hby at_48) rfl rfl hr) ?_
  show OwnR _ _ _ _ _ _ _ (T15.setTop (mkF m 49 #[.val (.int p1), .val (.int p2), .unset, .unset, .unset, .unset, .unset, .unset] [(.ref b1), (.ref b1)]))
  refine OwnR.of (fun _ hr => XS.bipush X15.here hx rfl (hb hby at_49) hr) ?_
  show OwnR _ _ _ _ _ _ _ (T15.setTop (mkF m 51 #[.val (.int p1), .val (.int p2), .unset, .unset, .unset, .unset, .unset, .unset] [(.int (7 : Int32)), (.ref b1), (.ref b1)]))
  obtain ⟨T16, X16, e16, st16⟩ := getS2 X15 hx hZ hown (host := "") (Or.inl (hw _ (List.mem_of_getElem? (i := 18) rfl))) Via.refl e15 (own_sta S_SUBSCRIBE K15) (g := (mkF m 51 #[.val (.int p1), .val (.int p2), .unset, .unset, .unset, .unset, .unset, .unset] [(.int (7 : Int32)), (.ref b1), (.ref b1)])) rfl (hb hby at_51)
  refine OwnR.of (st16) ?_
  show OwnR _ _ _ _ _ _ _ (T16.setTop (mkF m 54 #[.val (.int p1), .val (.int p2), .unset, .unset, .unset, .unset, .unset, .unset] [(.ref s_SUBSCRIBE), (.int (7 : Int32)), (.ref b1), (.ref b1)]))
  obtain ⟨cl17, Ar17, q17, S17, N17q, H17, G17⟩ := id V15
  have hin17 : ¬ ((7 : Int32) < 0 ∨ cl17.slots.size ≤ ((7 : Int32)).toNatClampNeg) := (inb_of S17 ⟨by decide, by decide⟩)
  obtain ⟨T17, h17, X17, e17, W17, st17⟩ := stR X16 hx hZ e16 Ar17 (j := (7 : Int32)) hin17 rfl (Sto.ofV Ar17 q17 O1 (Ins.self (Exa.keep E_SUBSCRIBE K15))) (g := (mkF m 54 #[.val (.int p1), .val (.int p2), .unset, .unset, .unset, .unset, .unset, .unset] [(.ref s_SUBSCRIBE), (.int (7 : Int32)), (.ref b1), (.ref b1)])) rfl rfl (hb hby at_54)
  refine OwnR.of (st17) ?_
  have V17 := Arv.set Ar17 q17 S17 N17q H17 G17 rfl W17 7 rfl (Nat.le_of_ble_eq_true rfl)
  have V17 : Arv Z h17 b1 k1 (.object "com/example/kurir/kurir/codec/PacketType") (15 : Int32) [(.ref s_CONNECT), (.ref s_CONNACK), (.ref s_PUBLISH), (.ref s_PUBACK), (.ref s_PUBREC), (.ref s_PUBREL), (.ref s_PUBCOMP), (.ref s_SUBSCRIBE), .null, .null, .null, .null, .null, .null, .null] .null := V17
  have K17 : Keep h0 h17 [] := Keep.wr K15 W17 (Or.inr sz_b1)
  have N17 := Fr.snoc X17 N15 gn_b1
  show OwnR _ _ _ _ _ _ _ (T17.setTop (mkF m 55 #[.val (.int p1), .val (.int p2), .unset, .unset, .unset, .unset, .unset, .unset] [(.ref b1)]))
  refine OwnR.of (fun _ hr => XS.dup X17.here hx rfl (hb hby at_55) rfl rfl hr) ?_
  show OwnR _ _ _ _ _ _ _ (T17.setTop (mkF m 56 #[.val (.int p1), .val (.int p2), .unset, .unset, .unset, .unset, .unset, .unset] [(.ref b1), (.ref b1)]))
  refine OwnR.of (fun _ hr => XS.bipush X17.here hx rfl (hb hby at_56) hr) ?_
  show OwnR _ _ _ _ _ _ _ (T17.setTop (mkF m 58 #[.val (.int p1), .val (.int p2), .unset, .unset, .unset, .unset, .unset, .unset] [(.int (8 : Int32)), (.ref b1), (.ref b1)]))
  obtain ⟨T18, X18, e18, st18⟩ := getS2 X17 hx hZ hown (host := "") (Or.inl (hw _ (List.mem_of_getElem? (i := 20) rfl))) Via.refl e17 (own_sta S_SUBACK K17) (g := (mkF m 58 #[.val (.int p1), .val (.int p2), .unset, .unset, .unset, .unset, .unset, .unset] [(.int (8 : Int32)), (.ref b1), (.ref b1)])) rfl (hb hby at_58)
  refine OwnR.of (st18) ?_
  show OwnR _ _ _ _ _ _ _ (T18.setTop (mkF m 61 #[.val (.int p1), .val (.int p2), .unset, .unset, .unset, .unset, .unset, .unset] [(.ref s_SUBACK), (.int (8 : Int32)), (.ref b1), (.ref b1)]))
  obtain ⟨cl19, Ar19, q19, S19, N19q, H19, G19⟩ := id V17
  have hin19 : ¬ ((8 : Int32) < 0 ∨ cl19.slots.size ≤ ((8 : Int32)).toNatClampNeg) := (inb_of S19 ⟨by decide, by decide⟩)
  obtain ⟨T19, h19, X19, e19, W19, st19⟩ := stR X18 hx hZ e18 Ar19 (j := (8 : Int32)) hin19 rfl (Sto.ofV Ar19 q19 O1 (Ins.self (Exa.keep E_SUBACK K17))) (g := (mkF m 61 #[.val (.int p1), .val (.int p2), .unset, .unset, .unset, .unset, .unset, .unset] [(.ref s_SUBACK), (.int (8 : Int32)), (.ref b1), (.ref b1)])) rfl rfl (hb hby at_61)
  refine OwnR.of (st19) ?_
  have V19 := Arv.set Ar19 q19 S19 N19q H19 G19 rfl W19 8 rfl (Nat.le_of_ble_eq_true rfl)
  have V19 : Arv Z h19 b1 k1 (.object "com/example/kurir/kurir/codec/PacketType") (15 : Int32) [(.ref s_CONNECT), (.ref s_CONNACK), (.ref s_PUBLISH), (.ref s_PUBACK), (.ref s_PUBREC), (.ref s_PUBREL), (.ref s_PUBCOMP), (.ref s_SUBSCRIBE), (.ref s_SUBACK), .null, .null, .null, .null, .null, .null] .null := V19
  have K19 : Keep h0 h19 [] := Keep.wr K17 W19 (Or.inr sz_b1)
  have N19 := Fr.snoc X19 N17 gn_b1
  show OwnR _ _ _ _ _ _ _ (T19.setTop (mkF m 62 #[.val (.int p1), .val (.int p2), .unset, .unset, .unset, .unset, .unset, .unset] [(.ref b1)]))
  refine OwnR.of (fun _ hr => XS.dup X19.here hx rfl (hb hby at_62) rfl rfl hr) ?_
  show OwnR _ _ _ _ _ _ _ (T19.setTop (mkF m 63 #[.val (.int p1), .val (.int p2), .unset, .unset, .unset, .unset, .unset, .unset] [(.ref b1), (.ref b1)]))
  refine OwnR.of (fun _ hr => XS.bipush X19.here hx rfl (hb hby at_63) hr) ?_
  show OwnR _ _ _ _ _ _ _ (T19.setTop (mkF m 65 #[.val (.int p1), .val (.int p2), .unset, .unset, .unset, .unset, .unset, .unset] [(.int (9 : Int32)), (.ref b1), (.ref b1)]))
  obtain ⟨T20, X20, e20, st20⟩ := getS2 X19 hx hZ hown (host := "") (Or.inl (hw _ (List.mem_of_getElem? (i := 22) rfl))) Via.refl e19 (own_sta S_UNSUBSCRIBE K19) (g := (mkF m 65 #[.val (.int p1), .val (.int p2), .unset, .unset, .unset, .unset, .unset, .unset] [(.int (9 : Int32)), (.ref b1), (.ref b1)])) rfl (hb hby at_65)
  refine OwnR.of (st20) ?_
  show OwnR _ _ _ _ _ _ _ (T20.setTop (mkF m 68 #[.val (.int p1), .val (.int p2), .unset, .unset, .unset, .unset, .unset, .unset] [(.ref s_UNSUBSCRIBE), (.int (9 : Int32)), (.ref b1), (.ref b1)]))
  obtain ⟨cl21, Ar21, q21, S21, N21q, H21, G21⟩ := id V19
  have hin21 : ¬ ((9 : Int32) < 0 ∨ cl21.slots.size ≤ ((9 : Int32)).toNatClampNeg) := (inb_of S21 ⟨by decide, by decide⟩)
  obtain ⟨T21, h21, X21, e21, W21, st21⟩ := stR X20 hx hZ e20 Ar21 (j := (9 : Int32)) hin21 rfl (Sto.ofV Ar21 q21 O1 (Ins.self (Exa.keep E_UNSUBSCRIBE K19))) (g := (mkF m 68 #[.val (.int p1), .val (.int p2), .unset, .unset, .unset, .unset, .unset, .unset] [(.ref s_UNSUBSCRIBE), (.int (9 : Int32)), (.ref b1), (.ref b1)])) rfl rfl (hb hby at_68)
  refine OwnR.of (st21) ?_
  have V21 := Arv.set Ar21 q21 S21 N21q H21 G21 rfl W21 9 rfl (Nat.le_of_ble_eq_true rfl)
  have V21 : Arv Z h21 b1 k1 (.object "com/example/kurir/kurir/codec/PacketType") (15 : Int32) [(.ref s_CONNECT), (.ref s_CONNACK), (.ref s_PUBLISH), (.ref s_PUBACK), (.ref s_PUBREC), (.ref s_PUBREL), (.ref s_PUBCOMP), (.ref s_SUBSCRIBE), (.ref s_SUBACK), (.ref s_UNSUBSCRIBE), .null, .null, .null, .null, .null] .null := V21
  have K21 : Keep h0 h21 [] := Keep.wr K19 W21 (Or.inr sz_b1)
  have N21 := Fr.snoc X21 N19 gn_b1
  show OwnR _ _ _ _ _ _ _ (T21.setTop (mkF m 69 #[.val (.int p1), .val (.int p2), .unset, .unset, .unset, .unset, .unset, .unset] [(.ref b1)]))
  refine OwnR.of (fun _ hr => XS.dup X21.here hx rfl (hb hby at_69) rfl rfl hr) ?_
  show OwnR _ _ _ _ _ _ _ (T21.setTop (mkF m 70 #[.val (.int p1), .val (.int p2), .unset, .unset, .unset, .unset, .unset, .unset] [(.ref b1), (.ref b1)]))
  refine OwnR.of (fun _ hr => XS.bipush X21.here hx rfl (hb hby at_70) hr) ?_
  show OwnR _ _ _ _ _ _ _ (T21.setTop (mkF m 72 #[.val (.int p1), .val (.int p2), .unset, .unset, .unset, .unset, .unset, .unset] [(.int (10 : Int32)), (.ref b1), (.ref b1)]))
  obtain ⟨T22, X22, e22, st22⟩ := getS2 X21 hx hZ hown (host := "") (Or.inl (hw _ (List.mem_of_getElem? (i := 24) rfl))) Via.refl e21 (own_sta S_UNSUBACK K21) (g := (mkF m 72 #[.val (.int p1), .val (.int p2), .unset, .unset, .unset, .unset, .unset, .unset] [(.int (10 : Int32)), (.ref b1), (.ref b1)])) rfl (hb hby at_72)
  refine OwnR.of (st22) ?_
  show OwnR _ _ _ _ _ _ _ (T22.setTop (mkF m 75 #[.val (.int p1), .val (.int p2), .unset, .unset, .unset, .unset, .unset, .unset] [(.ref s_UNSUBACK), (.int (10 : Int32)), (.ref b1), (.ref b1)]))
  obtain ⟨cl23, Ar23, q23, S23, N23q, H23, G23⟩ := id V21
  have hin23 : ¬ ((10 : Int32) < 0 ∨ cl23.slots.size ≤ ((10 : Int32)).toNatClampNeg) := (inb_of S23 ⟨by decide, by decide⟩)
  obtain ⟨T23, h23, X23, e23, W23, st23⟩ := stR X22 hx hZ e22 Ar23 (j := (10 : Int32)) hin23 rfl (Sto.ofV Ar23 q23 O1 (Ins.self (Exa.keep E_UNSUBACK K21))) (g := (mkF m 75 #[.val (.int p1), .val (.int p2), .unset, .unset, .unset, .unset, .unset, .unset] [(.ref s_UNSUBACK), (.int (10 : Int32)), (.ref b1), (.ref b1)])) rfl rfl (hb hby at_75)
  refine OwnR.of (st23) ?_
  have V23 := Arv.set Ar23 q23 S23 N23q H23 G23 rfl W23 10 rfl (Nat.le_of_ble_eq_true rfl)
  have V23 : Arv Z h23 b1 k1 (.object "com/example/kurir/kurir/codec/PacketType") (15 : Int32) [(.ref s_CONNECT), (.ref s_CONNACK), (.ref s_PUBLISH), (.ref s_PUBACK), (.ref s_PUBREC), (.ref s_PUBREL), (.ref s_PUBCOMP), (.ref s_SUBSCRIBE), (.ref s_SUBACK), (.ref s_UNSUBSCRIBE), (.ref s_UNSUBACK), .null, .null, .null, .null] .null := V23
  have K23 : Keep h0 h23 [] := Keep.wr K21 W23 (Or.inr sz_b1)
  have N23 := Fr.snoc X23 N21 gn_b1
  show OwnR _ _ _ _ _ _ _ (T23.setTop (mkF m 76 #[.val (.int p1), .val (.int p2), .unset, .unset, .unset, .unset, .unset, .unset] [(.ref b1)]))
  refine OwnR.of (fun _ hr => XS.dup X23.here hx rfl (hb hby at_76) rfl rfl hr) ?_
  show OwnR _ _ _ _ _ _ _ (T23.setTop (mkF m 77 #[.val (.int p1), .val (.int p2), .unset, .unset, .unset, .unset, .unset, .unset] [(.ref b1), (.ref b1)]))
  refine OwnR.of (fun _ hr => XS.bipush X23.here hx rfl (hb hby at_77) hr) ?_
  show OwnR _ _ _ _ _ _ _ (T23.setTop (mkF m 79 #[.val (.int p1), .val (.int p2), .unset, .unset, .unset, .unset, .unset, .unset] [(.int (11 : Int32)), (.ref b1), (.ref b1)]))
  obtain ⟨T24, X24, e24, st24⟩ := getS2 X23 hx hZ hown (host := "") (Or.inl (hw _ (List.mem_of_getElem? (i := 26) rfl))) Via.refl e23 (own_sta S_PINGREQ K23) (g := (mkF m 79 #[.val (.int p1), .val (.int p2), .unset, .unset, .unset, .unset, .unset, .unset] [(.int (11 : Int32)), (.ref b1), (.ref b1)])) rfl (hb hby at_79)
  refine OwnR.of (st24) ?_
  show OwnR _ _ _ _ _ _ _ (T24.setTop (mkF m 82 #[.val (.int p1), .val (.int p2), .unset, .unset, .unset, .unset, .unset, .unset] [(.ref s_PINGREQ), (.int (11 : Int32)), (.ref b1), (.ref b1)]))
  obtain ⟨cl25, Ar25, q25, S25, N25q, H25, G25⟩ := id V23
  have hin25 : ¬ ((11 : Int32) < 0 ∨ cl25.slots.size ≤ ((11 : Int32)).toNatClampNeg) := (inb_of S25 ⟨by decide, by decide⟩)
  obtain ⟨T25, h25, X25, e25, W25, st25⟩ := stR X24 hx hZ e24 Ar25 (j := (11 : Int32)) hin25 rfl (Sto.ofV Ar25 q25 O1 (Ins.self (Exa.keep E_PINGREQ K23))) (g := (mkF m 82 #[.val (.int p1), .val (.int p2), .unset, .unset, .unset, .unset, .unset, .unset] [(.ref s_PINGREQ), (.int (11 : Int32)), (.ref b1), (.ref b1)])) rfl rfl (hb hby at_82)
  refine OwnR.of (st25) ?_
  have V25 := Arv.set Ar25 q25 S25 N25q H25 G25 rfl W25 11 rfl (Nat.le_of_ble_eq_true rfl)
  have V25 : Arv Z h25 b1 k1 (.object "com/example/kurir/kurir/codec/PacketType") (15 : Int32) [(.ref s_CONNECT), (.ref s_CONNACK), (.ref s_PUBLISH), (.ref s_PUBACK), (.ref s_PUBREC), (.ref s_PUBREL), (.ref s_PUBCOMP), (.ref s_SUBSCRIBE), (.ref s_SUBACK), (.ref s_UNSUBSCRIBE), (.ref s_UNSUBACK), (.ref s_PINGREQ), .null, .null, .null] .null := V25
  have K25 : Keep h0 h25 [] := Keep.wr K23 W25 (Or.inr sz_b1)
  have N25 := Fr.snoc X25 N23 gn_b1
  show OwnR _ _ _ _ _ _ _ (T25.setTop (mkF m 83 #[.val (.int p1), .val (.int p2), .unset, .unset, .unset, .unset, .unset, .unset] [(.ref b1)]))
  refine OwnR.of (fun _ hr => XS.dup X25.here hx rfl (hb hby at_83) rfl rfl hr) ?_
  show OwnR _ _ _ _ _ _ _ (T25.setTop (mkF m 84 #[.val (.int p1), .val (.int p2), .unset, .unset, .unset, .unset, .unset, .unset] [(.ref b1), (.ref b1)]))
  refine OwnR.of (fun _ hr => XS.bipush X25.here hx rfl (hb hby at_84) hr) ?_
  show OwnR _ _ _ _ _ _ _ (T25.setTop (mkF m 86 #[.val (.int p1), .val (.int p2), .unset, .unset, .unset, .unset, .unset, .unset] [(.int (12 : Int32)), (.ref b1), (.ref b1)]))
  obtain ⟨T26, X26, e26, st26⟩ := getS2 X25 hx hZ hown (host := "") (Or.inl (hw _ (List.mem_of_getElem? (i := 28) rfl))) Via.refl e25 (own_sta S_PINGRESP K25) (g := (mkF m 86 #[.val (.int p1), .val (.int p2), .unset, .unset, .unset, .unset, .unset, .unset] [(.int (12 : Int32)), (.ref b1), (.ref b1)])) rfl (hb hby at_86)
  refine OwnR.of (st26) ?_
  show OwnR _ _ _ _ _ _ _ (T26.setTop (mkF m 89 #[.val (.int p1), .val (.int p2), .unset, .unset, .unset, .unset, .unset, .unset] [(.ref s_PINGRESP), (.int (12 : Int32)), (.ref b1), (.ref b1)]))
  obtain ⟨cl27, Ar27, q27, S27, N27q, H27, G27⟩ := id V25
  have hin27 : ¬ ((12 : Int32) < 0 ∨ cl27.slots.size ≤ ((12 : Int32)).toNatClampNeg) := (inb_of S27 ⟨by decide, by decide⟩)
  obtain ⟨T27, h27, X27, e27, W27, st27⟩ := stR X26 hx hZ e26 Ar27 (j := (12 : Int32)) hin27 rfl (Sto.ofV Ar27 q27 O1 (Ins.self (Exa.keep E_PINGRESP K25))) (g := (mkF m 89 #[.val (.int p1), .val (.int p2), .unset, .unset, .unset, .unset, .unset, .unset] [(.ref s_PINGRESP), (.int (12 : Int32)), (.ref b1), (.ref b1)])) rfl rfl (hb hby at_89)
  refine OwnR.of (st27) ?_
  have V27 := Arv.set Ar27 q27 S27 N27q H27 G27 rfl W27 12 rfl (Nat.le_of_ble_eq_true rfl)
  have V27 : Arv Z h27 b1 k1 (.object "com/example/kurir/kurir/codec/PacketType") (15 : Int32) [(.ref s_CONNECT), (.ref s_CONNACK), (.ref s_PUBLISH), (.ref s_PUBACK), (.ref s_PUBREC), (.ref s_PUBREL), (.ref s_PUBCOMP), (.ref s_SUBSCRIBE), (.ref s_SUBACK), (.ref s_UNSUBSCRIBE), (.ref s_UNSUBACK), (.ref s_PINGREQ), (.ref s_PINGRESP), .null, .null] .null := V27
  have K27 : Keep h0 h27 [] := Keep.wr K25 W27 (Or.inr sz_b1)
  have N27 := Fr.snoc X27 N25 gn_b1
  show OwnR _ _ _ _ _ _ _ (T27.setTop (mkF m 90 #[.val (.int p1), .val (.int p2), .unset, .unset, .unset, .unset, .unset, .unset] [(.ref b1)]))
  refine OwnR.of (fun _ hr => XS.dup X27.here hx rfl (hb hby at_90) rfl rfl hr) ?_
  show OwnR _ _ _ _ _ _ _ (T27.setTop (mkF m 91 #[.val (.int p1), .val (.int p2), .unset, .unset, .unset, .unset, .unset, .unset] [(.ref b1), (.ref b1)]))
  refine OwnR.of (fun _ hr => XS.bipush X27.here hx rfl (hb hby at_91) hr) ?_
  show OwnR _ _ _ _ _ _ _ (T27.setTop (mkF m 93 #[.val (.int p1), .val (.int p2), .unset, .unset, .unset, .unset, .unset, .unset] [(.int (13 : Int32)), (.ref b1), (.ref b1)]))
  obtain ⟨T28, X28, e28, st28⟩ := getS2 X27 hx hZ hown (host := "") (Or.inl (hw _ (List.mem_of_getElem? (i := 30) rfl))) Via.refl e27 (own_sta S_DISCONNECT K27) (g := (mkF m 93 #[.val (.int p1), .val (.int p2), .unset, .unset, .unset, .unset, .unset, .unset] [(.int (13 : Int32)), (.ref b1), (.ref b1)])) rfl (hb hby at_93)
  refine OwnR.of (st28) ?_
  show OwnR _ _ _ _ _ _ _ (T28.setTop (mkF m 96 #[.val (.int p1), .val (.int p2), .unset, .unset, .unset, .unset, .unset, .unset] [(.ref s_DISCONNECT), (.int (13 : Int32)), (.ref b1), (.ref b1)]))
  obtain ⟨cl29, Ar29, q29, S29, N29q, H29, G29⟩ := id V27
  have hin29 : ¬ ((13 : Int32) < 0 ∨ cl29.slots.size ≤ ((13 : Int32)).toNatClampNeg) := (inb_of S29 ⟨by decide, by decide⟩)
  obtain ⟨T29, h29, X29, e29, W29, st29⟩ := stR X28 hx hZ e28 Ar29 (j := (13 : Int32)) hin29 rfl (Sto.ofV Ar29 q29 O1 (Ins.self (Exa.keep E_DISCONNECT K27))) (g := (mkF m 96 #[.val (.int p1), .val (.int p2), .unset, .unset, .unset, .unset, .unset, .unset] [(.ref s_DISCONNECT), (.int (13 : Int32)), (.ref b1), (.ref b1)])) rfl rfl (hb hby at_96)
  refine OwnR.of (st29) ?_
  have V29 := Arv.set Ar29 q29 S29 N29q H29 G29 rfl W29 13 rfl (Nat.le_of_ble_eq_true rfl)
  have V29 : Arv Z h29 b1 k1 (.object "com/example/kurir/kurir/codec/PacketType") (15 : Int32) [(.ref s_CONNECT), (.ref s_CONNACK), (.ref s_PUBLISH), (.ref s_PUBACK), (.ref s_PUBREC), (.ref s_PUBREL), (.ref s_PUBCOMP), (.ref s_SUBSCRIBE), (.ref s_SUBACK), (.ref s_UNSUBSCRIBE), (.ref s_UNSUBACK), (.ref s_PINGREQ), (.ref s_PINGRESP), (.ref s_DISCONNECT), .null] .null := V29
  have K29 : Keep h0 h29 [] := Keep.wr K27 W29 (Or.inr sz_b1)
  have N29 := Fr.snoc X29 N27 gn_b1
  show OwnR _ _ _ _ _ _ _ (T29.setTop (mkF m 97 #[.val (.int p1), .val (.int p2), .unset, .unset, .unset, .unset, .unset, .unset] [(.ref b1)]))
  refine OwnR.of (fun _ hr => XS.dup X29.here hx rfl (hb hby at_97) rfl rfl hr) ?_
  show OwnR _ _ _ _ _ _ _ (T29.setTop (mkF m 98 #[.val (.int p1), .val (.int p2), .unset, .unset, .unset, .unset, .unset, .unset] [(.ref b1), (.ref b1)]))
  refine OwnR.of (fun _ hr => XS.bipush X29.here hx rfl (hb hby at_98) hr) ?_
  show OwnR _ _ _ _ _ _ _ (T29.setTop (mkF m 100 #[.val (.int p1), .val (.int p2), .unset, .unset, .unset, .unset, .unset, .unset] [(.int (14 : Int32)), (.ref b1), (.ref b1)]))
  obtain ⟨T30, X30, e30, st30⟩ := getS2 X29 hx hZ hown (host := "") (Or.inl (hw _ (List.mem_of_getElem? (i := 32) rfl))) Via.refl e29 (own_sta S_AUTH K29) (g := (mkF m 100 #[.val (.int p1), .val (.int p2), .unset, .unset, .unset, .unset, .unset, .unset] [(.int (14 : Int32)), (.ref b1), (.ref b1)])) rfl (hb hby at_100)
  refine OwnR.of (st30) ?_
  show OwnR _ _ _ _ _ _ _ (T30.setTop (mkF m 103 #[.val (.int p1), .val (.int p2), .unset, .unset, .unset, .unset, .unset, .unset] [(.ref s_AUTH), (.int (14 : Int32)), (.ref b1), (.ref b1)]))
  obtain ⟨cl31, Ar31, q31, S31, N31q, H31, G31⟩ := id V29
  have hin31 : ¬ ((14 : Int32) < 0 ∨ cl31.slots.size ≤ ((14 : Int32)).toNatClampNeg) := (inb_of S31 ⟨by decide, by decide⟩)
  obtain ⟨T31, h31, X31, e31, W31, st31⟩ := stR X30 hx hZ e30 Ar31 (j := (14 : Int32)) hin31 rfl (Sto.ofV Ar31 q31 O1 (Ins.self (Exa.keep E_AUTH K29))) (g := (mkF m 103 #[.val (.int p1), .val (.int p2), .unset, .unset, .unset, .unset, .unset, .unset] [(.ref s_AUTH), (.int (14 : Int32)), (.ref b1), (.ref b1)])) rfl rfl (hb hby at_103)
  refine OwnR.of (st31) ?_
  have V31 := Arv.set Ar31 q31 S31 N31q H31 G31 rfl W31 14 rfl (Nat.le_of_ble_eq_true rfl)
  have V31 : Arv Z h31 b1 k1 (.object "com/example/kurir/kurir/codec/PacketType") (15 : Int32) [(.ref s_CONNECT), (.ref s_CONNACK), (.ref s_PUBLISH), (.ref s_PUBACK), (.ref s_PUBREC), (.ref s_PUBREL), (.ref s_PUBCOMP), (.ref s_SUBSCRIBE), (.ref s_SUBACK), (.ref s_UNSUBSCRIBE), (.ref s_UNSUBACK), (.ref s_PINGREQ), (.ref s_PINGRESP), (.ref s_DISCONNECT), (.ref s_AUTH)] .null := V31
  have K31 : Keep h0 h31 [] := Keep.wr K29 W31 (Or.inr sz_b1)
  have N31 := Fr.snoc X31 N29 gn_b1
  show OwnR _ _ _ _ _ _ _ (T31.setTop (mkF m 104 #[.val (.int p1), .val (.int p2), .unset, .unset, .unset, .unset, .unset, .unset] [(.ref b1)]))
  refine OwnR.of (fun _ hr => XS.astoreN X31.here hx rfl (hb hby at_104) rfl rfl (l' := #[.val (.int p1), .val (.int p2), .val (.ref b1), .unset, .unset, .unset, .unset, .unset]) rfl hr) ?_
  show OwnR _ _ _ _ _ _ _ (T31.setTop (mkF m 105 #[.val (.int p1), .val (.int p2), .val (.ref b1), .unset, .unset, .unset, .unset, .unset] []))
  refine OwnR.of (fun _ hr => XS.bipush X31.here hx rfl (hb hby at_105) hr) ?_
  show OwnR _ _ _ _ _ _ _ (T31.setTop (mkF m 107 #[.val (.int p1), .val (.int p2), .val (.ref b1), .unset, .unset, .unset, .unset, .unset] [(.int (15 : Int32))]))
  obtain ⟨T32, h32, k32, X32, e32, E32, A32, AE32, st32⟩ := newPE X31 hx hZ (hw _ (List.mem_of_getElem? (i := 34) rfl)) e31 (g := (mkF m 107 #[.val (.int p1), .val (.int p2), .val (.ref b1), .unset, .unset, .unset, .unset, .unset] [(.int (15 : Int32))])) rfl (hb hby at_107) rfl (by decide) (cap := 15) (by decide) (by decide) (by decide) (by decide) (ad := "[I") rfl
  obtain ⟨b32, g32⟩ : ∃ z, z = h31.size := ⟨_, rfl⟩
  rw [← g32] at A32 AE32 st32
  refine OwnR.of (st32) ?_
  have gn_b32 : n0 ≤ b32 := Nat.le_trans (Nat.le_trans Z0 K31.1) (Nat.le_of_eq g32.symm)
  have sz_b32 : h0.size ≤ b32 := Nat.le_trans K31.1 (Nat.le_of_eq g32.symm)
  have K32 : Keep h0 h32 [] := Keep.ext K31 E32
  have V32 : Arv Z h32 b32 k32 .int (15 : Int32) [(.int (0 : Int32)), (.int (0 : Int32)), (.int (0 : Int32)), (.int (0 : Int32)), (.int (0 : Int32)), (.int (0 : Int32)), (.int (0 : Int32)), (.int (0 : Int32)), (.int (0 : Int32)), (.int (0 : Int32)), (.int (0 : Int32)), (.int (0 : Int32)), (.int (0 : Int32)), (.int (0 : Int32)), (.int (0 : Int32))] (.int (0 : Int32)) := (Arv.new A32 (by decide)).pad (pad_rep [] (.int (0 : Int32)) 15)
  show OwnR _ _ _ _ _ _ _ (T32.setTop (mkF m 109 #[.val (.int p1), .val (.int p2), .val (.ref b1), .unset, .unset, .unset, .unset, .unset] [(.ref b32)]))
  refine OwnR.of (fun _ hr => XS.dup X32.here hx rfl (hb hby at_109) rfl rfl hr) ?_
  show OwnR _ _ _ _ _ _ _ (T32.setTop (mkF m 110 #[.val (.int p1), .val (.int p2), .val (.ref b1), .unset, .unset, .unset, .unset, .unset] [(.ref b32), (.ref b32)]))
  refine OwnR.of (fun _ hr => XS.iconst X32.here hx rfl (hb hby at_110) hr) ?_
  show OwnR _ _ _ _ _ _ _ (T32.setTop (mkF m 111 #[.val (.int p1), .val (.int p2), .val (.ref b1), .unset, .unset, .unset, .unset, .unset] [(.int (0 : Int32)), (.ref b32), (.ref b32)]))
  refine OwnR.of (fun _ hr => XS.bipush X32.here hx rfl (hb hby at_111) hr) ?_
  show OwnR _ _ _ _ _ _ _ (T32.setTop (mkF m 113 #[.val (.int p1), .val (.int p2), .val (.ref b1), .unset, .unset, .unset, .unset, .unset] [(.int (16 : Int32)), (.int (0 : Int32)), (.ref b32), (.ref b32)]))
  obtain ⟨cl33, Ar33, q33, S33, N33q, H33, G33⟩ := id V32
  have hin33 : ¬ ((0 : Int32) < 0 ∨ cl33.slots.size ≤ ((0 : Int32)).toNatClampNeg) := (inb_of S33 ⟨by decide, by decide⟩)
  obtain ⟨T33, h33, X33, e33, W33, st33⟩ := stI X32 hx hZ e32 Ar33 (j := (0 : Int32)) hin33 (g := (mkF m 113 #[.val (.int p1), .val (.int p2), .val (.ref b1), .unset, .unset, .unset, .unset, .unset] [(.int (16 : Int32)), (.int (0 : Int32)), (.ref b32), (.ref b32)])) rfl rfl (hb hby at_113)
  refine OwnR.of (st33) ?_
  have V33 := Arv.set Ar33 q33 S33 N33q H33 G33 rfl W33 0 rfl (Nat.le_of_ble_eq_true rfl)
  have V33 : Arv Z h33 b32 k32 .int (15 : Int32) [(.int (16 : Int32)), (.int (0 : Int32)), (.int (0 : Int32)), (.int (0 : Int32)), (.int (0 : Int32)), (.int (0 : Int32)), (.int (0 : Int32)), (.int (0 : Int32)), (.int (0 : Int32)), (.int (0 : Int32)), (.int (0 : Int32)), (.int (0 : Int32)), (.int (0 : Int32)), (.int (0 : Int32)), (.int (0 : Int32))] (.int (0 : Int32)) := V33
  have K33 : Keep h0 h33 [] := Keep.wr K32 W33 (Or.inr sz_b32)
  have N33 := Fr.snoc X33 N31 gn_b32
  show OwnR _ _ _ _ _ _ _ (T33.setTop (mkF m 114 #[.val (.int p1), .val (.int p2), .val (.ref b1), .unset, .unset, .unset, .unset, .unset] [(.ref b32)]))
  refine OwnR.of (fun _ hr => XS.dup X33.here hx rfl (hb hby at_114) rfl rfl hr) ?_
  show OwnR _ _ _ _ _ _ _ (T33.setTop (mkF m 115 #[.val (.int p1), .val (.int p2), .val (.ref b1), .unset, .unset, .unset, .unset, .unset] [(.ref b32), (.ref b32)]))
  refine OwnR.of (fun _ hr => XS.iconst X33.here hx rfl (hb hby at_115) hr) ?_
  show OwnR _ _ _ _ _ _ _ (T33.setTop (mkF m 116 #[.val (.int p1), .val (.int p2), .val (.ref b1), .unset, .unset, .unset, .unset, .unset] [(.int (1 : Int32)), (.ref b32), (.ref b32)]))
  refine OwnR.of (fun _ hr => XS.bipush X33.here hx rfl (hb hby at_116) hr) ?_
  show OwnR _ _ _ _ _ _ _ (T33.setTop (mkF m 118 #[.val (.int p1), .val (.int p2), .val (.ref b1), .unset, .unset, .unset, .unset, .unset] [(.int (32 : Int32)), (.int (1 : Int32)), (.ref b32), (.ref b32)]))
  obtain ⟨cl34, Ar34, q34, S34, N34q, H34, G34⟩ := id V33
  have hin34 : ¬ ((1 : Int32) < 0 ∨ cl34.slots.size ≤ ((1 : Int32)).toNatClampNeg) := (inb_of S34 ⟨by decide, by decide⟩)
  obtain ⟨T34, h34, X34, e34, W34, st34⟩ := stI X33 hx hZ e33 Ar34 (j := (1 : Int32)) hin34 (g := (mkF m 118 #[.val (.int p1), .val (.int p2), .val (.ref b1), .unset, .unset, .unset, .unset, .unset] [(.int (32 : Int32)), (.int (1 : Int32)), (.ref b32), (.ref b32)])) rfl rfl (hb hby at_118)
  refine OwnR.of (st34) ?_
  have V34 := Arv.set Ar34 q34 S34 N34q H34 G34 rfl W34 1 rfl (Nat.le_of_ble_eq_true rfl)
  have V34 : Arv Z h34 b32 k32 .int (15 : Int32) [(.int (16 : Int32)), (.int (32 : Int32)), (.int (0 : Int32)), (.int (0 : Int32)), (.int (0 : Int32)), (.int (0 : Int32)), (.int (0 : Int32)), (.int (0 : Int32)), (.int (0 : Int32)), (.int (0 : Int32)), (.int (0 : Int32)), (.int (0 : Int32)), (.int (0 : Int32)), (.int (0 : Int32)), (.int (0 : Int32))] (.int (0 : Int32)) := V34
  have K34 : Keep h0 h34 [] := Keep.wr K33 W34 (Or.inr sz_b32)
  have N34 := Fr.snoc X34 N33 gn_b32
  show OwnR _ _ _ _ _ _ _ (T34.setTop (mkF m 119 #[.val (.int p1), .val (.int p2), .val (.ref b1), .unset, .unset, .unset, .unset, .unset] [(.ref b32)]))
  refine OwnR.of (fun _ hr => XS.dup X34.here hx rfl (hb hby at_119) rfl rfl hr) ?_
  show OwnR _ _ _ _ _ _ _ (T34.setTop (mkF m 120 #[.val (.int p1), .val (.int p2), .val (.ref b1), .unset, .unset, .unset, .unset, .unset] [(.ref b32), (.ref b32)]))
  refine OwnR.of (fun _ hr => XS.iconst X34.here hx rfl (hb hby at_120) hr) ?_
  show OwnR _ _ _ _ _ _ _ (T34.setTop (mkF m 121 #[.val (.int p1), .val (.int p2), .val (.ref b1), .unset, .unset, .unset, .unset, .unset] [(.int (2 : Int32)), (.ref b32), (.ref b32)]))
  refine OwnR.of (fun _ hr => XS.bipush X34.here hx rfl (hb hby at_121) hr) ?_
  show OwnR _ _ _ _ _ _ _ (T34.setTop (mkF m 123 #[.val (.int p1), .val (.int p2), .val (.ref b1), .unset, .unset, .unset, .unset, .unset] [(.int (48 : Int32)), (.int (2 : Int32)), (.ref b32), (.ref b32)]))
  obtain ⟨cl35, Ar35, q35, S35, N35q, H35, G35⟩ := id V34
  have hin35 : ¬ ((2 : Int32) < 0 ∨ cl35.slots.size ≤ ((2 : Int32)).toNatClampNeg) := (inb_of S35 ⟨by decide, by decide⟩)
  obtain ⟨T35, h35, X35, e35, W35, st35⟩ := stI X34 hx hZ e34 Ar35 (j := (2 : Int32)) hin35 (g := (mkF m 123 #[.val (.int p1), .val (.int p2), .val (.ref b1), .unset, .unset, .unset, .unset, .unset] [(.int (48 : Int32)), (.int (2 : Int32)), (.ref b32), (.ref b32)])) rfl rfl (hb hby at_123)
  refine OwnR.of (st35) ?_
  have V35 := Arv.set Ar35 q35 S35 N35q H35 G35 rfl W35 2 rfl (Nat.le_of_ble_eq_true rfl)
  have V35 : Arv Z h35 b32 k32 .int (15 : Int32) [(.int (16 : Int32)), (.int (32 : Int32)), (.int (48 : Int32)), (.int (0 : Int32)), (.int (0 : Int32)), (.int (0 : Int32)), (.int (0 : Int32)), (.int (0 : Int32)), (.int (0 : Int32)), (.int (0 : Int32)), (.int (0 : Int32)), (.int (0 : Int32)), (.int (0 : Int32)), (.int (0 : Int32)), (.int (0 : Int32))] (.int (0 : Int32)) := V35
  have K35 : Keep h0 h35 [] := Keep.wr K34 W35 (Or.inr sz_b32)
  have N35 := Fr.snoc X35 N34 gn_b32
  show OwnR _ _ _ _ _ _ _ (T35.setTop (mkF m 124 #[.val (.int p1), .val (.int p2), .val (.ref b1), .unset, .unset, .unset, .unset, .unset] [(.ref b32)]))
  refine OwnR.of (fun _ hr => XS.dup X35.here hx rfl (hb hby at_124) rfl rfl hr) ?_
  show OwnR _ _ _ _ _ _ _ (T35.setTop (mkF m 125 #[.val (.int p1), .val (.int p2), .val (.ref b1), .unset, .unset, .unset, .unset, .unset] [(.ref b32), (.ref b32)]))
  refine OwnR.of (fun _ hr => XS.iconst X35.here hx rfl (hb hby at_125) hr) ?_
  show OwnR _ _ _ _ _ _ _ (T35.setTop (mkF m 126 #[.val (.int p1), .val (.int p2), .val (.ref b1), .unset, .unset, .unset, .unset, .unset] [(.int (3 : Int32)), (.ref b32), (.ref b32)]))
  refine OwnR.of (fun _ hr => XS.bipush X35.here hx rfl (hb hby at_126) hr) ?_
  show OwnR _ _ _ _ _ _ _ (T35.setTop (mkF m 128 #[.val (.int p1), .val (.int p2), .val (.ref b1), .unset, .unset, .unset, .unset, .unset] [(.int (64 : Int32)), (.int (3 : Int32)), (.ref b32), (.ref b32)]))
  obtain ⟨cl36, Ar36, q36, S36, N36q, H36, G36⟩ := id V35
  have hin36 : ¬ ((3 : Int32) < 0 ∨ cl36.slots.size ≤ ((3 : Int32)).toNatClampNeg) := (inb_of S36 ⟨by decide, by decide⟩)
  obtain ⟨T36, h36, X36, e36, W36, st36⟩ := stI X35 hx hZ e35 Ar36 (j := (3 : Int32)) hin36 (g := (mkF m 128 #[.val (.int p1), .val (.int p2), .val (.ref b1), .unset, .unset, .unset, .unset, .unset] [(.int (64 : Int32)), (.int (3 : Int32)), (.ref b32), (.ref b32)])) rfl rfl (hb hby at_128)
  refine OwnR.of (st36) ?_
  have V36 := Arv.set Ar36 q36 S36 N36q H36 G36 rfl W36 3 rfl (Nat.le_of_ble_eq_true rfl)
  have V36 : Arv Z h36 b32 k32 .int (15 : Int32) [(.int (16 : Int32)), (.int (32 : Int32)), (.int (48 : Int32)), (.int (64 : Int32)), (.int (0 : Int32)), (.int (0 : Int32)), (.int (0 : Int32)), (.int (0 : Int32)), (.int (0 : Int32)), (.int (0 : Int32)), (.int (0 : Int32)), (.int (0 : Int32)), (.int (0 : Int32)), (.int (0 : Int32)), (.int (0 : Int32))] (.int (0 : Int32)) := V36
  have K36 : Keep h0 h36 [] := Keep.wr K35 W36 (Or.inr sz_b32)
  have N36 := Fr.snoc X36 N35 gn_b32
  show OwnR _ _ _ _ _ _ _ (T36.setTop (mkF m 129 #[.val (.int p1), .val (.int p2), .val (.ref b1), .unset, .unset, .unset, .unset, .unset] [(.ref b32)]))
  refine OwnR.of (fun _ hr => XS.dup X36.here hx rfl (hb hby at_129) rfl rfl hr) ?_
  show OwnR _ _ _ _ _ _ _ (T36.setTop (mkF m 130 #[.val (.int p1), .val (.int p2), .val (.ref b1), .unset, .unset, .unset, .unset, .unset] [(.ref b32), (.ref b32)]))
  refine OwnR.of (fun _ hr => XS.iconst X36.here hx rfl (hb hby at_130) hr) ?_
  show OwnR _ _ _ _ _ _ _ (T36.setTop (mkF m 131 #[.val (.int p1), .val (.int p2), .val (.ref b1), .unset, .unset, .unset, .unset, .unset] [(.int (4 : Int32)), (.ref b32), (.ref b32)]))
  refine OwnR.of (fun _ hr => XS.bipush X36.here hx rfl (hb hby at_131) hr) ?_
  show OwnR _ _ _ _ _ _ _ (T36.setTop (mkF m 133 #[.val (.int p1), .val (.int p2), .val (.ref b1), .unset, .unset, .unset, .unset, .unset] [(.int (80 : Int32)), (.int (4 : Int32)), (.ref b32), (.ref b32)]))
  obtain ⟨cl37, Ar37, q37, S37, N37q, H37, G37⟩ := id V36
  have hin37 : ¬ ((4 : Int32) < 0 ∨ cl37.slots.size ≤ ((4 : Int32)).toNatClampNeg) := (inb_of S37 ⟨by decide, by decide⟩)
  obtain ⟨T37, h37, X37, e37, W37, st37⟩ := stI X36 hx hZ e36 Ar37 (j := (4 : Int32)) hin37 (g := (mkF m 133 #[.val (.int p1), .val (.int p2), .val (.ref b1), .unset, .unset, .unset, .unset, .unset] [(.int (80 : Int32)), (.int (4 : Int32)), (.ref b32), (.ref b32)])) rfl rfl (hb hby at_133)
  refine OwnR.of (st37) ?_
  have V37 := Arv.set Ar37 q37 S37 N37q H37 G37 rfl W37 4 rfl (Nat.le_of_ble_eq_true rfl)
  have V37 : Arv Z h37 b32 k32 .int (15 : Int32) [(.int (16 : Int32)), (.int (32 : Int32)), (.int (48 : Int32)), (.int (64 : Int32)), (.int (80 : Int32)), (.int (0 : Int32)), (.int (0 : Int32)), (.int (0 : Int32)), (.int (0 : Int32)), (.int (0 : Int32)), (.int (0 : Int32)), (.int (0 : Int32)), (.int (0 : Int32)), (.int (0 : Int32)), (.int (0 : Int32))] (.int (0 : Int32)) := V37
  have K37 : Keep h0 h37 [] := Keep.wr K36 W37 (Or.inr sz_b32)
  have N37 := Fr.snoc X37 N36 gn_b32
  show OwnR _ _ _ _ _ _ _ (T37.setTop (mkF m 134 #[.val (.int p1), .val (.int p2), .val (.ref b1), .unset, .unset, .unset, .unset, .unset] [(.ref b32)]))
  refine OwnR.of (fun _ hr => XS.dup X37.here hx rfl (hb hby at_134) rfl rfl hr) ?_
  show OwnR _ _ _ _ _ _ _ (T37.setTop (mkF m 135 #[.val (.int p1), .val (.int p2), .val (.ref b1), .unset, .unset, .unset, .unset, .unset] [(.ref b32), (.ref b32)]))
  refine OwnR.of (fun _ hr => XS.iconst X37.here hx rfl (hb hby at_135) hr) ?_
  show OwnR _ _ _ _ _ _ _ (T37.setTop (mkF m 136 #[.val (.int p1), .val (.int p2), .val (.ref b1), .unset, .unset, .unset, .unset, .unset] [(.int (5 : Int32)), (.ref b32), (.ref b32)]))
  refine OwnR.of (fun _ hr => XS.bipush X37.here hx rfl (hb hby at_136) hr) ?_
  show OwnR _ _ _ _ _ _ _ (T37.setTop (mkF m 138 #[.val (.int p1), .val (.int p2), .val (.ref b1), .unset, .unset, .unset, .unset, .unset] [(.int (98 : Int32)), (.int (5 : Int32)), (.ref b32), (.ref b32)]))
  obtain ⟨cl38, Ar38, q38, S38, N38q, H38, G38⟩ := id V37
  have hin38 : ¬ ((5 : Int32) < 0 ∨ cl38.slots.size ≤ ((5 : Int32)).toNatClampNeg) := (inb_of S38 ⟨by decide, by decide⟩)
  obtain ⟨T38, h38, X38, e38, W38, st38⟩ := stI X37 hx hZ e37 Ar38 (j := (5 : Int32)) hin38 (g := (mkF m 138 #[.val (.int p1), .val (.int p2), .val (.ref b1), .unset, .unset, .unset, .unset, .unset] [(.int (98 : Int32)), (.int (5 : Int32)), (.ref b32), (.ref b32)])) rfl rfl (hb hby at_138)
  refine OwnR.of (st38) ?_
  have V38 := Arv.set Ar38 q38 S38 N38q H38 G38 rfl W38 5 rfl (Nat.le_of_ble_eq_true rfl)
  have V38 : Arv Z h38 b32 k32 .int (15 : Int32) [(.int (16 : Int32)), (.int (32 : Int32)), (.int (48 : Int32)), (.int (64 : Int32)), (.int (80 : Int32)), (.int (98 : Int32)), (.int (0 : Int32)), (.int (0 : Int32)), (.int (0 : Int32)), (.int (0 : Int32)), (.int (0 : Int32)), (.int (0 : Int32)), (.int (0 : Int32)), (.int (0 : Int32)), (.int (0 : Int32))] (.int (0 : Int32)) := V38
  have K38 : Keep h0 h38 [] := Keep.wr K37 W38 (Or.inr sz_b32)
  have N38 := Fr.snoc X38 N37 gn_b32
  show OwnR _ _ _ _ _ _ _ (T38.setTop (mkF m 139 #[.val (.int p1), .val (.int p2), .val (.ref b1), .unset, .unset, .unset, .unset, .unset] [(.ref b32)]))
  refine OwnR.of (fun _ hr => XS.dup X38.here hx rfl (hb hby at_139) rfl rfl hr) ?_
  show OwnR _ _ _ _ _ _ _ (T38.setTop (mkF m 140 #[.val (.int p1), .val (.int p2), .val (.ref b1), .unset, .unset, .unset, .unset, .unset] [(.ref b32), (.ref b32)]))
  refine OwnR.of (fun _ hr => XS.bipush X38.here hx rfl (hb hby at_140) hr) ?_
  show OwnR _ _ _ _ _ _ _ (T38.setTop (mkF m 142 #[.val (.int p1), .val (.int p2), .val (.ref b1), .unset, .unset, .unset, .unset, .unset] [(.int (6 : Int32)), (.ref b32), (.ref b32)]))
  refine OwnR.of (fun _ hr => XS.bipush X38.here hx rfl (hb hby at_142) hr) ?_
  show OwnR _ _ _ _ _ _ _ (T38.setTop (mkF m 144 #[.val (.int p1), .val (.int p2), .val (.ref b1), .unset, .unset, .unset, .unset, .unset] [(.int (112 : Int32)), (.int (6 : Int32)), (.ref b32), (.ref b32)]))
  obtain ⟨cl39, Ar39, q39, S39, N39q, H39, G39⟩ := id V38
  have hin39 : ¬ ((6 : Int32) < 0 ∨ cl39.slots.size ≤ ((6 : Int32)).toNatClampNeg) := (inb_of S39 ⟨by decide, by decide⟩)
  obtain ⟨T39, h39, X39, e39, W39, st39⟩ := stI X38 hx hZ e38 Ar39 (j := (6 : Int32)) hin39 (g := (mkF m 144 #[.val (.int p1), .val (.int p2), .val (.ref b1), .unset, .unset, .unset, .unset, .unset] [(.int (112 : Int32)), (.int (6 : Int32)), (.ref b32), (.ref b32)])) rfl rfl (hb hby at_144)
  refine OwnR.of (st39) ?_
  have V39 := Arv.set Ar39 q39 S39 N39q H39 G39 rfl W39 6 rfl (Nat.le_of_ble_eq_true rfl)
  have V39 : Arv Z h39 b32 k32 .int (15 : Int32) [(.int (16 : Int32)), (.int (32 : Int32)), (.int (48 : Int32)), (.int (64 : Int32)), (.int (80 : Int32)), (.int (98 : Int32)), (.int (112 : Int32)), (.int (0 : Int32)), (.int (0 : Int32)), (.int (0 : Int32)), (.int (0 : Int32)), (.int (0 : Int32)), (.int (0 : Int32)), (.int (0 : Int32)), (.int (0 : Int32))] (.int (0 : Int32)) := V39
  have K39 : Keep h0 h39 [] := Keep.wr K38 W39 (Or.inr sz_b32)
  have N39 := Fr.snoc X39 N38 gn_b32
  show OwnR _ _ _ _ _ _ _ (T39.setTop (mkF m 145 #[.val (.int p1), .val (.int p2), .val (.ref b1), .unset, .unset, .unset, .unset, .unset] [(.ref b32)]))
  refine OwnR.of (fun _ hr => XS.dup X39.here hx rfl (hb hby at_145) rfl rfl hr) ?_
  show OwnR _ _ _ _ _ _ _ (T39.setTop (mkF m 146 #[.val (.int p1), .val (.int p2), .val (.ref b1), .unset, .unset, .unset, .unset, .unset] [(.ref b32), (.ref b32)]))
  refine OwnR.of (fun _ hr => XS.bipush X39.here hx rfl (hb hby at_146) hr) ?_
  show OwnR _ _ _ _ _ _ _ (T39.setTop (mkF m 148 #[.val (.int p1), .val (.int p2), .val (.ref b1), .unset, .unset, .unset, .unset, .unset] [(.int (7 : Int32)), (.ref b32), (.ref b32)]))
  refine OwnR.of (fun _ hr => XS.sipush X39.here hx rfl (hb hby at_148) hr) ?_
  show OwnR _ _ _ _ _ _ _ (T39.setTop (mkF m 151 #[.val (.int p1), .val (.int p2), .val (.ref b1), .unset, .unset, .unset, .unset, .unset] [(.int (130 : Int32)), (.int (7 : Int32)), (.ref b32), (.ref b32)]))
  obtain ⟨cl40, Ar40, q40, S40, N40q, H40, G40⟩ := id V39
  have hin40 : ¬ ((7 : Int32) < 0 ∨ cl40.slots.size ≤ ((7 : Int32)).toNatClampNeg) := (inb_of S40 ⟨by decide, by decide⟩)
  obtain ⟨T40, h40, X40, e40, W40, st40⟩ := stI X39 hx hZ e39 Ar40 (j := (7 : Int32)) hin40 (g := (mkF m 151 #[.val (.int p1), .val (.int p2), .val (.ref b1), .unset, .unset, .unset, .unset, .unset] [(.int (130 : Int32)), (.int (7 : Int32)), (.ref b32), (.ref b32)])) rfl rfl (hb hby at_151)
  refine OwnR.of (st40) ?_
  have V40 := Arv.set Ar40 q40 S40 N40q H40 G40 rfl W40 7 rfl (Nat.le_of_ble_eq_true rfl)
  have V40 : Arv Z h40 b32 k32 .int (15 : Int32) [(.int (16 : Int32)), (.int (32 : Int32)), (.int (48 : Int32)), (.int (64 : Int32)), (.int (80 : Int32)), (.int (98 : Int32)), (.int (112 : Int32)), (.int (130 : Int32)), (.int (0 : Int32)), (.int (0 : Int32)), (.int (0 : Int32)), (.int (0 : Int32)), (.int (0 : Int32)), (.int (0 : Int32)), (.int (0 : Int32))] (.int (0 : Int32)) := V40
  have K40 : Keep h0 h40 [] := Keep.wr K39 W40 (Or.inr sz_b32)
  have N40 := Fr.snoc X40 N39 gn_b32
  show OwnR _ _ _ _ _ _ _ (T40.setTop (mkF m 152 #[.val (.int p1), .val (.int p2), .val (.ref b1), .unset, .unset, .unset, .unset, .unset] [(.ref b32)]))
  refine OwnR.of (fun _ hr => XS.dup X40.here hx rfl (hb hby at_152) rfl rfl hr) ?_
  show OwnR _ _ _ _ _ _ _ (T40.setTop (mkF m 153 #[.val (.int p1), .val (.int p2), .val (.ref b1), .unset, .unset, .unset, .unset, .unset] [(.ref b32), (.ref b32)]))
  refine OwnR.of (fun _ hr => XS.bipush X40.here hx rfl (hb hby at_153) hr) ?_
  show OwnR _ _ _ _ _ _ _ (T40.setTop (mkF m 155 #[.val (.int p1), .val (.int p2), .val (.ref b1), .unset, .unset, .unset, .unset, .unset] [(.int (8 : Int32)), (.ref b32), (.ref b32)]))
  refine OwnR.of (fun _ hr => XS.sipush X40.here hx rfl (hb hby at_155) hr) ?_
  show OwnR _ _ _ _ _ _ _ (T40.setTop (mkF m 158 #[.val (.int p1), .val (.int p2), .val (.ref b1), .unset, .unset, .unset, .unset, .unset] [(.int (144 : Int32)), (.int (8 : Int32)), (.ref b32), (.ref b32)]))
  obtain ⟨cl41, Ar41, q41, S41, N41q, H41, G41⟩ := id V40
  have hin41 : ¬ ((8 : Int32) < 0 ∨ cl41.slots.size ≤ ((8 : Int32)).toNatClampNeg) := (inb_of S41 ⟨by decide, by decide⟩)
  obtain ⟨T41, h41, X41, e41, W41, st41⟩ := stI X40 hx hZ e40 Ar41 (j := (8 : Int32)) hin41 (g := (mkF m 158 #[.val (.int p1), .val (.int p2), .val (.ref b1), .unset, .unset, .unset, .unset, .unset] [(.int (144 : Int32)), (.int (8 : Int32)), (.ref b32), (.ref b32)])) rfl rfl (hb hby at_158)
  refine OwnR.of (st41) ?_
  have V41 := Arv.set Ar41 q41 S41 N41q H41 G41 rfl W41 8 rfl (Nat.le_of_ble_eq_true rfl)
  have V41 : Arv Z h41 b32 k32 .int (15 : Int32) [(.int (16 : Int32)), (.int (32 : Int32)), (.int (48 : Int32)), (.int (64 : Int32)), (.int (80 : Int32)), (.int (98 : Int32)), (.int (112 : Int32)), (.int (130 : Int32)), (.int (144 : Int32)), (.int (0 : Int32)), (.int (0 : Int32)), (.int (0 : Int32)), (.int (0 : Int32)), (.int (0 : Int32)), (.int (0 : Int32))] (.int (0 : Int32)) := V41
  have K41 : Keep h0 h41 [] := Keep.wr K40 W41 (Or.inr sz_b32)
  have N41 := Fr.snoc X41 N40 gn_b32
  show OwnR _ _ _ _ _ _ _ (T41.setTop (mkF m 159 #[.val (.int p1), .val (.int p2), .val (.ref b1), .unset, .unset, .unset, .unset, .unset] [(.ref b32)]))
  refine OwnR.of (fun _ hr => XS.dup X41.here hx rfl (hb hby at_159) rfl rfl hr) ?_
  show OwnR _ _ _ _ _ _ _ (T41.setTop (mkF m 160 #[.val (.int p1), .val (.int p2), .val (.ref b1), .unset, .unset, .unset, .unset, .unset] [(.ref b32), (.ref b32)]))
  refine OwnR.of (fun _ hr => XS.bipush X41.here hx rfl (hb hby at_160) hr) ?_
  show OwnR _ _ _ _ _ _ _ (T41.setTop (mkF m 162 #[.val (.int p1), .val (.int p2), .val (.ref b1), .unset, .unset, .unset, .unset, .unset] [(.int (9 : Int32)), (.ref b32), (.ref b32)]))
  refine OwnR.of (fun _ hr => XS.sipush X41.here hx rfl (hb hby at_162) hr) ?_
  show OwnR _ _ _ _ _ _ _ (T41.setTop (mkF m 165 #[.val (.int p1), .val (.int p2), .val (.ref b1), .unset, .unset, .unset, .unset, .unset] [(.int (162 : Int32)), (.int (9 : Int32)), (.ref b32), (.ref b32)]))
  obtain ⟨cl42, Ar42, q42, S42, N42q, H42, G42⟩ := id V41
  have hin42 : ¬ ((9 : Int32) < 0 ∨ cl42.slots.size ≤ ((9 : Int32)).toNatClampNeg) := (inb_of S42 ⟨by decide, by decide⟩)
  obtain ⟨T42, h42, X42, e42, W42, st42⟩ := stI X41 hx hZ e41 Ar42 (j := (9 : Int32)) hin42 (g := (mkF m 165 #[.val (.int p1), .val (.int p2), .val (.ref b1), .unset, .unset, .unset, .unset, .unset] [(.int (162 : Int32)), (.int (9 : Int32)), (.ref b32), (.ref b32)])) rfl rfl (hb hby at_165)
  refine OwnR.of (st42) ?_
  have V42 := Arv.set Ar42 q42 S42 N42q H42 G42 rfl W42 9 rfl (Nat.le_of_ble_eq_true rfl)
  have V42 : Arv Z h42 b32 k32 .int (15 : Int32) [(.int (16 : Int32)), (.int (32 : Int32)), (.int (48 : Int32)), (.int (64 : Int32)), (.int (80 : Int32)), (.int (98 : Int32)), (.int (112 : Int32)), (.int (130 : Int32)), (.int (144 : Int32)), (.int (162 : Int32)), (.int (0 : Int32)), (.int (0 : Int32)), (.int (0 : Int32)), (.int (0 : Int32)), (.int (0 : Int32))] (.int (0 : Int32)) := V42
  have K42 : Keep h0 h42 [] := Keep.wr K41 W42 (Or.inr sz_b32)
  have N42 := Fr.snoc X42 N41 gn_b32
  show OwnR _ _ _ _ _ _ _ (T42.setTop (mkF m 166 #[.val (.int p1), .val (.int p2), .val (.ref b1), .unset, .unset, .unset, .unset, .unset] [(.ref b32)]))
  refine OwnR.of (fun _ hr => XS.dup X42.here hx rfl (hb hby at_166) rfl rfl hr) ?_
  show OwnR _ _ _ _ _ _ _ (T42.setTop (mkF m 167 #[.val (.int p1), .val (.int p2), .val (.ref b1), .unset, .unset, .unset, .unset, .unset] [(.ref b32), (.ref b32)]))
  refine OwnR.of (fun _ hr => XS.bipush X42.here hx rfl (hb hby at_167) hr) ?_
  show OwnR _ _ _ _ _ _ _ (T42.setTop (mkF m 169 #[.val (.int p1), .val (.int p2), .val (.ref b1), .unset, .unset, .unset, .unset, .unset] [(.int (10 : Int32)), (.ref b32), (.ref b32)]))
  refine OwnR.of (fun _ hr => XS.sipush X42.here hx rfl (hb hby at_169) hr) ?_
  show OwnR _ _ _ _ _ _ _ (T42.setTop (mkF m 172 #[.val (.int p1), .val (.int p2), .val (.ref b1), .unset, .unset, .unset, .unset, .unset] [(.int (176 : Int32)), (.int (10 : Int32)), (.ref b32), (.ref b32)]))
  obtain ⟨cl43, Ar43, q43, S43, N43q, H43, G43⟩ := id V42
  have hin43 : ¬ ((10 : Int32) < 0 ∨ cl43.slots.size ≤ ((10 : Int32)).toNatClampNeg) := (inb_of S43 ⟨by decide, by decide⟩)
  obtain ⟨T43, h43, X43, e43, W43, st43⟩ := stI X42 hx hZ e42 Ar43 (j := (10 : Int32)) hin43 (g := (mkF m 172 #[.val (.int p1), .val (.int p2), .val (.ref b1), .unset, .unset, .unset, .unset, .unset] [(.int (176 : Int32)), (.int (10 : Int32)), (.ref b32), (.ref b32)])) rfl rfl (hb hby at_172)
  refine OwnR.of (st43) ?_
  have V43 := Arv.set Ar43 q43 S43 N43q H43 G43 rfl W43 10 rfl (Nat.le_of_ble_eq_true rfl)
  have V43 : Arv Z h43 b32 k32 .int (15 : Int32) [(.int (16 : Int32)), (.int (32 : Int32)), (.int (48 : Int32)), (.int (64 : Int32)), (.int (80 : Int32)), (.int (98 : Int32)), (.int (112 : Int32)), (.int (130 : Int32)), (.int (144 : Int32)), (.int (162 : Int32)), (.int (176 : Int32)), (.int (0 : Int32)), (.int (0 : Int32)), (.int (0 : Int32)), (.int (0 : Int32))] (.int (0 : Int32)) := V43
  have K43 : Keep h0 h43 [] := Keep.wr K42 W43 (Or.inr sz_b32)
  have N43 := Fr.snoc X43 N42 gn_b32
  show OwnR _ _ _ _ _ _ _ (T43.setTop (mkF m 173 #[.val (.int p1), .val (.int p2), .val (.ref b1), .unset, .unset, .unset, .unset, .unset] [(.ref b32)]))
  refine OwnR.of (fun _ hr => XS.dup X43.here hx rfl (hb hby at_173) rfl rfl hr) ?_
  show OwnR _ _ _ _ _ _ _ (T43.setTop (mkF m 174 #[.val (.int p1), .val (.int p2), .val (.ref b1), .unset, .unset, .unset, .unset, .unset] [(.ref b32), (.ref b32)]))
  refine OwnR.of (fun _ hr => XS.bipush X43.here hx rfl (hb hby at_174) hr) ?_
  show OwnR _ _ _ _ _ _ _ (T43.setTop (mkF m 176 #[.val (.int p1), .val (.int p2), .val (.ref b1), .unset, .unset, .unset, .unset, .unset] [(.int (11 : Int32)), (.ref b32), (.ref b32)]))
  refine OwnR.of (fun _ hr => XS.sipush X43.here hx rfl (hb hby at_176) hr) ?_
  show OwnR _ _ _ _ _ _ _ (T43.setTop (mkF m 179 #[.val (.int p1), .val (.int p2), .val (.ref b1), .unset, .unset, .unset, .unset, .unset] [(.int (192 : Int32)), (.int (11 : Int32)), (.ref b32), (.ref b32)]))
  obtain ⟨cl44, Ar44, q44, S44, N44q, H44, G44⟩ := id V43
  have hin44 : ¬ ((11 : Int32) < 0 ∨ cl44.slots.size ≤ ((11 : Int32)).toNatClampNeg) := (inb_of S44 ⟨by decide, by decide⟩)
  obtain ⟨T44, h44, X44, e44, W44, st44⟩ := stI X43 hx hZ e43 Ar44 (j := (11 : Int32)) hin44 (g := (mkF m 179 #[.val (.int p1), .val (.int p2), .val (.ref b1), .unset, .unset, .unset, .unset, .unset] [(.int (192 : Int32)), (.int (11 : Int32)), (.ref b32), (.ref b32)])) rfl rfl (hb hby at_179)
  refine OwnR.of (st44) ?_
  have V44 := Arv.set Ar44 q44 S44 N44q H44 G44 rfl W44 11 rfl (Nat.le_of_ble_eq_true rfl)
  have V44 : Arv Z h44 b32 k32 .int (15 : Int32) [(.int (16 : Int32)), (.int (32 : Int32)), (.int (48 : Int32)), (.int (64 : Int32)), (.int (80 : Int32)), (.int (98 : Int32)), (.int (112 : Int32)), (.int (130 : Int32)), (.int (144 : Int32)), (.int (162 : Int32)), (.int (176 : Int32)), (.int (192 : Int32)), (.int (0 : Int32)), (.int (0 : Int32)), (.int (0 : Int32))] (.int (0 : Int32)) := V44
  have K44 : Keep h0 h44 [] := Keep.wr K43 W44 (Or.inr sz_b32)
  have N44 := Fr.snoc X44 N43 gn_b32
  show OwnR _ _ _ _ _ _ _ (T44.setTop (mkF m 180 #[.val (.int p1), .val (.int p2), .val (.ref b1), .unset, .unset, .unset, .unset, .unset] [(.ref b32)]))
  refine OwnR.of (fun _ hr => XS.dup X44.here hx rfl (hb hby at_180) rfl rfl hr) ?_
  show OwnR _ _ _ _ _ _ _ (T44.setTop (mkF m 181 #[.val (.int p1), .val (.int p2), .val (.ref b1), .unset, .unset, .unset, .unset, .unset] [(.ref b32), (.ref b32)]))
  refine OwnR.of (fun _ hr => XS.bipush X44.here hx rfl (hb hby at_181) hr) ?_
  show OwnR _ _ _ _ _ _ _ (T44.setTop (mkF m 183 #[.val (.int p1), .val (.int p2), .val (.ref b1), .unset, .unset, .unset, .unset, .unset] [(.int (12 : Int32)), (.ref b32), (.ref b32)]))
  refine OwnR.of (fun _ hr => XS.sipush X44.here hx rfl (hb hby at_183) hr) ?_
  show OwnR _ _ _ _ _ _ _ (T44.setTop (mkF m 186 #[.val (.int p1), .val (.int p2), .val (.ref b1), .unset, .unset, .unset, .unset, .unset] [(.int (208 : Int32)), (.int (12 : Int32)), (.ref b32), (.ref b32)]))
  obtain ⟨cl45, Ar45, q45, S45, N45q, H45, G45⟩ := id V44
  have hin45 : ¬ ((12 : Int32) < 0 ∨ cl45.slots.size ≤ ((12 : Int32)).toNatClampNeg) := (inb_of S45 ⟨by decide, by decide⟩)
  obtain ⟨T45, h45, X45, e45, W45, st45⟩ := stI X44 hx hZ e44 Ar45 (j := (12 : Int32)) hin45 (g := (mkF m 186 #[.val (.int p1), .val (.int p2), .val (.ref b1), .unset, .unset, .unset, .unset, .unset] [(.int (208 : Int32)), (.int (12 : Int32)), (.ref b32), (.ref b32)])) rfl rfl (hb hby at_186)
  refine OwnR.of (st45) ?_
  have V45 := Arv.set Ar45 q45 S45 N45q H45 G45 rfl W45 12 rfl (Nat.le_of_ble_eq_true rfl)
  have V45 : Arv Z h45 b32 k32 .int (15 : Int32) [(.int (16 : Int32)), (.int (32 : Int32)), (.int (48 : Int32)), (.int (64 : Int32)), (.int (80 : Int32)), (.int (98 : Int32)), (.int (112 : Int32)), (.int (130 : Int32)), (.int (144 : Int32)), (.int (162 : Int32)), (.int (176 : Int32)), (.int (192 : Int32)), (.int (208 : Int32)), (.int (0 : Int32)), (.int (0 : Int32))] (.int (0 : Int32)) := V45
  have K45 : Keep h0 h45 [] := Keep.wr K44 W45 (Or.inr sz_b32)
  have N45 := Fr.snoc X45 N44 gn_b32
  show OwnR _ _ _ _ _ _ _ (T45.setTop (mkF m 187 #[.val (.int p1), .val (.int p2), .val (.ref b1), .unset, .unset, .unset, .unset, .unset] [(.ref b32)]))
  refine OwnR.of (fun _ hr => XS.dup X45.here hx rfl (hb hby at_187) rfl rfl hr) ?_
  show OwnR _ _ _ _ _ _ _ (T45.setTop (mkF m 188 #[.val (.int p1), .val (.int p2), .val (.ref b1), .unset, .unset, .unset, .unset, .unset] [(.ref b32), (.ref b32)]))
  refine OwnR.of (fun _ hr => XS.bipush X45.here hx rfl (hb hby at_188) hr) ?_
  show OwnR _ _ _ _ _ _ _ (T45.setTop (mkF m 190 #[.val (.int p1), .val (.int p2), .val (.ref b1), .unset, .unset, .unset, .unset, .unset] [(.int (13 : Int32)), (.ref b32), (.ref b32)]))
  refine OwnR.of (fun _ hr => XS.sipush X45.here hx rfl (hb hby at_190) hr) ?_
  show OwnR _ _ _ _ _ _ _ (T45.setTop (mkF m 193 #[.val (.int p1), .val (.int p2), .val (.ref b1), .unset, .unset, .unset, .unset, .unset] [(.int (224 : Int32)), (.int (13 : Int32)), (.ref b32), (.ref b32)]))
  obtain ⟨cl46, Ar46, q46, S46, N46q, H46, G46⟩ := id V45
  have hin46 : ¬ ((13 : Int32) < 0 ∨ cl46.slots.size ≤ ((13 : Int32)).toNatClampNeg) := (inb_of S46 ⟨by decide, by decide⟩)
  obtain ⟨T46, h46, X46, e46, W46, st46⟩ := stI X45 hx hZ e45 Ar46 (j := (13 : Int32)) hin46 (g := (mkF m 193 #[.val (.int p1), .val (.int p2), .val (.ref b1), .unset, .unset, .unset, .unset, .unset] [(.int (224 : Int32)), (.int (13 : Int32)), (.ref b32), (.ref b32)])) rfl rfl (hb hby at_193)
  refine OwnR.of (st46) ?_
  have V46 := Arv.set Ar46 q46 S46 N46q H46 G46 rfl W46 13 rfl (Nat.le_of_ble_eq_true rfl)
  have V46 : Arv Z h46 b32 k32 .int (15 : Int32) [(.int (16 : Int32)), (.int (32 : Int32)), (.int (48 : Int32)), (.int (64 : Int32)), (.int (80 : Int32)), (.int (98 : Int32)), (.int (112 : Int32)), (.int (130 : Int32)), (.int (144 : Int32)), (.int (162 : Int32)), (.int (176 : Int32)), (.int (192 : Int32)), (.int (208 : Int32)), (.int (224 : Int32)), (.int (0 : Int32))] (.int (0 : Int32)) := V46
  have K46 : Keep h0 h46 [] := Keep.wr K45 W46 (Or.inr sz_b32)
  have N46 := Fr.snoc X46 N45 gn_b32
  show OwnR _ _ _ _ _ _ _ (T46.setTop (mkF m 194 #[.val (.int p1), .val (.int p2), .val (.ref b1), .unset, .unset, .unset, .unset, .unset] [(.ref b32)]))
  refine OwnR.of (fun _ hr => XS.dup X46.here hx rfl (hb hby at_194) rfl rfl hr) ?_
  show OwnR _ _ _ _ _ _ _ (T46.setTop (mkF m 195 #[.val (.int p1), .val (.int p2), .val (.ref b1), .unset, .unset, .unset, .unset, .unset] [(.ref b32), (.ref b32)]))
  refine OwnR.of (fun _ hr => XS.bipush X46.here hx rfl (hb hby at_195) hr) ?_
  show OwnR _ _ _ _ _ _ _ (T46.setTop (mkF m 197 #[.val (.int p1), .val (.int p2), .val (.ref b1), .unset, .unset, .unset, .unset, .unset] [(.int (14 : Int32)), (.ref b32), (.ref b32)]))
  refine OwnR.of (fun _ hr => XS.sipush X46.here hx rfl (hb hby at_197) hr) ?_
  show OwnR _ _ _ _ _ _ _ (T46.setTop (mkF m 200 #[.val (.int p1), .val (.int p2), .val (.ref b1), .unset, .unset, .unset, .unset, .unset] [(.int (240 : Int32)), (.int (14 : Int32)), (.ref b32), (.ref b32)]))
  obtain ⟨cl47, Ar47, q47, S47, N47q, H47, G47⟩ := id V46
  have hin47 : ¬ ((14 : Int32) < 0 ∨ cl47.slots.size ≤ ((14 : Int32)).toNatClampNeg) := (inb_of S47 ⟨by decide, by decide⟩)
  obtain ⟨T47, h47, X47, e47, W47, st47⟩ := stI X46 hx hZ e46 Ar47 (j := (14 : Int32)) hin47 (g := (mkF m 200 #[.val (.int p1), .val (.int p2), .val (.ref b1), .unset, .unset, .unset, .unset, .unset] [(.int (240 : Int32)), (.int (14 : Int32)), (.ref b32), (.ref b32)])) rfl rfl (hb hby at_200)
  refine OwnR.of (st47) ?_
  have V47 := Arv.set Ar47 q47 S47 N47q H47 G47 rfl W47 14 rfl (Nat.le_of_ble_eq_true rfl)
  have V47 : Arv Z h47 b32 k32 .int (15 : Int32) [(.int (16 : Int32)), (.int (32 : Int32)), (.int (48 : Int32)), (.int (64 : Int32)), (.int (80 : Int32)), (.int (98 : Int32)), (.int (112 : Int32)), (.int (130 : Int32)), (.int (144 : Int32)), (.int (162 : Int32)), (.int (176 : Int32)), (.int (192 : Int32)), (.int (208 : Int32)), (.int (224 : Int32)), (.int (240 : Int32))] (.int (0 : Int32)) := V47
  have K47 : Keep h0 h47 [] := Keep.wr K46 W47 (Or.inr sz_b32)
  have N47 := Fr.snoc X47 N46 gn_b32
  show OwnR _ _ _ _ _ _ _ (T47.setTop (mkF m 201 #[.val (.int p1), .val (.int p2), .val (.ref b1), .unset, .unset, .unset, .unset, .unset] [(.ref b32)]))
  refine OwnR.of (fun _ hr => XS.astoreN X47.here hx rfl (hb hby at_201) rfl rfl (l' := #[.val (.int p1), .val (.int p2), .val (.ref b1), .val (.ref b32), .unset, .unset, .unset, .unset]) rfl hr) ?_
  show OwnR _ _ _ _ _ _ _ (T47.setTop (mkF m 202 #[.val (.int p1), .val (.int p2), .val (.ref b1), .val (.ref b32), .unset, .unset, .unset, .unset] []))
  have R48 := (own_sta S_BY K47)
  have R49 := (Arv.keep V_sb K47 nin0)
  have R50 := (own_sta S_AUTH K47)
  have R51 := (own_sta S_V3 K47)
  have R52 := (own_sta S_V5 K47)
  have R53 := (own_sta S_CONNECT K47)
  have R54 := (Exa.keep E_CONNECT K47)
  have R55 := (Fld.keep Fc_CONNECT K47 nin0)
  have R56 := (Fld.keep Ff_CONNECT K47 nin0)
  have R57 := (own_sta S_CONNACK K47)
  have R58 := (Exa.keep E_CONNACK K47)
  have R59 := (Fld.keep Fc_CONNACK K47 nin0)
  have R60 := (Fld.keep Ff_CONNACK K47 nin0)
  have R61 := (own_sta S_PUBLISH K47)
  have R62 := (Exa.keep E_PUBLISH K47)
  have R63 := (Fld.keep Fc_PUBLISH K47 nin0)
  have R64 := (Fld.keep Ff_PUBLISH K47 nin0)
  have R65 := (own_sta S_PUBACK K47)
  have R66 := (Exa.keep E_PUBACK K47)
  have R67 := (Fld.keep Fc_PUBACK K47 nin0)
  have R68 := (Fld.keep Ff_PUBACK K47 nin0)
  have R69 := (own_sta S_PUBREC K47)
  have R70 := (Exa.keep E_PUBREC K47)
  have R71 := (Fld.keep Fc_PUBREC K47 nin0)
  have R72 := (Fld.keep Ff_PUBREC K47 nin0)
  have R73 := (own_sta S_PUBREL K47)
  have R74 := (Exa.keep E_PUBREL K47)
  have R75 := (Fld.keep Fc_PUBREL K47 nin0)
  have R76 := (Fld.keep Ff_PUBREL K47 nin0)
  have R77 := (own_sta S_PUBCOMP K47)
  have R78 := (Exa.keep E_PUBCOMP K47)
  have R79 := (Fld.keep Fc_PUBCOMP K47 nin0)
  have R80 := (Fld.keep Ff_PUBCOMP K47 nin0)
  have R81 := (own_sta S_SUBSCRIBE K47)
  have R82 := (Exa.keep E_SUBSCRIBE K47)
  have R83 := (Fld.keep Fc_SUBSCRIBE K47 nin0)
  have R84 := (Fld.keep Ff_SUBSCRIBE K47 nin0)
  have R85 := (own_sta S_SUBACK K47)
  have R86 := (Exa.keep E_SUBACK K47)
  have R87 := (Fld.keep Fc_SUBACK K47 nin0)
  have R88 := (Fld.keep Ff_SUBACK K47 nin0)
  have R89 := (own_sta S_UNSUBSCRIBE K47)
  have R90 := (Exa.keep E_UNSUBSCRIBE K47)
  have R91 := (Fld.keep Fc_UNSUBSCRIBE K47 nin0)
  have R92 := (Fld.keep Ff_UNSUBSCRIBE K47 nin0)
  have R93 := (own_sta S_UNSUBACK K47)
  have R94 := (Exa.keep E_UNSUBACK K47)
  have R95 := (Fld.keep Fc_UNSUBACK K47 nin0)
  have R96 := (Fld.keep Ff_UNSUBACK K47 nin0)
  have R97 := (own_sta S_PINGREQ K47)
  have R98 := (Exa.keep E_PINGREQ K47)
  have R99 := (Fld.keep Fc_PINGREQ K47 nin0)
  have R100 := (Fld.keep Ff_PINGREQ K47 nin0)
  have R101 := (own_sta S_PINGRESP K47)
  have R102 := (Exa.keep E_PINGRESP K47)
  have R103 := (Fld.keep Fc_PINGRESP K47 nin0)
  have R104 := (Fld.keep Ff_PINGRESP K47 nin0)
  have R105 := (own_sta S_DISCONNECT K47)
  have R106 := (Exa.keep E_DISCONNECT K47)
  have R107 := (Fld.keep Fc_DISCONNECT K47 nin0)
  have R108 := (Fld.keep Ff_DISCONNECT K47 nin0)
  have R109 := (Exa.keep E_AUTH K47)
  have R110 := (Fld.keep Fc_AUTH K47 nin0)
  have R111 := (Fld.keep Ff_AUTH K47 nin0)
  have R112 := (Exa.wr W47 (Exa.wr W46 (Exa.wr W45 (Exa.wr W44 (Exa.wr W43 (Exa.wr W42 (Exa.wr W41 (Exa.wr W40 (Exa.wr W39 (Exa.wr W38 (Exa.wr W37 (Exa.wr W36 (Exa.wr W35 (Exa.wr W34 (Exa.wr W33 (Exa.ext E32 (Exa.wr W31 (Exa.wr W29 (Exa.wr W27 (Exa.wr W25 (Exa.wr W23 (Exa.wr W21 (Exa.wr W19 (Exa.wr W17 (Exa.wr W15 (Exa.wr W13 (Exa.wr W11 (Exa.wr W9 (Exa.wr W7 (Exa.wr W5 (Exa.wr W3 AE1)))))))))))))))))))))))))))))))
  have R113 := (Arv.other (Arv.other (Arv.other (Arv.other (Arv.other (Arv.other (Arv.other (Arv.other (Arv.other (Arv.other (Arv.other (Arv.other (Arv.other (Arv.other (Arv.other (Arv.ext V31 E32) W33 (Nat.ne_of_lt (Nat.lt_of_lt_of_le V31.lt (Nat.le_of_eq g32.symm)))) W34 (Nat.ne_of_lt (Nat.lt_of_lt_of_le V31.lt (Nat.le_of_eq g32.symm)))) W35 (Nat.ne_of_lt (Nat.lt_of_lt_of_le V31.lt (Nat.le_of_eq g32.symm)))) W36 (Nat.ne_of_lt (Nat.lt_of_lt_of_le V31.lt (Nat.le_of_eq g32.symm)))) W37 (Nat.ne_of_lt (Nat.lt_of_lt_of_le V31.lt (Nat.le_of_eq g32.symm)))) W38 (Nat.ne_of_lt (Nat.lt_of_lt_of_le V31.lt (Nat.le_of_eq g32.symm)))) W39 (Nat.ne_of_lt (Nat.lt_of_lt_of_le V31.lt (Nat.le_of_eq g32.symm)))) W40 (Nat.ne_of_lt (Nat.lt_of_lt_of_le V31.lt (Nat.le_of_eq g32.symm)))) W41 (Nat.ne_of_lt (Nat.lt_of_lt_of_le V31.lt (Nat.le_of_eq g32.symm)))) W42 (Nat.ne_of_lt (Nat.lt_of_lt_of_le V31.lt (Nat.le_of_eq g32.symm)))) W43 (Nat.ne_of_lt (Nat.lt_of_lt_of_le V31.lt (Nat.le_of_eq g32.symm)))) W44 (Nat.ne_of_lt (Nat.lt_of_lt_of_le V31.lt (Nat.le_of_eq g32.symm)))) W45 (Nat.ne_of_lt (Nat.lt_of_lt_of_le V31.lt (Nat.le_of_eq g32.symm)))) W46 (Nat.ne_of_lt (Nat.lt_of_lt_of_le V31.lt (Nat.le_of_eq g32.symm)))) W47 (Nat.ne_of_lt (Nat.lt_of_lt_of_le V31.lt (Nat.le_of_eq g32.symm))))
  have R114 := (Exa.wr W47 (Exa.wr W46 (Exa.wr W45 (Exa.wr W44 (Exa.wr W43 (Exa.wr W42 (Exa.wr W41 (Exa.wr W40 (Exa.wr W39 (Exa.wr W38 (Exa.wr W37 (Exa.wr W36 (Exa.wr W35 (Exa.wr W34 (Exa.wr W33 AE32)))))))))))))))
  refine OwnR.of (fun _ hr => XS.iloadN X47.here hx rfl (hb hby at_202) rfl hr) ?_
  show OwnR _ _ _ _ _ _ _ (T47.setTop (mkF m 203 #[.val (.int p1), .val (.int p2), .val (.ref b1), .val (.ref b32), .unset, .unset, .unset, .unset] [(.int p1)]))
  refine OwnR.of (X47.ldcInt hx hown (mvT hZ (hw _ (List.mem_of_getElem? (i := 35) rfl))) (g := (mkF m 203 #[.val (.int p1), .val (.int p2), .val (.ref b1), .val (.ref b32), .unset, .unset, .unset, .unset] [(.int p1)])) rfl (hb hby at_203)) ?_
  show OwnR _ _ _ _ _ _ _ (T47.setTop (mkF m 205 #[.val (.int p1), .val (.int p2), .val (.ref b1), .val (.ref b32), .unset, .unset, .unset, .unset] [(.int (2147483647 : Int32)), (.int p1)]))
  refine OwnR.of (fun _ hr => XS.iand X47.here hx rfl (hb hby at_205) rfl hr) ?_
  show OwnR _ _ _ _ _ _ _ (T47.setTop (mkF m 206 #[.val (.int p1), .val (.int p2), .val (.ref b1), .val (.ref b32), .unset, .unset, .unset, .unset] [(.int (p1 &&& (2147483647 : Int32)))]))
  refine OwnR.of (fun _ hr => XS.bipush X47.here hx rfl (hb hby at_206) hr) ?_
  show OwnR _ _ _ _ _ _ _ (T47.setTop (mkF m 208 #[.val (.int p1), .val (.int p2), .val (.ref b1), .val (.ref b32), .unset, .unset, .unset, .unset] [(.int (15 : Int32)), (.int (p1 &&& (2147483647 : Int32)))]))
  refine OwnR.of (fun _ hr => iremM X47 hx rfl (hb hby at_208) rfl (by decide) hr) ?_
  show OwnR _ _ _ _ _ _ _ (T47.setTop (mkF m 209 #[.val (.int p1), .val (.int p2), .val (.ref b1), .val (.ref b32), .unset, .unset, .unset, .unset] [(.int ((p1 &&& (2147483647 : Int32)) % (15 : Int32)))]))
  refine OwnR.of (fun _ hr => XS.istore X47.here hx rfl (hb hby at_209) rfl (l' := #[.val (.int p1), .val (.int p2), .val (.ref b1), .val (.ref b32), .val (.int ((p1 &&& (2147483647 : Int32)) % (15 : Int32))), .unset, .unset, .unset]) rfl hr) ?_
  show OwnR _ _ _ _ _ _ _ (T47.setTop (mkF m 211 #[.val (.int p1), .val (.int p2), .val (.ref b1), .val (.ref b32), .val (.int ((p1 &&& (2147483647 : Int32)) % (15 : Int32))), .unset, .unset, .unset] []))
  obtain ⟨i, hi⟩ : ∃ z : Int32, z = ((p1 &&& (2147483647 : Int32)) % (15 : Int32)) := ⟨_, rfl⟩
  rw [← hi]
  show OwnR _ _ _ _ _ _ _ (T47.setTop (mkF m 211 #[.val (.int p1), .val (.int p2), .val (.ref b1), .val (.ref b32), .val (.int i), .unset, .unset, .unset] []))
  have hi15 : i = (0 : Int32) ∨ i = (1 : Int32) ∨ i = (2 : Int32) ∨ i = (3 : Int32) ∨ i = (4 : Int32) ∨ i = (5 : Int32) ∨ i = (6 : Int32) ∨ i = (7 : Int32) ∨ i = (8 : Int32) ∨ i = (9 : Int32) ∨ i = (10 : Int32) ∨ i = (11 : Int32) ∨ i = (12 : Int32) ∨ i = (13 : Int32) ∨ i = (14 : Int32) := by rw [hi]; exact own_fifteen p1
  rcases hi15 with rfl | rfl | rfl | rfl | rfl | rfl | rfl | rfl | rfl | rfl | rfl | rfl | rfl | rfl | rfl
  · skip
    show OwnR _ _ _ _ _ _ _ (T47.setTop (mkF m 211 #[.val (.int p1), .val (.int p2), .val (.ref b1), .val (.ref b32), .val (.int (0 : Int32)), .unset, .unset, .unset] []))
    refine OwnR.of (fun _ hr => XS.aloadN X47.here hx rfl (hb hby at_211) rfl rfl hr) ?_
    show OwnR _ _ _ _ _ _ _ (T47.setTop (mkF m 212 #[.val (.int p1), .val (.int p2), .val (.ref b1), .val (.ref b32), .val (.int (0 : Int32)), .unset, .unset, .unset] [(.ref b1)]))
    refine OwnR.of (fun _ hr => XS.iload X47.here hx rfl (hb hby at_212) rfl hr) ?_
    show OwnR _ _ _ _ _ _ _ (T47.setTop (mkF m 214 #[.val (.int p1), .val (.int p2), .val (.ref b1), .val (.ref b32), .val (.int (0 : Int32)), .unset, .unset, .unset] [(.int (0 : Int32)), (.ref b1)]))
    obtain ⟨cl115, Ar115, -, S115, N115, H115, G115⟩ := id R113
    have hin115 : ¬ ((0 : Int32) < 0 ∨ cl115.slots.size ≤ ((0 : Int32)).toNatClampNeg) := (inb_of S115 ⟨by decide, by decide⟩)
    refine OwnR.of (X47.aaload hx (j := (0 : Int32)) (v := (.ref s_CONNECT)) (by rw [e47]; exact Ar115.1) (State.isArrayOf_alike hZ.alike Ar115.2.1) rfl Ar115.2.2 hin115 (Has.at H115 hin115 rfl) (g := (mkF m 214 #[.val (.int p1), .val (.int p2), .val (.ref b1), .val (.ref b32), .val (.int (0 : Int32)), .unset, .unset, .unset] [(.int (0 : Int32)), (.ref b1)])) rfl rfl (hb hby at_214)) ?_
    show OwnR _ _ _ _ _ _ _ (T47.setTop (mkF m 215 #[.val (.int p1), .val (.int p2), .val (.ref b1), .val (.ref b32), .val (.int (0 : Int32)), .unset, .unset, .unset] [(.ref s_CONNECT)]))
    refine OwnR.of (fun _ hr => XS.astore X47.here hx rfl (hb hby at_215) rfl rfl (l' := #[.val (.int p1), .val (.int p2), .val (.ref b1), .val (.ref b32), .val (.int (0 : Int32)), .val (.ref s_CONNECT), .unset, .unset]) rfl hr) ?_
    show OwnR _ _ _ _ _ _ _ (T47.setTop (mkF m 217 #[.val (.int p1), .val (.int p2), .val (.ref b1), .val (.ref b32), .val (.int (0 : Int32)), .val (.ref s_CONNECT), .unset, .unset] []))
    refine OwnR.of (fun _ hr => XS.aload X47.here hx rfl (hb hby at_217) rfl rfl hr) ?_
    show OwnR _ _ _ _ _ _ _ (T47.setTop (mkF m 219 #[.val (.int p1), .val (.int p2), .val (.ref b1), .val (.ref b32), .val (.int (0 : Int32)), .val (.ref s_CONNECT), .unset, .unset] [(.ref s_CONNECT)]))
    obtain ⟨cq116, kq116, q116a, q116b, q116c⟩ := isOf hZ e47 R54
    obtain ⟨_, _, ⟨T116, L116, kc116, ns116⟩, -, X116, ⟨Lc116, hQ116, l116, y116, z116⟩, st116⟩ := X47.virtualBack hx (y := (⟨"com/example/kurir/kurir/codec/PacketType", "firstByte", "()I"⟩ : MethodName)) (z := (⟨"com/example/kurir/kurir/codec/PacketType", "firstByte", "()I"⟩ : MethodName)) hown (mvT hZ (hw _ (List.mem_of_getElem? (i := 36) rfl))) (mvT hZ (hw _ (List.mem_of_getElem? (i := 37) rfl))) (notFace_of_selects (args := #[]) (mvT hZ (hw _ (List.mem_of_getElem? (i := 39) rfl)))) (mvT hZ (hw _ (List.mem_of_getElem? (i := 39) rfl))) (mvT hZ (hw _ (List.mem_of_getElem? (i := 38) rfl))) (by decide) (backOf (W := 0) (rm1 l Z a0 hw [] s_CONNECT (1 : Int32) (0 : Int32) h47 n0 (Nat.le_trans Z0 K47.1) R54 R55 R56) hZ (hw _ (List.mem_of_getElem? (i := 40) rfl)) (hw _ (List.mem_of_getElem? (i := 3) rfl)) (by decide) (by decide)) q116a q116c (g := (mkF m 219 #[.val (.int p1), .val (.int p2), .val (.ref b1), .val (.ref b32), .val (.int (0 : Int32)), .val (.ref s_CONNECT), .unset, .unset] [(.ref s_CONNECT)])) rfl (by rw [hml]; rfl) (Steps.refl _) (argsL := []) (rest := []) (lenOf pd___I rfl) rfl (by show 2 * 0 + _ ≤ _; exact Nat.le_of_eq rfl) (hb hby at_219) (fun _ _ => ⟨rfl, e47, (by decide : 2 + 0 ≤ _), (by decide : 30 + 0 ≤ _)⟩)
    dsimp only [Pt.U, Pt.locs, Pt.cells, Pt.slots] at X116 l116 y116 z116 st116 hQ116
    rw [l116, y116, z116] at X116
    obtain ⟨rfl, N116q, e116⟩ := hQ116
    have N116 := Fr.app N47 N116q
    refine OwnR.of (fun _ hr => st116.trans hr) ?_
    show OwnR _ _ _ _ _ _ _ (T116.setTop (mkF m 222 #[.val (.int p1), .val (.int p2), .val (.ref b1), .val (.ref b32), .val (.int (0 : Int32)), .val (.ref s_CONNECT), .unset, .unset] [(.int (own_fb (1 : Int32) (0 : Int32)))]))
    rw [(by decide : (own_fb (1 : Int32) (0 : Int32)) = (16 : Int32))]
    show OwnR _ _ _ _ _ _ _ (T116.setTop (mkF m 222 #[.val (.int p1), .val (.int p2), .val (.ref b1), .val (.ref b32), .val (.int (0 : Int32)), .val (.ref s_CONNECT), .unset, .unset] [(.int (16 : Int32))]))
    refine OwnR.of (fun _ hr => XS.istore X116.here hx rfl (hb hby at_222) rfl (l' := #[.val (.int p1), .val (.int p2), .val (.ref b1), .val (.ref b32), .val (.int (0 : Int32)), .val (.ref s_CONNECT), .val (.int (16 : Int32)), .unset]) rfl hr) ?_
    show OwnR _ _ _ _ _ _ _ (T116.setTop (mkF m 224 #[.val (.int p1), .val (.int p2), .val (.ref b1), .val (.ref b32), .val (.int (0 : Int32)), .val (.ref s_CONNECT), .val (.int (16 : Int32)), .unset] []))
    refine OwnR.of (fun _ hr => XS.iload X116.here hx rfl (hb hby at_224) rfl hr) ?_
    show OwnR _ _ _ _ _ _ _ (T116.setTop (mkF m 226 #[.val (.int p1), .val (.int p2), .val (.ref b1), .val (.ref b32), .val (.int (0 : Int32)), .val (.ref s_CONNECT), .val (.int (16 : Int32)), .unset] [(.int (16 : Int32))]))
    refine OwnR.of (fun _ hr => XS.aloadN X116.here hx rfl (hb hby at_226) rfl rfl hr) ?_
    show OwnR _ _ _ _ _ _ _ (T116.setTop (mkF m 227 #[.val (.int p1), .val (.int p2), .val (.ref b1), .val (.ref b32), .val (.int (0 : Int32)), .val (.ref s_CONNECT), .val (.int (16 : Int32)), .unset] [(.ref b32), (.int (16 : Int32))]))
    refine OwnR.of (fun _ hr => XS.iload X116.here hx rfl (hb hby at_227) rfl hr) ?_
    show OwnR _ _ _ _ _ _ _ (T116.setTop (mkF m 229 #[.val (.int p1), .val (.int p2), .val (.ref b1), .val (.ref b32), .val (.int (0 : Int32)), .val (.ref s_CONNECT), .val (.int (16 : Int32)), .unset] [(.int (0 : Int32)), (.ref b32), (.int (16 : Int32))]))
    obtain ⟨cl117, Ar117, -, S117, N117, H117, G117⟩ := id V47
    have hin117 : ¬ ((0 : Int32) < 0 ∨ cl117.slots.size ≤ ((0 : Int32)).toNatClampNeg) := (inb_of S117 ⟨by decide, by decide⟩)
    refine OwnR.of (X116.iaload hx (j := (0 : Int32)) (v := (.int (16 : Int32))) (by rw [e116]; exact Ar117.1) (State.isArrayOf_alike hZ.alike Ar117.2.1) Ar117.2.2 hin117 (Has.at H117 hin117 rfl) (g := (mkF m 229 #[.val (.int p1), .val (.int p2), .val (.ref b1), .val (.ref b32), .val (.int (0 : Int32)), .val (.ref s_CONNECT), .val (.int (16 : Int32)), .unset] [(.int (0 : Int32)), (.ref b32), (.int (16 : Int32))])) rfl rfl (hb hby at_229)) ?_
    show OwnR _ _ _ _ _ _ _ (T116.setTop (mkF m 230 #[.val (.int p1), .val (.int p2), .val (.ref b1), .val (.ref b32), .val (.int (0 : Int32)), .val (.ref s_CONNECT), .val (.int (16 : Int32)), .unset] [(.int (16 : Int32)), (.int (16 : Int32))]))
    refine OwnR.of (fun _ hr => XS.icmpYes X116.here hx rfl (pc0 := 230) (pc' := 235) rfl (hb hby at_230) rfl (teq (by decide : (16 : Int32) = (16 : Int32))).1 (by decide) (by decide) hr) ?_
    show OwnR _ _ _ _ _ _ _ (T116.setTop (mkF m 235 #[.val (.int p1), .val (.int p2), .val (.ref b1), .val (.ref b32), .val (.int (0 : Int32)), .val (.ref s_CONNECT), .val (.int (16 : Int32)), .unset] []))
    refine OwnR.of (fun _ hr => XS.iloadN X116.here hx rfl (hb hby at_235) rfl hr) ?_
    show OwnR _ _ _ _ _ _ _ (T116.setTop (mkF m 236 #[.val (.int p1), .val (.int p2), .val (.ref b1), .val (.ref b32), .val (.int (0 : Int32)), .val (.ref s_CONNECT), .val (.int (16 : Int32)), .unset] [(.int p2)]))
    refine OwnR.of (fun _ hr => XS.iconst X116.here hx rfl (hb hby at_236) hr) ?_
    show OwnR _ _ _ _ _ _ _ (T116.setTop (mkF m 237 #[.val (.int p1), .val (.int p2), .val (.ref b1), .val (.ref b32), .val (.int (0 : Int32)), .val (.ref s_CONNECT), .val (.int (16 : Int32)), .unset] [(.int (1 : Int32)), (.int p2)]))
    refine OwnR.of (fun _ hr => XS.iand X116.here hx rfl (hb hby at_237) rfl hr) ?_
    show OwnR _ _ _ _ _ _ _ (T116.setTop (mkF m 238 #[.val (.int p1), .val (.int p2), .val (.ref b1), .val (.ref b32), .val (.int (0 : Int32)), .val (.ref s_CONNECT), .val (.int (16 : Int32)), .unset] [(.int (p2 &&& (1 : Int32)))]))
    by_cases hc238_118 : (p2 &&& (1 : Int32)) = (0 : Int32)
    · skip
      refine OwnR.of (fun _ hr => XS.ifNo X116.here hx rfl (hb hby at_238) rfl ((if0 _ _).trans (teq hc238_118).2) hr) ?_
      show OwnR _ _ _ _ _ _ _ (T116.setTop (mkF m 241 #[.val (.int p1), .val (.int p2), .val (.ref b1), .val (.ref b32), .val (.int (0 : Int32)), .val (.ref s_CONNECT), .val (.int (16 : Int32)), .unset] []))
      refine OwnR.of (fun _ hr => XS.aload X116.here hx rfl (hb hby at_241) rfl rfl hr) ?_
      show OwnR _ _ _ _ _ _ _ (T116.setTop (mkF m 243 #[.val (.int p1), .val (.int p2), .val (.ref b1), .val (.ref b32), .val (.int (0 : Int32)), .val (.ref s_CONNECT), .val (.int (16 : Int32)), .unset] [(.ref s_CONNECT)]))
      obtain ⟨T119, X119, e119, st119⟩ := getS2 X116 hx hZ hown (host := "") (Or.inl (hw _ (List.mem_of_getElem? (i := 32) rfl))) Via.refl e116 R50 (g := (mkF m 243 #[.val (.int p1), .val (.int p2), .val (.ref b1), .val (.ref b32), .val (.int (0 : Int32)), .val (.ref s_CONNECT), .val (.int (16 : Int32)), .unset] [(.ref s_CONNECT)])) rfl (hb hby at_243)
      refine OwnR.of (st119) ?_
      show OwnR _ _ _ _ _ _ _ (T119.setTop (mkF m 246 #[.val (.int p1), .val (.int p2), .val (.ref b1), .val (.ref b32), .val (.int (0 : Int32)), .val (.ref s_CONNECT), .val (.int (16 : Int32)), .unset] [(.ref s_AUTH), (.ref s_CONNECT)]))
      refine OwnR.of (fun _ hr => Jvm.RoadKit.acmp (g := (mkF m 246 #[.val (.int p1), .val (.int p2), .val (.ref b1), .val (.ref b32), .val (.int (0 : Int32)), .val (.ref s_CONNECT), .val (.int (16 : Int32)), .unset] [(.ref s_AUTH), (.ref s_CONNECT)])) X119 hx rfl rfl rfl (pc0 := 246) (pc' := 255) (same := false) rfl (hb hby at_246) rfl (decide_eq_false fun q => ne_CONNECT (Value.ref.inj q)) (by decide) (by decide) hr) ?_
      show OwnR _ _ _ _ _ _ _ (T119.setTop (mkF m 255 #[.val (.int p1), .val (.int p2), .val (.ref b1), .val (.ref b32), .val (.int (0 : Int32)), .val (.ref s_CONNECT), .val (.int (16 : Int32)), .unset] []))
      obtain ⟨T120, X120, e120, st120⟩ := getS2 X119 hx hZ hown (host := "") (Or.inl (hw _ (List.mem_of_getElem? (i := 56) rfl))) Via.refl e119 R51 (g := (mkF m 255 #[.val (.int p1), .val (.int p2), .val (.ref b1), .val (.ref b32), .val (.int (0 : Int32)), .val (.ref s_CONNECT), .val (.int (16 : Int32)), .unset] [])) rfl (hb hby at_255)
      refine OwnR.of (st120) ?_
      show OwnR _ _ _ _ _ _ _ (T120.setTop (mkF m 258 #[.val (.int p1), .val (.int p2), .val (.ref b1), .val (.ref b32), .val (.int (0 : Int32)), .val (.ref s_CONNECT), .val (.int (16 : Int32)), .unset] [(.ref s_V3)]))
      refine OwnR.of (fun _ hr => XS.astore X120.here hx rfl (hb hby at_258) rfl rfl (l' := #[.val (.int p1), .val (.int p2), .val (.ref b1), .val (.ref b32), .val (.int (0 : Int32)), .val (.ref s_CONNECT), .val (.int (16 : Int32)), .val (.ref s_V3)]) rfl hr) ?_
      show OwnR _ _ _ _ _ _ _ (T120.setTop (mkF m 260 #[.val (.int p1), .val (.int p2), .val (.ref b1), .val (.ref b32), .val (.int (0 : Int32)), .val (.ref s_CONNECT), .val (.int (16 : Int32)), .val (.ref s_V3)] []))
      refine OwnR.of (fun _ hr => XS.iload X120.here hx rfl (hb hby at_260) rfl hr) ?_
      show OwnR _ _ _ _ _ _ _ (T120.setTop (mkF m 262 #[.val (.int p1), .val (.int p2), .val (.ref b1), .val (.ref b32), .val (.int (0 : Int32)), .val (.ref s_CONNECT), .val (.int (16 : Int32)), .val (.ref s_V3)] [(.int (16 : Int32))]))
      refine OwnR.of (fun _ hr => XS.aload X120.here hx rfl (hb hby at_262) rfl rfl hr) ?_
      show OwnR _ _ _ _ _ _ _ (T120.setTop (mkF m 264 #[.val (.int p1), .val (.int p2), .val (.ref b1), .val (.ref b32), .val (.int (0 : Int32)), .val (.ref s_CONNECT), .val (.int (16 : Int32)), .val (.ref s_V3)] [(.ref s_V3), (.int (16 : Int32))]))
      obtain ⟨_, _, ⟨T121, L121, kc121, ns121⟩, -, X121, ⟨Lc121, hQ121, l121, y121, z121⟩, st121⟩ := Jvm.LawKit.callS X120 hx (y := (⟨"com/example/kurir/kurir/codec/PacketType", "of", "(ILcom/example/kurir/kurir/codec/ProtocolVersion;)Lcom/example/kurir/kurir/codec/PacketType;"⟩ : MethodName)) hown (mvT hZ (hw _ (List.mem_of_getElem? (i := 48) rfl))) (mvT hZ (hw _ (List.mem_of_getElem? (i := 49) rfl))) (mvT hZ (hw _ (List.mem_of_getElem? (i := 3) rfl))) (mvT hZ (hw _ (List.mem_of_getElem? (i := 50) rfl))) (by decide) (backOf (W := 0) (rm2_0 l Z a0 hw [] s_V3 sb kb s_CONNECT s_CONNACK s_PUBLISH s_PUBACK s_PUBREC s_PUBREL s_PUBCOMP s_SUBSCRIBE s_SUBACK s_UNSUBSCRIBE s_UNSUBACK s_PINGREQ s_PINGRESP s_DISCONNECT s_AUTH s_V3 h47 n0 (Nat.le_trans Z0 K47.1) R48 R49 R50 R51 ne_CONNECT) hZ (hw _ (List.mem_of_getElem? (i := 50) rfl)) (hw _ (List.mem_of_getElem? (i := 3) rfl)) (by decide) (by decide)) (g := (mkF m 264 #[.val (.int p1), .val (.int p2), .val (.ref b1), .val (.ref b32), .val (.int (0 : Int32)), .val (.ref s_CONNECT), .val (.int (16 : Int32)), .val (.ref s_V3)] [(.ref s_V3), (.int (16 : Int32))])) rfl (by rw [hml]; rfl) (argsL := [(.int (16 : Int32)), (.ref s_V3)]) (rest := []) (lenOf pd__ILcom_example_kurir_kurir_codec_ProtocolVersion__Lcom_example_kurir_kurir_codec_PacketType_ rfl) rfl (by show 2 * 0 + _ ≤ _; exact Nat.le_of_eq rfl) (hb hby at_264) (fun _ _ => ⟨rfl, e120, (by decide : 2 + 0 ≤ _), (by decide : 30 + 0 ≤ _)⟩)
      dsimp only [Pt.U, Pt.locs, Pt.cells, Pt.slots] at X121 l121 y121 z121 st121 hQ121
      rw [l121, y121, z121] at X121
      obtain ⟨rfl, N121q, e121⟩ := hQ121
      have N121 := Fr.app N116 N121q
      refine OwnR.of (st121) ?_
      show OwnR _ _ _ _ _ _ _ (T121.setTop (mkF m 267 #[.val (.int p1), .val (.int p2), .val (.ref b1), .val (.ref b32), .val (.int (0 : Int32)), .val (.ref s_CONNECT), .val (.int (16 : Int32)), .val (.ref s_V3)] [(.ref s_CONNECT)]))
      refine OwnR.of (fun _ hr => XS.aload X121.here hx rfl (hb hby at_267) rfl rfl hr) ?_
      show OwnR _ _ _ _ _ _ _ (T121.setTop (mkF m 269 #[.val (.int p1), .val (.int p2), .val (.ref b1), .val (.ref b32), .val (.int (0 : Int32)), .val (.ref s_CONNECT), .val (.int (16 : Int32)), .val (.ref s_V3)] [(.ref s_CONNECT), (.ref s_CONNECT)]))
      refine OwnR.of (fun _ hr => Jvm.RoadKit.acmp (g := (mkF m 269 #[.val (.int p1), .val (.int p2), .val (.ref b1), .val (.ref b32), .val (.int (0 : Int32)), .val (.ref s_CONNECT), .val (.int (16 : Int32)), .val (.ref s_V3)] [(.ref s_CONNECT), (.ref s_CONNECT)])) X121 hx rfl rfl rfl (pc0 := 269) (pc' := 272) (same := true) rfl (hb hby at_269) rfl (decide_eq_true rfl) (by decide) (by decide) hr) ?_
      show OwnR _ _ _ _ _ _ _ (T121.setTop (mkF m 272 #[.val (.int p1), .val (.int p2), .val (.ref b1), .val (.ref b32), .val (.int (0 : Int32)), .val (.ref s_CONNECT), .val (.int (16 : Int32)), .val (.ref s_V3)] []))
      refine OwnR.of (fun _ hr => XS.iconst X121.here hx rfl (hb hby at_272) hr) ?_
      show OwnR _ _ _ _ _ _ _ (T121.setTop (mkF m 273 #[.val (.int p1), .val (.int p2), .val (.ref b1), .val (.ref b32), .val (.int (0 : Int32)), .val (.ref s_CONNECT), .val (.int (16 : Int32)), .val (.ref s_V3)] [(.int (1 : Int32))]))
      refine OwnR.of (fun _ hr => XS.goto X121.here hx rfl (pc0 := 273) (pc' := 277) rfl (hb hby at_273) (by decide) (by decide) hr) ?_
      show OwnR _ _ _ _ _ _ _ (T121.setTop (mkF m 277 #[.val (.int p1), .val (.int p2), .val (.ref b1), .val (.ref b32), .val (.int (0 : Int32)), .val (.ref s_CONNECT), .val (.int (16 : Int32)), .val (.ref s_V3)] [(.int (1 : Int32))]))
      refine own_leafN X121 hx hlk (t := .boolean) Bd.returns (by simp) (hb hby at_277) (z' := (1 : Int32)) rfl (by decide) (by decide) ?_
      show Q0 Z  h0 n0 _ T121.heap _
      rw [show T121.heap = h47 from e121]
      refine ⟨?_, N121⟩
      show (some (.int (1 : Int32)) : Option Value) = some (.int (1 : Int32))
      rfl
    · skip
      refine OwnR.of (fun _ hr => XS.ifYes X116.here hx rfl (pc0 := 238) (pc' := 249) rfl (hb hby at_238) rfl ((if0 _ _).trans (feq hc238_118).2) (by decide) (by decide) hr) ?_
      show OwnR _ _ _ _ _ _ _ (T116.setTop (mkF m 249 #[.val (.int p1), .val (.int p2), .val (.ref b1), .val (.ref b32), .val (.int (0 : Int32)), .val (.ref s_CONNECT), .val (.int (16 : Int32)), .unset] []))
      obtain ⟨T122, X122, e122, st122⟩ := getS2 X116 hx hZ hown (host := "") (Or.inl (hw _ (List.mem_of_getElem? (i := 45) rfl))) Via.refl e116 R52 (g := (mkF m 249 #[.val (.int p1), .val (.int p2), .val (.ref b1), .val (.ref b32), .val (.int (0 : Int32)), .val (.ref s_CONNECT), .val (.int (16 : Int32)), .unset] [])) rfl (hb hby at_249)
      refine OwnR.of (st122) ?_
      show OwnR _ _ _ _ _ _ _ (T122.setTop (mkF m 252 #[.val (.int p1), .val (.int p2), .val (.ref b1), .val (.ref b32), .val (.int (0 : Int32)), .val (.ref s_CONNECT), .val (.int (16 : Int32)), .unset] [(.ref s_V5)]))
      refine OwnR.of (fun _ hr => XS.goto X122.here hx rfl (pc0 := 252) (pc' := 258) rfl (hb hby at_252) (by decide) (by decide) hr) ?_
      show OwnR _ _ _ _ _ _ _ (T122.setTop (mkF m 258 #[.val (.int p1), .val (.int p2), .val (.ref b1), .val (.ref b32), .val (.int (0 : Int32)), .val (.ref s_CONNECT), .val (.int (16 : Int32)), .unset] [(.ref s_V5)]))
      refine OwnR.of (fun _ hr => XS.astore X122.here hx rfl (hb hby at_258) rfl rfl (l' := #[.val (.int p1), .val (.int p2), .val (.ref b1), .val (.ref b32), .val (.int (0 : Int32)), .val (.ref s_CONNECT), .val (.int (16 : Int32)), .val (.ref s_V5)]) rfl hr) ?_
      show OwnR _ _ _ _ _ _ _ (T122.setTop (mkF m 260 #[.val (.int p1), .val (.int p2), .val (.ref b1), .val (.ref b32), .val (.int (0 : Int32)), .val (.ref s_CONNECT), .val (.int (16 : Int32)), .val (.ref s_V5)] []))
      refine OwnR.of (fun _ hr => XS.iload X122.here hx rfl (hb hby at_260) rfl hr) ?_
      show OwnR _ _ _ _ _ _ _ (T122.setTop (mkF m 262 #[.val (.int p1), .val (.int p2), .val (.ref b1), .val (.ref b32), .val (.int (0 : Int32)), .val (.ref s_CONNECT), .val (.int (16 : Int32)), .val (.ref s_V5)] [(.int (16 : Int32))]))
      refine OwnR.of (fun _ hr => XS.aload X122.here hx rfl (hb hby at_262) rfl rfl hr) ?_
      show OwnR _ _ _ _ _ _ _ (T122.setTop (mkF m 264 #[.val (.int p1), .val (.int p2), .val (.ref b1), .val (.ref b32), .val (.int (0 : Int32)), .val (.ref s_CONNECT), .val (.int (16 : Int32)), .val (.ref s_V5)] [(.ref s_V5), (.int (16 : Int32))]))
      obtain ⟨_, _, ⟨T123, L123, kc123, ns123⟩, -, X123, ⟨Lc123, hQ123, l123, y123, z123⟩, st123⟩ := Jvm.LawKit.callS X122 hx (y := (⟨"com/example/kurir/kurir/codec/PacketType", "of", "(ILcom/example/kurir/kurir/codec/ProtocolVersion;)Lcom/example/kurir/kurir/codec/PacketType;"⟩ : MethodName)) hown (mvT hZ (hw _ (List.mem_of_getElem? (i := 48) rfl))) (mvT hZ (hw _ (List.mem_of_getElem? (i := 49) rfl))) (mvT hZ (hw _ (List.mem_of_getElem? (i := 3) rfl))) (mvT hZ (hw _ (List.mem_of_getElem? (i := 50) rfl))) (by decide) (backOf (W := 0) (rm2_0 l Z a0 hw [] s_V5 sb kb s_CONNECT s_CONNACK s_PUBLISH s_PUBACK s_PUBREC s_PUBREL s_PUBCOMP s_SUBSCRIBE s_SUBACK s_UNSUBSCRIBE s_UNSUBACK s_PINGREQ s_PINGRESP s_DISCONNECT s_AUTH s_V3 h47 n0 (Nat.le_trans Z0 K47.1) R48 R49 R50 R51 ne_CONNECT) hZ (hw _ (List.mem_of_getElem? (i := 50) rfl)) (hw _ (List.mem_of_getElem? (i := 3) rfl)) (by decide) (by decide)) (g := (mkF m 264 #[.val (.int p1), .val (.int p2), .val (.ref b1), .val (.ref b32), .val (.int (0 : Int32)), .val (.ref s_CONNECT), .val (.int (16 : Int32)), .val (.ref s_V5)] [(.ref s_V5), (.int (16 : Int32))])) rfl (by rw [hml]; rfl) (argsL := [(.int (16 : Int32)), (.ref s_V5)]) (rest := []) (lenOf pd__ILcom_example_kurir_kurir_codec_ProtocolVersion__Lcom_example_kurir_kurir_codec_PacketType_ rfl) rfl (by show 2 * 0 + _ ≤ _; exact Nat.le_of_eq rfl) (hb hby at_264) (fun _ _ => ⟨rfl, e122, (by decide : 2 + 0 ≤ _), (by decide : 30 + 0 ≤ _)⟩)
      dsimp only [Pt.U, Pt.locs, Pt.cells, Pt.slots] at X123 l123 y123 z123 st123 hQ123
      rw [l123, y123, z123] at X123
      obtain ⟨rfl, N123q, e123⟩ := hQ123
      have N123 := Fr.app N116 N123q
      refine OwnR.of (st123) ?_
      show OwnR _ _ _ _ _ _ _ (T123.setTop (mkF m 267 #[.val (.int p1), .val (.int p2), .val (.ref b1), .val (.ref b32), .val (.int (0 : Int32)), .val (.ref s_CONNECT), .val (.int (16 : Int32)), .val (.ref s_V5)] [(.ref s_CONNECT)]))
      refine OwnR.of (fun _ hr => XS.aload X123.here hx rfl (hb hby at_267) rfl rfl hr) ?_
      show OwnR _ _ _ _ _ _ _ (T123.setTop (mkF m 269 #[.val (.int p1), .val (.int p2), .val (.ref b1), .val (.ref b32), .val (.int (0 : Int32)), .val (.ref s_CONNECT), .val (.int (16 : Int32)), .val (.ref s_V5)] [(.ref s_CONNECT), (.ref s_CONNECT)]))
      refine OwnR.of (fun _ hr => Jvm.RoadKit.acmp (g := (mkF m 269 #[.val (.int p1), .val (.int p2), .val (.ref b1), .val (.ref b32), .val (.int (0 : Int32)), .val (.ref s_CONNECT), .val (.int (16 : Int32)), .val (.ref s_V5)] [(.ref s_CONNECT), (.ref s_CONNECT)])) X123 hx rfl rfl rfl (pc0 := 269) (pc' := 272) (same := true) rfl (hb hby at_269) rfl (decide_eq_true rfl) (by decide) (by decide) hr) ?_
      show OwnR _ _ _ _ _ _ _ (T123.setTop (mkF m 272 #[.val (.int p1), .val (.int p2), .val (.ref b1), .val (.ref b32), .val (.int (0 : Int32)), .val (.ref s_CONNECT), .val (.int (16 : Int32)), .val (.ref s_V5)] []))
      refine OwnR.of (fun _ hr => XS.iconst X123.here hx rfl (hb hby at_272) hr) ?_
      show OwnR _ _ _ _ _ _ _ (T123.setTop (mkF m 273 #[.val (.int p1), .val (.int p2), .val (.ref b1), .val (.ref b32), .val (.int (0 : Int32)), .val (.ref s_CONNECT), .val (.int (16 : Int32)), .val (.ref s_V5)] [(.int (1 : Int32))]))
      refine OwnR.of (fun _ hr => XS.goto X123.here hx rfl (pc0 := 273) (pc' := 277) rfl (hb hby at_273) (by decide) (by decide) hr) ?_
      show OwnR _ _ _ _ _ _ _ (T123.setTop (mkF m 277 #[.val (.int p1), .val (.int p2), .val (.ref b1), .val (.ref b32), .val (.int (0 : Int32)), .val (.ref s_CONNECT), .val (.int (16 : Int32)), .val (.ref s_V5)] [(.int (1 : Int32))]))
      refine own_leafN X123 hx hlk (t := .boolean) Bd.returns (by simp) (hb hby at_277) (z' := (1 : Int32)) rfl (by decide) (by decide) ?_
      show Q0 Z  h0 n0 _ T123.heap _
      rw [show T123.heap = h47 from e123]
      refine ⟨?_, N123⟩
      show (some (.int (1 : Int32)) : Option Value) = some (.int (1 : Int32))
      rfl
  · skip
    show OwnR _ _ _ _ _ _ _ (T47.setTop (mkF m 211 #[.val (.int p1), .val (.int p2), .val (.ref b1), .val (.ref b32), .val (.int (1 : Int32)), .unset, .unset, .unset] []))
    refine OwnR.of (fun _ hr => XS.aloadN X47.here hx rfl (hb hby at_211) rfl rfl hr) ?_
    show OwnR _ _ _ _ _ _ _ (T47.setTop (mkF m 212 #[.val (.int p1), .val (.int p2), .val (.ref b1), .val (.ref b32), .val (.int (1 : Int32)), .unset, .unset, .unset] [(.ref b1)]))
    refine OwnR.of (fun _ hr => XS.iload X47.here hx rfl (hb hby at_212) rfl hr) ?_
    show OwnR _ _ _ _ _ _ _ (T47.setTop (mkF m 214 #[.val (.int p1), .val (.int p2), .val (.ref b1), .val (.ref b32), .val (.int (1 : Int32)), .unset, .unset, .unset] [(.int (1 : Int32)), (.ref b1)]))
    obtain ⟨cl124, Ar124, -, S124, N124, H124, G124⟩ := id R113
    have hin124 : ¬ ((1 : Int32) < 0 ∨ cl124.slots.size ≤ ((1 : Int32)).toNatClampNeg) := (inb_of S124 ⟨by decide, by decide⟩)
    refine OwnR.of (X47.aaload hx (j := (1 : Int32)) (v := (.ref s_CONNACK)) (by rw [e47]; exact Ar124.1) (State.isArrayOf_alike hZ.alike Ar124.2.1) rfl Ar124.2.2 hin124 (Has.at H124 hin124 rfl) (g := (mkF m 214 #[.val (.int p1), .val (.int p2), .val (.ref b1), .val (.ref b32), .val (.int (1 : Int32)), .unset, .unset, .unset] [(.int (1 : Int32)), (.ref b1)])) rfl rfl (hb hby at_214)) ?_
    show OwnR _ _ _ _ _ _ _ (T47.setTop (mkF m 215 #[.val (.int p1), .val (.int p2), .val (.ref b1), .val (.ref b32), .val (.int (1 : Int32)), .unset, .unset, .unset] [(.ref s_CONNACK)]))
    refine OwnR.of (fun _ hr => XS.astore X47.here hx rfl (hb hby at_215) rfl rfl (l' := #[.val (.int p1), .val (.int p2), .val (.ref b1), .val (.ref b32), .val (.int (1 : Int32)), .val (.ref s_CONNACK), .unset, .unset]) rfl hr) ?_
    show OwnR _ _ _ _ _ _ _ (T47.setTop (mkF m 217 #[.val (.int p1), .val (.int p2), .val (.ref b1), .val (.ref b32), .val (.int (1 : Int32)), .val (.ref s_CONNACK), .unset, .unset] []))
    refine OwnR.of (fun _ hr => XS.aload X47.here hx rfl (hb hby at_217) rfl rfl hr) ?_
    show OwnR _ _ _ _ _ _ _ (T47.setTop (mkF m 219 #[.val (.int p1), .val (.int p2), .val (.ref b1), .val (.ref b32), .val (.int (1 : Int32)), .val (.ref s_CONNACK), .unset, .unset] [(.ref s_CONNACK)]))
    obtain ⟨cq125, kq125, q125a, q125b, q125c⟩ := isOf hZ e47 R58
    obtain ⟨_, _, ⟨T125, L125, kc125, ns125⟩, -, X125, ⟨Lc125, hQ125, l125, y125, z125⟩, st125⟩ := X47.virtualBack hx (y := (⟨"com/example/kurir/kurir/codec/PacketType", "firstByte", "()I"⟩ : MethodName)) (z := (⟨"com/example/kurir/kurir/codec/PacketType", "firstByte", "()I"⟩ : MethodName)) hown (mvT hZ (hw _ (List.mem_of_getElem? (i := 36) rfl))) (mvT hZ (hw _ (List.mem_of_getElem? (i := 37) rfl))) (notFace_of_selects (args := #[]) (mvT hZ (hw _ (List.mem_of_getElem? (i := 39) rfl)))) (mvT hZ (hw _ (List.mem_of_getElem? (i := 39) rfl))) (mvT hZ (hw _ (List.mem_of_getElem? (i := 38) rfl))) (by decide) (backOf (W := 0) (rm1 l Z a0 hw [] s_CONNACK (2 : Int32) (0 : Int32) h47 n0 (Nat.le_trans Z0 K47.1) R58 R59 R60) hZ (hw _ (List.mem_of_getElem? (i := 40) rfl)) (hw _ (List.mem_of_getElem? (i := 3) rfl)) (by decide) (by decide)) q125a q125c (g := (mkF m 219 #[.val (.int p1), .val (.int p2), .val (.ref b1), .val (.ref b32), .val (.int (1 : Int32)), .val (.ref s_CONNACK), .unset, .unset] [(.ref s_CONNACK)])) rfl (by rw [hml]; rfl) (Steps.refl _) (argsL := []) (rest := []) (lenOf pd___I rfl) rfl (by show 2 * 0 + _ ≤ _; exact Nat.le_of_eq rfl) (hb hby at_219) (fun _ _ => ⟨rfl, e47, (by decide : 2 + 0 ≤ _), (by decide : 30 + 0 ≤ _)⟩)
    dsimp only [Pt.U, Pt.locs, Pt.cells, Pt.slots] at X125 l125 y125 z125 st125 hQ125
    rw [l125, y125, z125] at X125
    obtain ⟨rfl, N125q, e125⟩ := hQ125
    have N125 := Fr.app N47 N125q
    refine OwnR.of (fun _ hr => st125.trans hr) ?_
    show OwnR _ _ _ _ _ _ _ (T125.setTop (mkF m 222 #[.val (.int p1), .val (.int p2), .val (.ref b1), .val (.ref b32), .val (.int (1 : Int32)), .val (.ref s_CONNACK), .unset, .unset] [(.int (own_fb (2 : Int32) (0 : Int32)))]))
    rw [(by decide : (own_fb (2 : Int32) (0 : Int32)) = (32 : Int32))]
    show OwnR _ _ _ _ _ _ _ (T125.setTop (mkF m 222 #[.val (.int p1), .val (.int p2), .val (.ref b1), .val (.ref b32), .val (.int (1 : Int32)), .val (.ref s_CONNACK), .unset, .unset] [(.int (32 : Int32))]))
    refine OwnR.of (fun _ hr => XS.istore X125.here hx rfl (hb hby at_222) rfl (l' := #[.val (.int p1), .val (.int p2), .val (.ref b1), .val (.ref b32), .val (.int (1 : Int32)), .val (.ref s_CONNACK), .val (.int (32 : Int32)), .unset]) rfl hr) ?_
    show OwnR _ _ _ _ _ _ _ (T125.setTop (mkF m 224 #[.val (.int p1), .val (.int p2), .val (.ref b1), .val (.ref b32), .val (.int (1 : Int32)), .val (.ref s_CONNACK), .val (.int (32 : Int32)), .unset] []))
    refine OwnR.of (fun _ hr => XS.iload X125.here hx rfl (hb hby at_224) rfl hr) ?_
    show OwnR _ _ _ _ _ _ _ (T125.setTop (mkF m 226 #[.val (.int p1), .val (.int p2), .val (.ref b1), .val (.ref b32), .val (.int (1 : Int32)), .val (.ref s_CONNACK), .val (.int (32 : Int32)), .unset] [(.int (32 : Int32))]))
    refine OwnR.of (fun _ hr => XS.aloadN X125.here hx rfl (hb hby at_226) rfl rfl hr) ?_
    show OwnR _ _ _ _ _ _ _ (T125.setTop (mkF m 227 #[.val (.int p1), .val (.int p2), .val (.ref b1), .val (.ref b32), .val (.int (1 : Int32)), .val (.ref s_CONNACK), .val (.int (32 : Int32)), .unset] [(.ref b32), (.int (32 : Int32))]))
    refine OwnR.of (fun _ hr => XS.iload X125.here hx rfl (hb hby at_227) rfl hr) ?_
    show OwnR _ _ _ _ _ _ _ (T125.setTop (mkF m 229 #[.val (.int p1), .val (.int p2), .val (.ref b1), .val (.ref b32), .val (.int (1 : Int32)), .val (.ref s_CONNACK), .val (.int (32 : Int32)), .unset] [(.int (1 : Int32)), (.ref b32), (.int (32 : Int32))]))
    obtain ⟨cl126, Ar126, -, S126, N126, H126, G126⟩ := id V47
    have hin126 : ¬ ((1 : Int32) < 0 ∨ cl126.slots.size ≤ ((1 : Int32)).toNatClampNeg) := (inb_of S126 ⟨by decide, by decide⟩)
    refine OwnR.of (X125.iaload hx (j := (1 : Int32)) (v := (.int (32 : Int32))) (by rw [e125]; exact Ar126.1) (State.isArrayOf_alike hZ.alike Ar126.2.1) Ar126.2.2 hin126 (Has.at H126 hin126 rfl) (g := (mkF m 229 #[.val (.int p1), .val (.int p2), .val (.ref b1), .val (.ref b32), .val (.int (1 : Int32)), .val (.ref s_CONNACK), .val (.int (32 : Int32)), .unset] [(.int (1 : Int32)), (.ref b32), (.int (32 : Int32))])) rfl rfl (hb hby at_229)) ?_
    show OwnR _ _ _ _ _ _ _ (T125.setTop (mkF m 230 #[.val (.int p1), .val (.int p2), .val (.ref b1), .val (.ref b32), .val (.int (1 : Int32)), .val (.ref s_CONNACK), .val (.int (32 : Int32)), .unset] [(.int (32 : Int32)), (.int (32 : Int32))]))
    refine OwnR.of (fun _ hr => XS.icmpYes X125.here hx rfl (pc0 := 230) (pc' := 235) rfl (hb hby at_230) rfl (teq (by decide : (32 : Int32) = (32 : Int32))).1 (by decide) (by decide) hr) ?_
    show OwnR _ _ _ _ _ _ _ (T125.setTop (mkF m 235 #[.val (.int p1), .val (.int p2), .val (.ref b1), .val (.ref b32), .val (.int (1 : Int32)), .val (.ref s_CONNACK), .val (.int (32 : Int32)), .unset] []))
    refine OwnR.of (fun _ hr => XS.iloadN X125.here hx rfl (hb hby at_235) rfl hr) ?_
    show OwnR _ _ _ _ _ _ _ (T125.setTop (mkF m 236 #[.val (.int p1), .val (.int p2), .val (.ref b1), .val (.ref b32), .val (.int (1 : Int32)), .val (.ref s_CONNACK), .val (.int (32 : Int32)), .unset] [(.int p2)]))
    refine OwnR.of (fun _ hr => XS.iconst X125.here hx rfl (hb hby at_236) hr) ?_
    show OwnR _ _ _ _ _ _ _ (T125.setTop (mkF m 237 #[.val (.int p1), .val (.int p2), .val (.ref b1), .val (.ref b32), .val (.int (1 : Int32)), .val (.ref s_CONNACK), .val (.int (32 : Int32)), .unset] [(.int (1 : Int32)), (.int p2)]))
    refine OwnR.of (fun _ hr => XS.iand X125.here hx rfl (hb hby at_237) rfl hr) ?_
    show OwnR _ _ _ _ _ _ _ (T125.setTop (mkF m 238 #[.val (.int p1), .val (.int p2), .val (.ref b1), .val (.ref b32), .val (.int (1 : Int32)), .val (.ref s_CONNACK), .val (.int (32 : Int32)), .unset] [(.int (p2 &&& (1 : Int32)))]))
    by_cases hc238_127 : (p2 &&& (1 : Int32)) = (0 : Int32)
    · skip
      refine OwnR.of (fun _ hr => XS.ifNo X125.here hx rfl (hb hby at_238) rfl ((if0 _ _).trans (teq hc238_127).2) hr) ?_
      show OwnR _ _ _ _ _ _ _ (T125.setTop (mkF m 241 #[.val (.int p1), .val (.int p2), .val (.ref b1), .val (.ref b32), .val (.int (1 : Int32)), .val (.ref s_CONNACK), .val (.int (32 : Int32)), .unset] []))
      refine OwnR.of (fun _ hr => XS.aload X125.here hx rfl (hb hby at_241) rfl rfl hr) ?_
      show OwnR _ _ _ _ _ _ _ (T125.setTop (mkF m 243 #[.val (.int p1), .val (.int p2), .val (.ref b1), .val (.ref b32), .val (.int (1 : Int32)), .val (.ref s_CONNACK), .val (.int (32 : Int32)), .unset] [(.ref s_CONNACK)]))
      obtain ⟨T128, X128, e128, st128⟩ := getS2 X125 hx hZ hown (host := "") (Or.inl (hw _ (List.mem_of_getElem? (i := 32) rfl))) Via.refl e125 R50 (g := (mkF m 243 #[.val (.int p1), .val (.int p2), .val (.ref b1), .val (.ref b32), .val (.int (1 : Int32)), .val (.ref s_CONNACK), .val (.int (32 : Int32)), .unset] [(.ref s_CONNACK)])) rfl (hb hby at_243)
      refine OwnR.of (st128) ?_
      show OwnR _ _ _ _ _ _ _ (T128.setTop (mkF m 246 #[.val (.int p1), .val (.int p2), .val (.ref b1), .val (.ref b32), .val (.int (1 : Int32)), .val (.ref s_CONNACK), .val (.int (32 : Int32)), .unset] [(.ref s_AUTH), (.ref s_CONNACK)]))
      refine OwnR.of (fun _ hr => Jvm.RoadKit.acmp (g := (mkF m 246 #[.val (.int p1), .val (.int p2), .val (.ref b1), .val (.ref b32), .val (.int (1 : Int32)), .val (.ref s_CONNACK), .val (.int (32 : Int32)), .unset] [(.ref s_AUTH), (.ref s_CONNACK)])) X128 hx rfl rfl rfl (pc0 := 246) (pc' := 255) (same := false) rfl (hb hby at_246) rfl (decide_eq_false fun q => ne_CONNACK (Value.ref.inj q)) (by decide) (by decide) hr) ?_
      show OwnR _ _ _ _ _ _ _ (T128.setTop (mkF m 255 #[.val (.int p1), .val (.int p2), .val (.ref b1), .val (.ref b32), .val (.int (1 : Int32)), .val (.ref s_CONNACK), .val (.int (32 : Int32)), .unset] []))
      obtain ⟨T129, X129, e129, st129⟩ := getS2 X128 hx hZ hown (host := "") (Or.inl (hw _ (List.mem_of_getElem? (i := 56) rfl))) Via.refl e128 R51 (g := (mkF m 255 #[.val (.int p1), .val (.int p2), .val (.ref b1), .val (.ref b32), .val (.int (1 : Int32)), .val (.ref s_CONNACK), .val (.int (32 : Int32)), .unset] [])) rfl (hb hby at_255)
      refine OwnR.of (st129) ?_
      show OwnR _ _ _ _ _ _ _ (T129.setTop (mkF m 258 #[.val (.int p1), .val (.int p2), .val (.ref b1), .val (.ref b32), .val (.int (1 : Int32)), .val (.ref s_CONNACK), .val (.int (32 : Int32)), .unset] [(.ref s_V3)]))
      refine OwnR.of (fun _ hr => XS.astore X129.here hx rfl (hb hby at_258) rfl rfl (l' := #[.val (.int p1), .val (.int p2), .val (.ref b1), .val (.ref b32), .val (.int (1 : Int32)), .val (.ref s_CONNACK), .val (.int (32 : Int32)), .val (.ref s_V3)]) rfl hr) ?_
      show OwnR _ _ _ _ _ _ _ (T129.setTop (mkF m 260 #[.val (.int p1), .val (.int p2), .val (.ref b1), .val (.ref b32), .val (.int (1 : Int32)), .val (.ref s_CONNACK), .val (.int (32 : Int32)), .val (.ref s_V3)] []))
      refine OwnR.of (fun _ hr => XS.iload X129.here hx rfl (hb hby at_260) rfl hr) ?_
      show OwnR _ _ _ _ _ _ _ (T129.setTop (mkF m 262 #[.val (.int p1), .val (.int p2), .val (.ref b1), .val (.ref b32), .val (.int (1 : Int32)), .val (.ref s_CONNACK), .val (.int (32 : Int32)), .val (.ref s_V3)] [(.int (32 : Int32))]))
      refine OwnR.of (fun _ hr => XS.aload X129.here hx rfl (hb hby at_262) rfl rfl hr) ?_
      show OwnR _ _ _ _ _ _ _ (T129.setTop (mkF m 264 #[.val (.int p1), .val (.int p2), .val (.ref b1), .val (.ref b32), .val (.int (1 : Int32)), .val (.ref s_CONNACK), .val (.int (32 : Int32)), .val (.ref s_V3)] [(.ref s_V3), (.int (32 : Int32))]))
      obtain ⟨_, _, ⟨T130, L130, kc130, ns130⟩, -, X130, ⟨Lc130, hQ130, l130, y130, z130⟩, st130⟩ := Jvm.LawKit.callS X129 hx (y := (⟨"com/example/kurir/kurir/codec/PacketType", "of", "(ILcom/example/kurir/kurir/codec/ProtocolVersion;)Lcom/example/kurir/kurir/codec/PacketType;"⟩ : MethodName)) hown (mvT hZ (hw _ (List.mem_of_getElem? (i := 48) rfl))) (mvT hZ (hw _ (List.mem_of_getElem? (i := 49) rfl))) (mvT hZ (hw _ (List.mem_of_getElem? (i := 3) rfl))) (mvT hZ (hw _ (List.mem_of_getElem? (i := 50) rfl))) (by decide) (backOf (W := 0) (rm2_1 l Z a0 hw [] s_V3 sb kb s_CONNECT s_CONNACK s_PUBLISH s_PUBACK s_PUBREC s_PUBREL s_PUBCOMP s_SUBSCRIBE s_SUBACK s_UNSUBSCRIBE s_UNSUBACK s_PINGREQ s_PINGRESP s_DISCONNECT s_AUTH s_V3 h47 n0 (Nat.le_trans Z0 K47.1) R48 R49 R50 R51 ne_CONNACK) hZ (hw _ (List.mem_of_getElem? (i := 50) rfl)) (hw _ (List.mem_of_getElem? (i := 3) rfl)) (by decide) (by decide)) (g := (mkF m 264 #[.val (.int p1), .val (.int p2), .val (.ref b1), .val (.ref b32), .val (.int (1 : Int32)), .val (.ref s_CONNACK), .val (.int (32 : Int32)), .val (.ref s_V3)] [(.ref s_V3), (.int (32 : Int32))])) rfl (by rw [hml]; rfl) (argsL := [(.int (32 : Int32)), (.ref s_V3)]) (rest := []) (lenOf pd__ILcom_example_kurir_kurir_codec_ProtocolVersion__Lcom_example_kurir_kurir_codec_PacketType_ rfl) rfl (by show 2 * 0 + _ ≤ _; exact Nat.le_of_eq rfl) (hb hby at_264) (fun _ _ => ⟨rfl, e129, (by decide : 2 + 0 ≤ _), (by decide : 30 + 0 ≤ _)⟩)
      dsimp only [Pt.U, Pt.locs, Pt.cells, Pt.slots] at X130 l130 y130 z130 st130 hQ130
      rw [l130, y130, z130] at X130
      obtain ⟨rfl, N130q, e130⟩ := hQ130
      have N130 := Fr.app N125 N130q
      refine OwnR.of (st130) ?_
      show OwnR _ _ _ _ _ _ _ (T130.setTop (mkF m 267 #[.val (.int p1), .val (.int p2), .val (.ref b1), .val (.ref b32), .val (.int (1 : Int32)), .val (.ref s_CONNACK), .val (.int (32 : Int32)), .val (.ref s_V3)] [(.ref s_CONNACK)]))
      refine OwnR.of (fun _ hr => XS.aload X130.here hx rfl (hb hby at_267) rfl rfl hr) ?_
      show OwnR _ _ _ _ _ _ _ (T130.setTop (mkF m 269 #[.val (.int p1), .val (.int p2), .val (.ref b1), .val (.ref b32), .val (.int (1 : Int32)), .val (.ref s_CONNACK), .val (.int (32 : Int32)), .val (.ref s_V3)] [(.ref s_CONNACK), (.ref s_CONNACK)]))
      refine OwnR.of (fun _ hr => Jvm.RoadKit.acmp (g := (mkF m 269 #[.val (.int p1), .val (.int p2), .val (.ref b1), .val (.ref b32), .val (.int (1 : Int32)), .val (.ref s_CONNACK), .val (.int (32 : Int32)), .val (.ref s_V3)] [(.ref s_CONNACK), (.ref s_CONNACK)])) X130 hx rfl rfl rfl (pc0 := 269) (pc' := 272) (same := true) rfl (hb hby at_269) rfl (decide_eq_true rfl) (by decide) (by decide) hr) ?_
      show OwnR _ _ _ _ _ _ _ (T130.setTop (mkF m 272 #[.val (.int p1), .val (.int p2), .val (.ref b1), .val (.ref b32), .val (.int (1 : Int32)), .val (.ref s_CONNACK), .val (.int (32 : Int32)), .val (.ref s_V3)] []))
      refine OwnR.of (fun _ hr => XS.iconst X130.here hx rfl (hb hby at_272) hr) ?_
      show OwnR _ _ _ _ _ _ _ (T130.setTop (mkF m 273 #[.val (.int p1), .val (.int p2), .val (.ref b1), .val (.ref b32), .val (.int (1 : Int32)), .val (.ref s_CONNACK), .val (.int (32 : Int32)), .val (.ref s_V3)] [(.int (1 : Int32))]))
      refine OwnR.of (fun _ hr => XS.goto X130.here hx rfl (pc0 := 273) (pc' := 277) rfl (hb hby at_273) (by decide) (by decide) hr) ?_
      show OwnR _ _ _ _ _ _ _ (T130.setTop (mkF m 277 #[.val (.int p1), .val (.int p2), .val (.ref b1), .val (.ref b32), .val (.int (1 : Int32)), .val (.ref s_CONNACK), .val (.int (32 : Int32)), .val (.ref s_V3)] [(.int (1 : Int32))]))
      refine own_leafN X130 hx hlk (t := .boolean) Bd.returns (by simp) (hb hby at_277) (z' := (1 : Int32)) rfl (by decide) (by decide) ?_
      show Q0 Z  h0 n0 _ T130.heap _
      rw [show T130.heap = h47 from e130]
      refine ⟨?_, N130⟩
      show (some (.int (1 : Int32)) : Option Value) = some (.int (1 : Int32))
      rfl
    · skip
      refine OwnR.of (fun _ hr => XS.ifYes X125.here hx rfl (pc0 := 238) (pc' := 249) rfl (hb hby at_238) rfl ((if0 _ _).trans (feq hc238_127).2) (by decide) (by decide) hr) ?_
      show OwnR _ _ _ _ _ _ _ (T125.setTop (mkF m 249 #[.val (.int p1), .val (.int p2), .val (.ref b1), .val (.ref b32), .val (.int (1 : Int32)), .val (.ref s_CONNACK), .val (.int (32 : Int32)), .unset] []))
      obtain ⟨T131, X131, e131, st131⟩ := getS2 X125 hx hZ hown (host := "") (Or.inl (hw _ (List.mem_of_getElem? (i := 45) rfl))) Via.refl e125 R52 (g := (mkF m 249 #[.val (.int p1), .val (.int p2), .val (.ref b1), .val (.ref b32), .val (.int (1 : Int32)), .val (.ref s_CONNACK), .val (.int (32 : Int32)), .unset] [])) rfl (hb hby at_249)
      refine OwnR.of (st131) ?_
      show OwnR _ _ _ _ _ _ _ (T131.setTop (mkF m 252 #[.val (.int p1), .val (.int p2), .val (.ref b1), .val (.ref b32), .val (.int (1 : Int32)), .val (.ref s_CONNACK), .val (.int (32 : Int32)), .unset] [(.ref s_V5)]))
      refine OwnR.of (fun _ hr => XS.goto X131.here hx rfl (pc0 := 252) (pc' := 258) rfl (hb hby at_252) (by decide) (by decide) hr) ?_
      show OwnR _ _ _ _ _ _ _ (T131.setTop (mkF m 258 #[.val (.int p1), .val (.int p2), .val (.ref b1), .val (.ref b32), .val (.int (1 : Int32)), .val (.ref s_CONNACK), .val (.int (32 : Int32)), .unset] [(.ref s_V5)]))
      refine OwnR.of (fun _ hr => XS.astore X131.here hx rfl (hb hby at_258) rfl rfl (l' := #[.val (.int p1), .val (.int p2), .val (.ref b1), .val (.ref b32), .val (.int (1 : Int32)), .val (.ref s_CONNACK), .val (.int (32 : Int32)), .val (.ref s_V5)]) rfl hr) ?_
      show OwnR _ _ _ _ _ _ _ (T131.setTop (mkF m 260 #[.val (.int p1), .val (.int p2), .val (.ref b1), .val (.ref b32), .val (.int (1 : Int32)), .val (.ref s_CONNACK), .val (.int (32 : Int32)), .val (.ref s_V5)] []))
      refine OwnR.of (fun _ hr => XS.iload X131.here hx rfl (hb hby at_260) rfl hr) ?_
      show OwnR _ _ _ _ _ _ _ (T131.setTop (mkF m 262 #[.val (.int p1), .val (.int p2), .val (.ref b1), .val (.ref b32), .val (.int (1 : Int32)), .val (.ref s_CONNACK), .val (.int (32 : Int32)), .val (.ref s_V5)] [(.int (32 : Int32))]))
      refine OwnR.of (fun _ hr => XS.aload X131.here hx rfl (hb hby at_262) rfl rfl hr) ?_
      show OwnR _ _ _ _ _ _ _ (T131.setTop (mkF m 264 #[.val (.int p1), .val (.int p2), .val (.ref b1), .val (.ref b32), .val (.int (1 : Int32)), .val (.ref s_CONNACK), .val (.int (32 : Int32)), .val (.ref s_V5)] [(.ref s_V5), (.int (32 : Int32))]))
      obtain ⟨_, _, ⟨T132, L132, kc132, ns132⟩, -, X132, ⟨Lc132, hQ132, l132, y132, z132⟩, st132⟩ := Jvm.LawKit.callS X131 hx (y := (⟨"com/example/kurir/kurir/codec/PacketType", "of", "(ILcom/example/kurir/kurir/codec/ProtocolVersion;)Lcom/example/kurir/kurir/codec/PacketType;"⟩ : MethodName)) hown (mvT hZ (hw _ (List.mem_of_getElem? (i := 48) rfl))) (mvT hZ (hw _ (List.mem_of_getElem? (i := 49) rfl))) (mvT hZ (hw _ (List.mem_of_getElem? (i := 3) rfl))) (mvT hZ (hw _ (List.mem_of_getElem? (i := 50) rfl))) (by decide) (backOf (W := 0) (rm2_1 l Z a0 hw [] s_V5 sb kb s_CONNECT s_CONNACK s_PUBLISH s_PUBACK s_PUBREC s_PUBREL s_PUBCOMP s_SUBSCRIBE s_SUBACK s_UNSUBSCRIBE s_UNSUBACK s_PINGREQ s_PINGRESP s_DISCONNECT s_AUTH s_V3 h47 n0 (Nat.le_trans Z0 K47.1) R48 R49 R50 R51 ne_CONNACK) hZ (hw _ (List.mem_of_getElem? (i := 50) rfl)) (hw _ (List.mem_of_getElem? (i := 3) rfl)) (by decide) (by decide)) (g := (mkF m 264 #[.val (.int p1), .val (.int p2), .val (.ref b1), .val (.ref b32), .val (.int (1 : Int32)), .val (.ref s_CONNACK), .val (.int (32 : Int32)), .val (.ref s_V5)] [(.ref s_V5), (.int (32 : Int32))])) rfl (by rw [hml]; rfl) (argsL := [(.int (32 : Int32)), (.ref s_V5)]) (rest := []) (lenOf pd__ILcom_example_kurir_kurir_codec_ProtocolVersion__Lcom_example_kurir_kurir_codec_PacketType_ rfl) rfl (by show 2 * 0 + _ ≤ _; exact Nat.le_of_eq rfl) (hb hby at_264) (fun _ _ => ⟨rfl, e131, (by decide : 2 + 0 ≤ _), (by decide : 30 + 0 ≤ _)⟩)
      dsimp only [Pt.U, Pt.locs, Pt.cells, Pt.slots] at X132 l132 y132 z132 st132 hQ132
      rw [l132, y132, z132] at X132
      obtain ⟨rfl, N132q, e132⟩ := hQ132
      have N132 := Fr.app N125 N132q
      refine OwnR.of (st132) ?_
      show OwnR _ _ _ _ _ _ _ (T132.setTop (mkF m 267 #[.val (.int p1), .val (.int p2), .val (.ref b1), .val (.ref b32), .val (.int (1 : Int32)), .val (.ref s_CONNACK), .val (.int (32 : Int32)), .val (.ref s_V5)] [(.ref s_CONNACK)]))
      refine OwnR.of (fun _ hr => XS.aload X132.here hx rfl (hb hby at_267) rfl rfl hr) ?_
      show OwnR _ _ _ _ _ _ _ (T132.setTop (mkF m 269 #[.val (.int p1), .val (.int p2), .val (.ref b1), .val (.ref b32), .val (.int (1 : Int32)), .val (.ref s_CONNACK), .val (.int (32 : Int32)), .val (.ref s_V5)] [(.ref s_CONNACK), (.ref s_CONNACK)]))
      refine OwnR.of (fun _ hr => Jvm.RoadKit.acmp (g := (mkF m 269 #[.val (.int p1), .val (.int p2), .val (.ref b1), .val (.ref b32), .val (.int (1 : Int32)), .val (.ref s_CONNACK), .val (.int (32 : Int32)), .val (.ref s_V5)] [(.ref s_CONNACK), (.ref s_CONNACK)])) X132 hx rfl rfl rfl (pc0 := 269) (pc' := 272) (same := true) rfl (hb hby at_269) rfl (decide_eq_true rfl) (by decide) (by decide) hr) ?_
      show OwnR _ _ _ _ _ _ _ (T132.setTop (mkF m 272 #[.val (.int p1), .val (.int p2), .val (.ref b1), .val (.ref b32), .val (.int (1 : Int32)), .val (.ref s_CONNACK), .val (.int (32 : Int32)), .val (.ref s_V5)] []))
      refine OwnR.of (fun _ hr => XS.iconst X132.here hx rfl (hb hby at_272) hr) ?_
      show OwnR _ _ _ _ _ _ _ (T132.setTop (mkF m 273 #[.val (.int p1), .val (.int p2), .val (.ref b1), .val (.ref b32), .val (.int (1 : Int32)), .val (.ref s_CONNACK), .val (.int (32 : Int32)), .val (.ref s_V5)] [(.int (1 : Int32))]))
      refine OwnR.of (fun _ hr => XS.goto X132.here hx rfl (pc0 := 273) (pc' := 277) rfl (hb hby at_273) (by decide) (by decide) hr) ?_
      show OwnR _ _ _ _ _ _ _ (T132.setTop (mkF m 277 #[.val (.int p1), .val (.int p2), .val (.ref b1), .val (.ref b32), .val (.int (1 : Int32)), .val (.ref s_CONNACK), .val (.int (32 : Int32)), .val (.ref s_V5)] [(.int (1 : Int32))]))
      refine own_leafN X132 hx hlk (t := .boolean) Bd.returns (by simp) (hb hby at_277) (z' := (1 : Int32)) rfl (by decide) (by decide) ?_
      show Q0 Z  h0 n0 _ T132.heap _
      rw [show T132.heap = h47 from e132]
      refine ⟨?_, N132⟩
      show (some (.int (1 : Int32)) : Option Value) = some (.int (1 : Int32))
      rfl
  · skip
    show OwnR _ _ _ _ _ _ _ (T47.setTop (mkF m 211 #[.val (.int p1), .val (.int p2), .val (.ref b1), .val (.ref b32), .val (.int (2 : Int32)), .unset, .unset, .unset] []))
    refine OwnR.of (fun _ hr => XS.aloadN X47.here hx rfl (hb hby at_211) rfl rfl hr) ?_
    show OwnR _ _ _ _ _ _ _ (T47.setTop (mkF m 212 #[.val (.int p1), .val (.int p2), .val (.ref b1), .val (.ref b32), .val (.int (2 : Int32)), .unset, .unset, .unset] [(.ref b1)]))
    refine OwnR.of (fun _ hr => XS.iload X47.here hx rfl (hb hby at_212) rfl hr) ?_
    show OwnR _ _ _ _ _ _ _ (T47.setTop (mkF m 214 #[.val (.int p1), .val (.int p2), .val (.ref b1), .val (.ref b32), .val (.int (2 : Int32)), .unset, .unset, .unset] [(.int (2 : Int32)), (.ref b1)]))
    obtain ⟨cl133, Ar133, -, S133, N133, H133, G133⟩ := id R113
    have hin133 : ¬ ((2 : Int32) < 0 ∨ cl133.slots.size ≤ ((2 : Int32)).toNatClampNeg) := (inb_of S133 ⟨by decide, by decide⟩)
    refine OwnR.of (X47.aaload hx (j := (2 : Int32)) (v := (.ref s_PUBLISH)) (by rw [e47]; exact Ar133.1) (State.isArrayOf_alike hZ.alike Ar133.2.1) rfl Ar133.2.2 hin133 (Has.at H133 hin133 rfl) (g := (mkF m 214 #[.val (.int p1), .val (.int p2), .val (.ref b1), .val (.ref b32), .val (.int (2 : Int32)), .unset, .unset, .unset] [(.int (2 : Int32)), (.ref b1)])) rfl rfl (hb hby at_214)) ?_
    show OwnR _ _ _ _ _ _ _ (T47.setTop (mkF m 215 #[.val (.int p1), .val (.int p2), .val (.ref b1), .val (.ref b32), .val (.int (2 : Int32)), .unset, .unset, .unset] [(.ref s_PUBLISH)]))
    refine OwnR.of (fun _ hr => XS.astore X47.here hx rfl (hb hby at_215) rfl rfl (l' := #[.val (.int p1), .val (.int p2), .val (.ref b1), .val (.ref b32), .val (.int (2 : Int32)), .val (.ref s_PUBLISH), .unset, .unset]) rfl hr) ?_
    show OwnR _ _ _ _ _ _ _ (T47.setTop (mkF m 217 #[.val (.int p1), .val (.int p2), .val (.ref b1), .val (.ref b32), .val (.int (2 : Int32)), .val (.ref s_PUBLISH), .unset, .unset] []))
    refine OwnR.of (fun _ hr => XS.aload X47.here hx rfl (hb hby at_217) rfl rfl hr) ?_
    show OwnR _ _ _ _ _ _ _ (T47.setTop (mkF m 219 #[.val (.int p1), .val (.int p2), .val (.ref b1), .val (.ref b32), .val (.int (2 : Int32)), .val (.ref s_PUBLISH), .unset, .unset] [(.ref s_PUBLISH)]))
    obtain ⟨cq134, kq134, q134a, q134b, q134c⟩ := isOf hZ e47 R62
    obtain ⟨_, _, ⟨T134, L134, kc134, ns134⟩, -, X134, ⟨Lc134, hQ134, l134, y134, z134⟩, st134⟩ := X47.virtualBack hx (y := (⟨"com/example/kurir/kurir/codec/PacketType", "firstByte", "()I"⟩ : MethodName)) (z := (⟨"com/example/kurir/kurir/codec/PacketType", "firstByte", "()I"⟩ : MethodName)) hown (mvT hZ (hw _ (List.mem_of_getElem? (i := 36) rfl))) (mvT hZ (hw _ (List.mem_of_getElem? (i := 37) rfl))) (notFace_of_selects (args := #[]) (mvT hZ (hw _ (List.mem_of_getElem? (i := 39) rfl)))) (mvT hZ (hw _ (List.mem_of_getElem? (i := 39) rfl))) (mvT hZ (hw _ (List.mem_of_getElem? (i := 38) rfl))) (by decide) (backOf (W := 0) (rm1 l Z a0 hw [] s_PUBLISH (3 : Int32) (-1 : Int32) h47 n0 (Nat.le_trans Z0 K47.1) R62 R63 R64) hZ (hw _ (List.mem_of_getElem? (i := 40) rfl)) (hw _ (List.mem_of_getElem? (i := 3) rfl)) (by decide) (by decide)) q134a q134c (g := (mkF m 219 #[.val (.int p1), .val (.int p2), .val (.ref b1), .val (.ref b32), .val (.int (2 : Int32)), .val (.ref s_PUBLISH), .unset, .unset] [(.ref s_PUBLISH)])) rfl (by rw [hml]; rfl) (Steps.refl _) (argsL := []) (rest := []) (lenOf pd___I rfl) rfl (by show 2 * 0 + _ ≤ _; exact Nat.le_of_eq rfl) (hb hby at_219) (fun _ _ => ⟨rfl, e47, (by decide : 2 + 0 ≤ _), (by decide : 30 + 0 ≤ _)⟩)
    dsimp only [Pt.U, Pt.locs, Pt.cells, Pt.slots] at X134 l134 y134 z134 st134 hQ134
    rw [l134, y134, z134] at X134
    obtain ⟨rfl, N134q, e134⟩ := hQ134
    have N134 := Fr.app N47 N134q
    refine OwnR.of (fun _ hr => st134.trans hr) ?_
    show OwnR _ _ _ _ _ _ _ (T134.setTop (mkF m 222 #[.val (.int p1), .val (.int p2), .val (.ref b1), .val (.ref b32), .val (.int (2 : Int32)), .val (.ref s_PUBLISH), .unset, .unset] [(.int (own_fb (3 : Int32) (-1 : Int32)))]))
    rw [(by decide : (own_fb (3 : Int32) (-1 : Int32)) = (48 : Int32))]
    show OwnR _ _ _ _ _ _ _ (T134.setTop (mkF m 222 #[.val (.int p1), .val (.int p2), .val (.ref b1), .val (.ref b32), .val (.int (2 : Int32)), .val (.ref s_PUBLISH), .unset, .unset] [(.int (48 : Int32))]))
    refine OwnR.of (fun _ hr => XS.istore X134.here hx rfl (hb hby at_222) rfl (l' := #[.val (.int p1), .val (.int p2), .val (.ref b1), .val (.ref b32), .val (.int (2 : Int32)), .val (.ref s_PUBLISH), .val (.int (48 : Int32)), .unset]) rfl hr) ?_
    show OwnR _ _ _ _ _ _ _ (T134.setTop (mkF m 224 #[.val (.int p1), .val (.int p2), .val (.ref b1), .val (.ref b32), .val (.int (2 : Int32)), .val (.ref s_PUBLISH), .val (.int (48 : Int32)), .unset] []))
    refine OwnR.of (fun _ hr => XS.iload X134.here hx rfl (hb hby at_224) rfl hr) ?_
    show OwnR _ _ _ _ _ _ _ (T134.setTop (mkF m 226 #[.val (.int p1), .val (.int p2), .val (.ref b1), .val (.ref b32), .val (.int (2 : Int32)), .val (.ref s_PUBLISH), .val (.int (48 : Int32)), .unset] [(.int (48 : Int32))]))
    refine OwnR.of (fun _ hr => XS.aloadN X134.here hx rfl (hb hby at_226) rfl rfl hr) ?_
    show OwnR _ _ _ _ _ _ _ (T134.setTop (mkF m 227 #[.val (.int p1), .val (.int p2), .val (.ref b1), .val (.ref b32), .val (.int (2 : Int32)), .val (.ref s_PUBLISH), .val (.int (48 : Int32)), .unset] [(.ref b32), (.int (48 : Int32))]))
    refine OwnR.of (fun _ hr => XS.iload X134.here hx rfl (hb hby at_227) rfl hr) ?_
    show OwnR _ _ _ _ _ _ _ (T134.setTop (mkF m 229 #[.val (.int p1), .val (.int p2), .val (.ref b1), .val (.ref b32), .val (.int (2 : Int32)), .val (.ref s_PUBLISH), .val (.int (48 : Int32)), .unset] [(.int (2 : Int32)), (.ref b32), (.int (48 : Int32))]))
    obtain ⟨cl135, Ar135, -, S135, N135, H135, G135⟩ := id V47
    have hin135 : ¬ ((2 : Int32) < 0 ∨ cl135.slots.size ≤ ((2 : Int32)).toNatClampNeg) := (inb_of S135 ⟨by decide, by decide⟩)
    refine OwnR.of (X134.iaload hx (j := (2 : Int32)) (v := (.int (48 : Int32))) (by rw [e134]; exact Ar135.1) (State.isArrayOf_alike hZ.alike Ar135.2.1) Ar135.2.2 hin135 (Has.at H135 hin135 rfl) (g := (mkF m 229 #[.val (.int p1), .val (.int p2), .val (.ref b1), .val (.ref b32), .val (.int (2 : Int32)), .val (.ref s_PUBLISH), .val (.int (48 : Int32)), .unset] [(.int (2 : Int32)), (.ref b32), (.int (48 : Int32))])) rfl rfl (hb hby at_229)) ?_
    show OwnR _ _ _ _ _ _ _ (T134.setTop (mkF m 230 #[.val (.int p1), .val (.int p2), .val (.ref b1), .val (.ref b32), .val (.int (2 : Int32)), .val (.ref s_PUBLISH), .val (.int (48 : Int32)), .unset] [(.int (48 : Int32)), (.int (48 : Int32))]))
    refine OwnR.of (fun _ hr => XS.icmpYes X134.here hx rfl (pc0 := 230) (pc' := 235) rfl (hb hby at_230) rfl (teq (by decide : (48 : Int32) = (48 : Int32))).1 (by decide) (by decide) hr) ?_
    show OwnR _ _ _ _ _ _ _ (T134.setTop (mkF m 235 #[.val (.int p1), .val (.int p2), .val (.ref b1), .val (.ref b32), .val (.int (2 : Int32)), .val (.ref s_PUBLISH), .val (.int (48 : Int32)), .unset] []))
    refine OwnR.of (fun _ hr => XS.iloadN X134.here hx rfl (hb hby at_235) rfl hr) ?_
    show OwnR _ _ _ _ _ _ _ (T134.setTop (mkF m 236 #[.val (.int p1), .val (.int p2), .val (.ref b1), .val (.ref b32), .val (.int (2 : Int32)), .val (.ref s_PUBLISH), .val (.int (48 : Int32)), .unset] [(.int p2)]))
    refine OwnR.of (fun _ hr => XS.iconst X134.here hx rfl (hb hby at_236) hr) ?_
    show OwnR _ _ _ _ _ _ _ (T134.setTop (mkF m 237 #[.val (.int p1), .val (.int p2), .val (.ref b1), .val (.ref b32), .val (.int (2 : Int32)), .val (.ref s_PUBLISH), .val (.int (48 : Int32)), .unset] [(.int (1 : Int32)), (.int p2)]))
    refine OwnR.of (fun _ hr => XS.iand X134.here hx rfl (hb hby at_237) rfl hr) ?_
    show OwnR _ _ _ _ _ _ _ (T134.setTop (mkF m 238 #[.val (.int p1), .val (.int p2), .val (.ref b1), .val (.ref b32), .val (.int (2 : Int32)), .val (.ref s_PUBLISH), .val (.int (48 : Int32)), .unset] [(.int (p2 &&& (1 : Int32)))]))
    by_cases hc238_136 : (p2 &&& (1 : Int32)) = (0 : Int32)
    · skip
      refine OwnR.of (fun _ hr => XS.ifNo X134.here hx rfl (hb hby at_238) rfl ((if0 _ _).trans (teq hc238_136).2) hr) ?_
      show OwnR _ _ _ _ _ _ _ (T134.setTop (mkF m 241 #[.val (.int p1), .val (.int p2), .val (.ref b1), .val (.ref b32), .val (.int (2 : Int32)), .val (.ref s_PUBLISH), .val (.int (48 : Int32)), .unset] []))
      refine OwnR.of (fun _ hr => XS.aload X134.here hx rfl (hb hby at_241) rfl rfl hr) ?_
      show OwnR _ _ _ _ _ _ _ (T134.setTop (mkF m 243 #[.val (.int p1), .val (.int p2), .val (.ref b1), .val (.ref b32), .val (.int (2 : Int32)), .val (.ref s_PUBLISH), .val (.int (48 : Int32)), .unset] [(.ref s_PUBLISH)]))
      obtain ⟨T137, X137, e137, st137⟩ := getS2 X134 hx hZ hown (host := "") (Or.inl (hw _ (List.mem_of_getElem? (i := 32) rfl))) Via.refl e134 R50 (g := (mkF m 243 #[.val (.int p1), .val (.int p2), .val (.ref b1), .val (.ref b32), .val (.int (2 : Int32)), .val (.ref s_PUBLISH), .val (.int (48 : Int32)), .unset] [(.ref s_PUBLISH)])) rfl (hb hby at_243)
      refine OwnR.of (st137) ?_
      show OwnR _ _ _ _ _ _ _ (T137.setTop (mkF m 246 #[.val (.int p1), .val (.int p2), .val (.ref b1), .val (.ref b32), .val (.int (2 : Int32)), .val (.ref s_PUBLISH), .val (.int (48 : Int32)), .unset] [(.ref s_AUTH), (.ref s_PUBLISH)]))
      refine OwnR.of (fun _ hr => Jvm.RoadKit.acmp (g := (mkF m 246 #[.val (.int p1), .val (.int p2), .val (.ref b1), .val (.ref b32), .val (.int (2 : Int32)), .val (.ref s_PUBLISH), .val (.int (48 : Int32)), .unset] [(.ref s_AUTH), (.ref s_PUBLISH)])) X137 hx rfl rfl rfl (pc0 := 246) (pc' := 255) (same := false) rfl (hb hby at_246) rfl (decide_eq_false fun q => ne_PUBLISH (Value.ref.inj q)) (by decide) (by decide) hr) ?_
      show OwnR _ _ _ _ _ _ _ (T137.setTop (mkF m 255 #[.val (.int p1), .val (.int p2), .val (.ref b1), .val (.ref b32), .val (.int (2 : Int32)), .val (.ref s_PUBLISH), .val (.int (48 : Int32)), .unset] []))
      obtain ⟨T138, X138, e138, st138⟩ := getS2 X137 hx hZ hown (host := "") (Or.inl (hw _ (List.mem_of_getElem? (i := 56) rfl))) Via.refl e137 R51 (g := (mkF m 255 #[.val (.int p1), .val (.int p2), .val (.ref b1), .val (.ref b32), .val (.int (2 : Int32)), .val (.ref s_PUBLISH), .val (.int (48 : Int32)), .unset] [])) rfl (hb hby at_255)
      refine OwnR.of (st138) ?_
      show OwnR _ _ _ _ _ _ _ (T138.setTop (mkF m 258 #[.val (.int p1), .val (.int p2), .val (.ref b1), .val (.ref b32), .val (.int (2 : Int32)), .val (.ref s_PUBLISH), .val (.int (48 : Int32)), .unset] [(.ref s_V3)]))
      refine OwnR.of (fun _ hr => XS.astore X138.here hx rfl (hb hby at_258) rfl rfl (l' := #[.val (.int p1), .val (.int p2), .val (.ref b1), .val (.ref b32), .val (.int (2 : Int32)), .val (.ref s_PUBLISH), .val (.int (48 : Int32)), .val (.ref s_V3)]) rfl hr) ?_
      show OwnR _ _ _ _ _ _ _ (T138.setTop (mkF m 260 #[.val (.int p1), .val (.int p2), .val (.ref b1), .val (.ref b32), .val (.int (2 : Int32)), .val (.ref s_PUBLISH), .val (.int (48 : Int32)), .val (.ref s_V3)] []))
      refine OwnR.of (fun _ hr => XS.iload X138.here hx rfl (hb hby at_260) rfl hr) ?_
      show OwnR _ _ _ _ _ _ _ (T138.setTop (mkF m 262 #[.val (.int p1), .val (.int p2), .val (.ref b1), .val (.ref b32), .val (.int (2 : Int32)), .val (.ref s_PUBLISH), .val (.int (48 : Int32)), .val (.ref s_V3)] [(.int (48 : Int32))]))
      refine OwnR.of (fun _ hr => XS.aload X138.here hx rfl (hb hby at_262) rfl rfl hr) ?_
      show OwnR _ _ _ _ _ _ _ (T138.setTop (mkF m 264 #[.val (.int p1), .val (.int p2), .val (.ref b1), .val (.ref b32), .val (.int (2 : Int32)), .val (.ref s_PUBLISH), .val (.int (48 : Int32)), .val (.ref s_V3)] [(.ref s_V3), (.int (48 : Int32))]))
      obtain ⟨_, _, ⟨T139, L139, kc139, ns139⟩, -, X139, ⟨Lc139, hQ139, l139, y139, z139⟩, st139⟩ := Jvm.LawKit.callS X138 hx (y := (⟨"com/example/kurir/kurir/codec/PacketType", "of", "(ILcom/example/kurir/kurir/codec/ProtocolVersion;)Lcom/example/kurir/kurir/codec/PacketType;"⟩ : MethodName)) hown (mvT hZ (hw _ (List.mem_of_getElem? (i := 48) rfl))) (mvT hZ (hw _ (List.mem_of_getElem? (i := 49) rfl))) (mvT hZ (hw _ (List.mem_of_getElem? (i := 3) rfl))) (mvT hZ (hw _ (List.mem_of_getElem? (i := 50) rfl))) (by decide) (backOf (W := 0) (rm2_2 l Z a0 hw [] s_V3 sb kb s_CONNECT s_CONNACK s_PUBLISH s_PUBACK s_PUBREC s_PUBREL s_PUBCOMP s_SUBSCRIBE s_SUBACK s_UNSUBSCRIBE s_UNSUBACK s_PINGREQ s_PINGRESP s_DISCONNECT s_AUTH s_V3 h47 n0 (Nat.le_trans Z0 K47.1) R48 R49 R50 R51 ne_PUBLISH) hZ (hw _ (List.mem_of_getElem? (i := 50) rfl)) (hw _ (List.mem_of_getElem? (i := 3) rfl)) (by decide) (by decide)) (g := (mkF m 264 #[.val (.int p1), .val (.int p2), .val (.ref b1), .val (.ref b32), .val (.int (2 : Int32)), .val (.ref s_PUBLISH), .val (.int (48 : Int32)), .val (.ref s_V3)] [(.ref s_V3), (.int (48 : Int32))])) rfl (by rw [hml]; rfl) (argsL := [(.int (48 : Int32)), (.ref s_V3)]) (rest := []) (lenOf pd__ILcom_example_kurir_kurir_codec_ProtocolVersion__Lcom_example_kurir_kurir_codec_PacketType_ rfl) rfl (by show 2 * 0 + _ ≤ _; exact Nat.le_of_eq rfl) (hb hby at_264) (fun _ _ => ⟨rfl, e138, (by decide : 2 + 0 ≤ _), (by decide : 30 + 0 ≤ _)⟩)
      dsimp only [Pt.U, Pt.locs, Pt.cells, Pt.slots] at X139 l139 y139 z139 st139 hQ139
      rw [l139, y139, z139] at X139
      obtain ⟨rfl, N139q, e139⟩ := hQ139
      have N139 := Fr.app N134 N139q
      refine OwnR.of (st139) ?_
      show OwnR _ _ _ _ _ _ _ (T139.setTop (mkF m 267 #[.val (.int p1), .val (.int p2), .val (.ref b1), .val (.ref b32), .val (.int (2 : Int32)), .val (.ref s_PUBLISH), .val (.int (48 : Int32)), .val (.ref s_V3)] [(.ref s_PUBLISH)]))
      refine OwnR.of (fun _ hr => XS.aload X139.here hx rfl (hb hby at_267) rfl rfl hr) ?_
      show OwnR _ _ _ _ _ _ _ (T139.setTop (mkF m 269 #[.val (.int p1), .val (.int p2), .val (.ref b1), .val (.ref b32), .val (.int (2 : Int32)), .val (.ref s_PUBLISH), .val (.int (48 : Int32)), .val (.ref s_V3)] [(.ref s_PUBLISH), (.ref s_PUBLISH)]))
      refine OwnR.of (fun _ hr => Jvm.RoadKit.acmp (g := (mkF m 269 #[.val (.int p1), .val (.int p2), .val (.ref b1), .val (.ref b32), .val (.int (2 : Int32)), .val (.ref s_PUBLISH), .val (.int (48 : Int32)), .val (.ref s_V3)] [(.ref s_PUBLISH), (.ref s_PUBLISH)])) X139 hx rfl rfl rfl (pc0 := 269) (pc' := 272) (same := true) rfl (hb hby at_269) rfl (decide_eq_true rfl) (by decide) (by decide) hr) ?_
      show OwnR _ _ _ _ _ _ _ (T139.setTop (mkF m 272 #[.val (.int p1), .val (.int p2), .val (.ref b1), .val (.ref b32), .val (.int (2 : Int32)), .val (.ref s_PUBLISH), .val (.int (48 : Int32)), .val (.ref s_V3)] []))
      refine OwnR.of (fun _ hr => XS.iconst X139.here hx rfl (hb hby at_272) hr) ?_
      show OwnR _ _ _ _ _ _ _ (T139.setTop (mkF m 273 #[.val (.int p1), .val (.int p2), .val (.ref b1), .val (.ref b32), .val (.int (2 : Int32)), .val (.ref s_PUBLISH), .val (.int (48 : Int32)), .val (.ref s_V3)] [(.int (1 : Int32))]))
      refine OwnR.of (fun _ hr => XS.goto X139.here hx rfl (pc0 := 273) (pc' := 277) rfl (hb hby at_273) (by decide) (by decide) hr) ?_
      show OwnR _ _ _ _ _ _ _ (T139.setTop (mkF m 277 #[.val (.int p1), .val (.int p2), .val (.ref b1), .val (.ref b32), .val (.int (2 : Int32)), .val (.ref s_PUBLISH), .val (.int (48 : Int32)), .val (.ref s_V3)] [(.int (1 : Int32))]))
      refine own_leafN X139 hx hlk (t := .boolean) Bd.returns (by simp) (hb hby at_277) (z' := (1 : Int32)) rfl (by decide) (by decide) ?_
      show Q0 Z  h0 n0 _ T139.heap _
      rw [show T139.heap = h47 from e139]
      refine ⟨?_, N139⟩
      show (some (.int (1 : Int32)) : Option Value) = some (.int (1 : Int32))
      rfl
    · skip
      refine OwnR.of (fun _ hr => XS.ifYes X134.here hx rfl (pc0 := 238) (pc' := 249) rfl (hb hby at_238) rfl ((if0 _ _).trans (feq hc238_136).2) (by decide) (by decide) hr) ?_
      show OwnR _ _ _ _ _ _ _ (T134.setTop (mkF m 249 #[.val (.int p1), .val (.int p2), .val (.ref b1), .val (.ref b32), .val (.int (2 : Int32)), .val (.ref s_PUBLISH), .val (.int (48 : Int32)), .unset] []))
      obtain ⟨T140, X140, e140, st140⟩ := getS2 X134 hx hZ hown (host := "") (Or.inl (hw _ (List.mem_of_getElem? (i := 45) rfl))) Via.refl e134 R52 (g := (mkF m 249 #[.val (.int p1), .val (.int p2), .val (.ref b1), .val (.ref b32), .val (.int (2 : Int32)), .val (.ref s_PUBLISH), .val (.int (48 : Int32)), .unset] [])) rfl (hb hby at_249)
      refine OwnR.of (st140) ?_
      show OwnR _ _ _ _ _ _ _ (T140.setTop (mkF m 252 #[.val (.int p1), .val (.int p2), .val (.ref b1), .val (.ref b32), .val (.int (2 : Int32)), .val (.ref s_PUBLISH), .val (.int (48 : Int32)), .unset] [(.ref s_V5)]))
      refine OwnR.of (fun _ hr => XS.goto X140.here hx rfl (pc0 := 252) (pc' := 258) rfl (hb hby at_252) (by decide) (by decide) hr) ?_
      show OwnR _ _ _ _ _ _ _ (T140.setTop (mkF m 258 #[.val (.int p1), .val (.int p2), .val (.ref b1), .val (.ref b32), .val (.int (2 : Int32)), .val (.ref s_PUBLISH), .val (.int (48 : Int32)), .unset] [(.ref s_V5)]))
      refine OwnR.of (fun _ hr => XS.astore X140.here hx rfl (hb hby at_258) rfl rfl (l' := #[.val (.int p1), .val (.int p2), .val (.ref b1), .val (.ref b32), .val (.int (2 : Int32)), .val (.ref s_PUBLISH), .val (.int (48 : Int32)), .val (.ref s_V5)]) rfl hr) ?_
      show OwnR _ _ _ _ _ _ _ (T140.setTop (mkF m 260 #[.val (.int p1), .val (.int p2), .val (.ref b1), .val (.ref b32), .val (.int (2 : Int32)), .val (.ref s_PUBLISH), .val (.int (48 : Int32)), .val (.ref s_V5)] []))
      refine OwnR.of (fun _ hr => XS.iload X140.here hx rfl (hb hby at_260) rfl hr) ?_
      show OwnR _ _ _ _ _ _ _ (T140.setTop (mkF m 262 #[.val (.int p1), .val (.int p2), .val (.ref b1), .val (.ref b32), .val (.int (2 : Int32)), .val (.ref s_PUBLISH), .val (.int (48 : Int32)), .val (.ref s_V5)] [(.int (48 : Int32))]))
      refine OwnR.of (fun _ hr => XS.aload X140.here hx rfl (hb hby at_262) rfl rfl hr) ?_
      show OwnR _ _ _ _ _ _ _ (T140.setTop (mkF m 264 #[.val (.int p1), .val (.int p2), .val (.ref b1), .val (.ref b32), .val (.int (2 : Int32)), .val (.ref s_PUBLISH), .val (.int (48 : Int32)), .val (.ref s_V5)] [(.ref s_V5), (.int (48 : Int32))]))
      obtain ⟨_, _, ⟨T141, L141, kc141, ns141⟩, -, X141, ⟨Lc141, hQ141, l141, y141, z141⟩, st141⟩ := Jvm.LawKit.callS X140 hx (y := (⟨"com/example/kurir/kurir/codec/PacketType", "of", "(ILcom/example/kurir/kurir/codec/ProtocolVersion;)Lcom/example/kurir/kurir/codec/PacketType;"⟩ : MethodName)) hown (mvT hZ (hw _ (List.mem_of_getElem? (i := 48) rfl))) (mvT hZ (hw _ (List.mem_of_getElem? (i := 49) rfl))) (mvT hZ (hw _ (List.mem_of_getElem? (i := 3) rfl))) (mvT hZ (hw _ (List.mem_of_getElem? (i := 50) rfl))) (by decide) (backOf (W := 0) (rm2_2 l Z a0 hw [] s_V5 sb kb s_CONNECT s_CONNACK s_PUBLISH s_PUBACK s_PUBREC s_PUBREL s_PUBCOMP s_SUBSCRIBE s_SUBACK s_UNSUBSCRIBE s_UNSUBACK s_PINGREQ s_PINGRESP s_DISCONNECT s_AUTH s_V3 h47 n0 (Nat.le_trans Z0 K47.1) R48 R49 R50 R51 ne_PUBLISH) hZ (hw _ (List.mem_of_getElem? (i := 50) rfl)) (hw _ (List.mem_of_getElem? (i := 3) rfl)) (by decide) (by decide)) (g := (mkF m 264 #[.val (.int p1), .val (.int p2), .val (.ref b1), .val (.ref b32), .val (.int (2 : Int32)), .val (.ref s_PUBLISH), .val (.int (48 : Int32)), .val (.ref s_V5)] [(.ref s_V5), (.int (48 : Int32))])) rfl (by rw [hml]; rfl) (argsL := [(.int (48 : Int32)), (.ref s_V5)]) (rest := []) (lenOf pd__ILcom_example_kurir_kurir_codec_ProtocolVersion__Lcom_example_kurir_kurir_codec_PacketType_ rfl) rfl (by show 2 * 0 + _ ≤ _; exact Nat.le_of_eq rfl) (hb hby at_264) (fun _ _ => ⟨rfl, e140, (by decide : 2 + 0 ≤ _), (by decide : 30 + 0 ≤ _)⟩)
      dsimp only [Pt.U, Pt.locs, Pt.cells, Pt.slots] at X141 l141 y141 z141 st141 hQ141
      rw [l141, y141, z141] at X141
      obtain ⟨rfl, N141q, e141⟩ := hQ141
      have N141 := Fr.app N134 N141q
      refine OwnR.of (st141) ?_
      show OwnR _ _ _ _ _ _ _ (T141.setTop (mkF m 267 #[.val (.int p1), .val (.int p2), .val (.ref b1), .val (.ref b32), .val (.int (2 : Int32)), .val (.ref s_PUBLISH), .val (.int (48 : Int32)), .val (.ref s_V5)] [(.ref s_PUBLISH)]))
      refine OwnR.of (fun _ hr => XS.aload X141.here hx rfl (hb hby at_267) rfl rfl hr) ?_
      show OwnR _ _ _ _ _ _ _ (T141.setTop (mkF m 269 #[.val (.int p1), .val (.int p2), .val (.ref b1), .val (.ref b32), .val (.int (2 : Int32)), .val (.ref s_PUBLISH), .val (.int (48 : Int32)), .val (.ref s_V5)] [(.ref s_PUBLISH), (.ref s_PUBLISH)]))
      refine OwnR.of (fun _ hr => Jvm.RoadKit.acmp (g := (mkF m 269 #[.val (.int p1), .val (.int p2), .val (.ref b1), .val (.ref b32), .val (.int (2 : Int32)), .val (.ref s_PUBLISH), .val (.int (48 : Int32)), .val (.ref s_V5)] [(.ref s_PUBLISH), (.ref s_PUBLISH)])) X141 hx rfl rfl rfl (pc0 := 269) (pc' := 272) (same := true) rfl (hb hby at_269) rfl (decide_eq_true rfl) (by decide) (by decide) hr) ?_
      show OwnR _ _ _ _ _ _ _ (T141.setTop (mkF m 272 #[.val (.int p1), .val (.int p2), .val (.ref b1), .val (.ref b32), .val (.int (2 : Int32)), .val (.ref s_PUBLISH), .val (.int (48 : Int32)), .val (.ref s_V5)] []))
      refine OwnR.of (fun _ hr => XS.iconst X141.here hx rfl (hb hby at_272) hr) ?_
      show OwnR _ _ _ _ _ _ _ (T141.setTop (mkF m 273 #[.val (.int p1), .val (.int p2), .val (.ref b1), .val (.ref b32), .val (.int (2 : Int32)), .val (.ref s_PUBLISH), .val (.int (48 : Int32)), .val (.ref s_V5)] [(.int (1 : Int32))]))
      refine OwnR.of (fun _ hr => XS.goto X141.here hx rfl (pc0 := 273) (pc' := 277) rfl (hb hby at_273) (by decide) (by decide) hr) ?_
      show OwnR _ _ _ _ _ _ _ (T141.setTop (mkF m 277 #[.val (.int p1), .val (.int p2), .val (.ref b1), .val (.ref b32), .val (.int (2 : Int32)), .val (.ref s_PUBLISH), .val (.int (48 : Int32)), .val (.ref s_V5)] [(.int (1 : Int32))]))
      refine own_leafN X141 hx hlk (t := .boolean) Bd.returns (by simp) (hb hby at_277) (z' := (1 : Int32)) rfl (by decide) (by decide) ?_
      show Q0 Z  h0 n0 _ T141.heap _
      rw [show T141.heap = h47 from e141]
      refine ⟨?_, N141⟩
      show (some (.int (1 : Int32)) : Option Value) = some (.int (1 : Int32))
      rfl
  · skip
    show OwnR _ _ _ _ _ _ _ (T47.setTop (mkF m 211 #[.val (.int p1), .val (.int p2), .val (.ref b1), .val (.ref b32), .val (.int (3 : Int32)), .unset, .unset, .unset] []))
    refine OwnR.of (fun _ hr => XS.aloadN X47.here hx rfl (hb hby at_211) rfl rfl hr) ?_
    show OwnR _ _ _ _ _ _ _ (T47.setTop (mkF m 212 #[.val (.int p1), .val (.int p2), .val (.ref b1), .val (.ref b32), .val (.int (3 : Int32)), .unset, .unset, .unset] [(.ref b1)]))
    refine OwnR.of (fun _ hr => XS.iload X47.here hx rfl (hb hby at_212) rfl hr) ?_
    show OwnR _ _ _ _ _ _ _ (T47.setTop (mkF m 214 #[.val (.int p1), .val (.int p2), .val (.ref b1), .val (.ref b32), .val (.int (3 : Int32)), .unset, .unset, .unset] [(.int (3 : Int32)), (.ref b1)]))
    obtain ⟨cl142, Ar142, -, S142, N142, H142, G142⟩ := id R113
    have hin142 : ¬ ((3 : Int32) < 0 ∨ cl142.slots.size ≤ ((3 : Int32)).toNatClampNeg) := (inb_of S142 ⟨by decide, by decide⟩)
    refine OwnR.of (X47.aaload hx (j := (3 : Int32)) (v := (.ref s_PUBACK)) (by rw [e47]; exact Ar142.1) (State.isArrayOf_alike hZ.alike Ar142.2.1) rfl Ar142.2.2 hin142 (Has.at H142 hin142 rfl) (g := (mkF m 214 #[.val (.int p1), .val (.int p2), .val (.ref b1), .val (.ref b32), .val (.int (3 : Int32)), .unset, .unset, .unset] [(.int (3 : Int32)), (.ref b1)])) rfl rfl (hb hby at_214)) ?_
    show OwnR _ _ _ _ _ _ _ (T47.setTop (mkF m 215 #[.val (.int p1), .val (.int p2), .val (.ref b1), .val (.ref b32), .val (.int (3 : Int32)), .unset, .unset, .unset] [(.ref s_PUBACK)]))
    refine OwnR.of (fun _ hr => XS.astore X47.here hx rfl (hb hby at_215) rfl rfl (l' := #[.val (.int p1), .val (.int p2), .val (.ref b1), .val (.ref b32), .val (.int (3 : Int32)), .val (.ref s_PUBACK), .unset, .unset]) rfl hr) ?_
    show OwnR _ _ _ _ _ _ _ (T47.setTop (mkF m 217 #[.val (.int p1), .val (.int p2), .val (.ref b1), .val (.ref b32), .val (.int (3 : Int32)), .val (.ref s_PUBACK), .unset, .unset] []))
    refine OwnR.of (fun _ hr => XS.aload X47.here hx rfl (hb hby at_217) rfl rfl hr) ?_
    show OwnR _ _ _ _ _ _ _ (T47.setTop (mkF m 219 #[.val (.int p1), .val (.int p2), .val (.ref b1), .val (.ref b32), .val (.int (3 : Int32)), .val (.ref s_PUBACK), .unset, .unset] [(.ref s_PUBACK)]))
    obtain ⟨cq143, kq143, q143a, q143b, q143c⟩ := isOf hZ e47 R66
    obtain ⟨_, _, ⟨T143, L143, kc143, ns143⟩, -, X143, ⟨Lc143, hQ143, l143, y143, z143⟩, st143⟩ := X47.virtualBack hx (y := (⟨"com/example/kurir/kurir/codec/PacketType", "firstByte", "()I"⟩ : MethodName)) (z := (⟨"com/example/kurir/kurir/codec/PacketType", "firstByte", "()I"⟩ : MethodName)) hown (mvT hZ (hw _ (List.mem_of_getElem? (i := 36) rfl))) (mvT hZ (hw _ (List.mem_of_getElem? (i := 37) rfl))) (notFace_of_selects (args := #[]) (mvT hZ (hw _ (List.mem_of_getElem? (i := 39) rfl)))) (mvT hZ (hw _ (List.mem_of_getElem? (i := 39) rfl))) (mvT hZ (hw _ (List.mem_of_getElem? (i := 38) rfl))) (by decide) (backOf (W := 0) (rm1 l Z a0 hw [] s_PUBACK (4 : Int32) (0 : Int32) h47 n0 (Nat.le_trans Z0 K47.1) R66 R67 R68) hZ (hw _ (List.mem_of_getElem? (i := 40) rfl)) (hw _ (List.mem_of_getElem? (i := 3) rfl)) (by decide) (by decide)) q143a q143c (g := (mkF m 219 #[.val (.int p1), .val (.int p2), .val (.ref b1), .val (.ref b32), .val (.int (3 : Int32)), .val (.ref s_PUBACK), .unset, .unset] [(.ref s_PUBACK)])) rfl (by rw [hml]; rfl) (Steps.refl _) (argsL := []) (rest := []) (lenOf pd___I rfl) rfl (by show 2 * 0 + _ ≤ _; exact Nat.le_of_eq rfl) (hb hby at_219) (fun _ _ => ⟨rfl, e47, (by decide : 2 + 0 ≤ _), (by decide : 30 + 0 ≤ _)⟩)
    dsimp only [Pt.U, Pt.locs, Pt.cells, Pt.slots] at X143 l143 y143 z143 st143 hQ143
    rw [l143, y143, z143] at X143
    obtain ⟨rfl, N143q, e143⟩ := hQ143
    have N143 := Fr.app N47 N143q
    refine OwnR.of (fun _ hr => st143.trans hr) ?_
    show OwnR _ _ _ _ _ _ _ (T143.setTop (mkF m 222 #[.val (.int p1), .val (.int p2), .val (.ref b1), .val (.ref b32), .val (.int (3 : Int32)), .val (.ref s_PUBACK), .unset, .unset] [(.int (own_fb (4 : Int32) (0 : Int32)))]))
    rw [(by decide : (own_fb (4 : Int32) (0 : Int32)) = (64 : Int32))]
    show OwnR _ _ _ _ _ _ _ (T143.setTop (mkF m 222 #[.val (.int p1), .val (.int p2), .val (.ref b1), .val (.ref b32), .val (.int (3 : Int32)), .val (.ref s_PUBACK), .unset, .unset] [(.int (64 : Int32))]))
    refine OwnR.of (fun _ hr => XS.istore X143.here hx rfl (hb hby at_222) rfl (l' := #[.val (.int p1), .val (.int p2), .val (.ref b1), .val (.ref b32), .val (.int (3 : Int32)), .val (.ref s_PUBACK), .val (.int (64 : Int32)), .unset]) rfl hr) ?_
    show OwnR _ _ _ _ _ _ _ (T143.setTop (mkF m 224 #[.val (.int p1), .val (.int p2), .val (.ref b1), .val (.ref b32), .val (.int (3 : Int32)), .val (.ref s_PUBACK), .val (.int (64 : Int32)), .unset] []))
    refine OwnR.of (fun _ hr => XS.iload X143.here hx rfl (hb hby at_224) rfl hr) ?_
    show OwnR _ _ _ _ _ _ _ (T143.setTop (mkF m 226 #[.val (.int p1), .val (.int p2), .val (.ref b1), .val (.ref b32), .val (.int (3 : Int32)), .val (.ref s_PUBACK), .val (.int (64 : Int32)), .unset] [(.int (64 : Int32))]))
    refine OwnR.of (fun _ hr => XS.aloadN X143.here hx rfl (hb hby at_226) rfl rfl hr) ?_
    show OwnR _ _ _ _ _ _ _ (T143.setTop (mkF m 227 #[.val (.int p1), .val (.int p2), .val (.ref b1), .val (.ref b32), .val (.int (3 : Int32)), .val (.ref s_PUBACK), .val (.int (64 : Int32)), .unset] [(.ref b32), (.int (64 : Int32))]))
    refine OwnR.of (fun _ hr => XS.iload X143.here hx rfl (hb hby at_227) rfl hr) ?_
    show OwnR _ _ _ _ _ _ _ (T143.setTop (mkF m 229 #[.val (.int p1), .val (.int p2), .val (.ref b1), .val (.ref b32), .val (.int (3 : Int32)), .val (.ref s_PUBACK), .val (.int (64 : Int32)), .unset] [(.int (3 : Int32)), (.ref b32), (.int (64 : Int32))]))
    obtain ⟨cl144, Ar144, -, S144, N144, H144, G144⟩ := id V47
    have hin144 : ¬ ((3 : Int32) < 0 ∨ cl144.slots.size ≤ ((3 : Int32)).toNatClampNeg) := (inb_of S144 ⟨by decide, by decide⟩)
    refine OwnR.of (X143.iaload hx (j := (3 : Int32)) (v := (.int (64 : Int32))) (by rw [e143]; exact Ar144.1) (State.isArrayOf_alike hZ.alike Ar144.2.1) Ar144.2.2 hin144 (Has.at H144 hin144 rfl) (g := (mkF m 229 #[.val (.int p1), .val (.int p2), .val (.ref b1), .val (.ref b32), .val (.int (3 : Int32)), .val (.ref s_PUBACK), .val (.int (64 : Int32)), .unset] [(.int (3 : Int32)), (.ref b32), (.int (64 : Int32))])) rfl rfl (hb hby at_229)) ?_
    show OwnR _ _ _ _ _ _ _ (T143.setTop (mkF m 230 #[.val (.int p1), .val (.int p2), .val (.ref b1), .val (.ref b32), .val (.int (3 : Int32)), .val (.ref s_PUBACK), .val (.int (64 : Int32)), .unset] [(.int (64 : Int32)), (.int (64 : Int32))]))
    refine OwnR.of (fun _ hr => XS.icmpYes X143.here hx rfl (pc0 := 230) (pc' := 235) rfl (hb hby at_230) rfl (teq (by decide : (64 : Int32) = (64 : Int32))).1 (by decide) (by decide) hr) ?_
    show OwnR _ _ _ _ _ _ _ (T143.setTop (mkF m 235 #[.val (.int p1), .val (.int p2), .val (.ref b1), .val (.ref b32), .val (.int (3 : Int32)), .val (.ref s_PUBACK), .val (.int (64 : Int32)), .unset] []))
    refine OwnR.of (fun _ hr => XS.iloadN X143.here hx rfl (hb hby at_235) rfl hr) ?_
    show OwnR _ _ _ _ _ _ _ (T143.setTop (mkF m 236 #[.val (.int p1), .val (.int p2), .val (.ref b1), .val (.ref b32), .val (.int (3 : Int32)), .val (.ref s_PUBACK), .val (.int (64 : Int32)), .unset] [(.int p2)]))
    refine OwnR.of (fun _ hr => XS.iconst X143.here hx rfl (hb hby at_236) hr) ?_
    show OwnR _ _ _ _ _ _ _ (T143.setTop (mkF m 237 #[.val (.int p1), .val (.int p2), .val (.ref b1), .val (.ref b32), .val (.int (3 : Int32)), .val (.ref s_PUBACK), .val (.int (64 : Int32)), .unset] [(.int (1 : Int32)), (.int p2)]))
    refine OwnR.of (fun _ hr => XS.iand X143.here hx rfl (hb hby at_237) rfl hr) ?_
    show OwnR _ _ _ _ _ _ _ (T143.setTop (mkF m 238 #[.val (.int p1), .val (.int p2), .val (.ref b1), .val (.ref b32), .val (.int (3 : Int32)), .val (.ref s_PUBACK), .val (.int (64 : Int32)), .unset] [(.int (p2 &&& (1 : Int32)))]))
    by_cases hc238_145 : (p2 &&& (1 : Int32)) = (0 : Int32)
    · skip
      refine OwnR.of (fun _ hr => XS.ifNo X143.here hx rfl (hb hby at_238) rfl ((if0 _ _).trans (teq hc238_145).2) hr) ?_
      show OwnR _ _ _ _ _ _ _ (T143.setTop (mkF m 241 #[.val (.int p1), .val (.int p2), .val (.ref b1), .val (.ref b32), .val (.int (3 : Int32)), .val (.ref s_PUBACK), .val (.int (64 : Int32)), .unset] []))
      refine OwnR.of (fun _ hr => XS.aload X143.here hx rfl (hb hby at_241) rfl rfl hr) ?_
      show OwnR _ _ _ _ _ _ _ (T143.setTop (mkF m 243 #[.val (.int p1), .val (.int p2), .val (.ref b1), .val (.ref b32), .val (.int (3 : Int32)), .val (.ref s_PUBACK), .val (.int (64 : Int32)), .unset] [(.ref s_PUBACK)]))
      obtain ⟨T146, X146, e146, st146⟩ := getS2 X143 hx hZ hown (host := "") (Or.inl (hw _ (List.mem_of_getElem? (i := 32) rfl))) Via.refl e143 R50 (g := (mkF m 243 #[.val (.int p1), .val (.int p2), .val (.ref b1), .val (.ref b32), .val (.int (3 : Int32)), .val (.ref s_PUBACK), .val (.int (64 : Int32)), .unset] [(.ref s_PUBACK)])) rfl (hb hby at_243)
      refine OwnR.of (st146) ?_
      show OwnR _ _ _ _ _ _ _ (T146.setTop (mkF m 246 #[.val (.int p1), .val (.int p2), .val (.ref b1), .val (.ref b32), .val (.int (3 : Int32)), .val (.ref s_PUBACK), .val (.int (64 : Int32)), .unset] [(.ref s_AUTH), (.ref s_PUBACK)]))
      refine OwnR.of (fun _ hr => Jvm.RoadKit.acmp (g := (mkF m 246 #[.val (.int p1), .val (.int p2), .val (.ref b1), .val (.ref b32), .val (.int (3 : Int32)), .val (.ref s_PUBACK), .val (.int (64 : Int32)), .unset] [(.ref s_AUTH), (.ref s_PUBACK)])) X146 hx rfl rfl rfl (pc0 := 246) (pc' := 255) (same := false) rfl (hb hby at_246) rfl (decide_eq_false fun q => ne_PUBACK (Value.ref.inj q)) (by decide) (by decide) hr) ?_
      show OwnR _ _ _ _ _ _ _ (T146.setTop (mkF m 255 #[.val (.int p1), .val (.int p2), .val (.ref b1), .val (.ref b32), .val (.int (3 : Int32)), .val (.ref s_PUBACK), .val (.int (64 : Int32)), .unset] []))
      obtain ⟨T147, X147, e147, st147⟩ := getS2 X146 hx hZ hown (host := "") (Or.inl (hw _ (List.mem_of_getElem? (i := 56) rfl))) Via.refl e146 R51 (g := (mkF m 255 #[.val (.int p1), .val (.int p2), .val (.ref b1), .val (.ref b32), .val (.int (3 : Int32)), .val (.ref s_PUBACK), .val (.int (64 : Int32)), .unset] [])) rfl (hb hby at_255)
      refine OwnR.of (st147) ?_
      show OwnR _ _ _ _ _ _ _ (T147.setTop (mkF m 258 #[.val (.int p1), .val (.int p2), .val (.ref b1), .val (.ref b32), .val (.int (3 : Int32)), .val (.ref s_PUBACK), .val (.int (64 : Int32)), .unset] [(.ref s_V3)]))
      refine OwnR.of (fun _ hr => XS.astore X147.here hx rfl (hb hby at_258) rfl rfl (l' := #[.val (.int p1), .val (.int p2), .val (.ref b1), .val (.ref b32), .val (.int (3 : Int32)), .val (.ref s_PUBACK), .val (.int (64 : Int32)), .val (.ref s_V3)]) rfl hr) ?_
      show OwnR _ _ _ _ _ _ _ (T147.setTop (mkF m 260 #[.val (.int p1), .val (.int p2), .val (.ref b1), .val (.ref b32), .val (.int (3 : Int32)), .val (.ref s_PUBACK), .val (.int (64 : Int32)), .val (.ref s_V3)] []))
      refine OwnR.of (fun _ hr => XS.iload X147.here hx rfl (hb hby at_260) rfl hr) ?_
      show OwnR _ _ _ _ _ _ _ (T147.setTop (mkF m 262 #[.val (.int p1), .val (.int p2), .val (.ref b1), .val (.ref b32), .val (.int (3 : Int32)), .val (.ref s_PUBACK), .val (.int (64 : Int32)), .val (.ref s_V3)] [(.int (64 : Int32))]))
      refine OwnR.of (fun _ hr => XS.aload X147.here hx rfl (hb hby at_262) rfl rfl hr) ?_
      show OwnR _ _ _ _ _ _ _ (T147.setTop (mkF m 264 #[.val (.int p1), .val (.int p2), .val (.ref b1), .val (.ref b32), .val (.int (3 : Int32)), .val (.ref s_PUBACK), .val (.int (64 : Int32)), .val (.ref s_V3)] [(.ref s_V3), (.int (64 : Int32))]))
      obtain ⟨_, _, ⟨T148, L148, kc148, ns148⟩, -, X148, ⟨Lc148, hQ148, l148, y148, z148⟩, st148⟩ := Jvm.LawKit.callS X147 hx (y := (⟨"com/example/kurir/kurir/codec/PacketType", "of", "(ILcom/example/kurir/kurir/codec/ProtocolVersion;)Lcom/example/kurir/kurir/codec/PacketType;"⟩ : MethodName)) hown (mvT hZ (hw _ (List.mem_of_getElem? (i := 48) rfl))) (mvT hZ (hw _ (List.mem_of_getElem? (i := 49) rfl))) (mvT hZ (hw _ (List.mem_of_getElem? (i := 3) rfl))) (mvT hZ (hw _ (List.mem_of_getElem? (i := 50) rfl))) (by decide) (backOf (W := 0) (rm2_3 l Z a0 hw [] s_V3 sb kb s_CONNECT s_CONNACK s_PUBLISH s_PUBACK s_PUBREC s_PUBREL s_PUBCOMP s_SUBSCRIBE s_SUBACK s_UNSUBSCRIBE s_UNSUBACK s_PINGREQ s_PINGRESP s_DISCONNECT s_AUTH s_V3 h47 n0 (Nat.le_trans Z0 K47.1) R48 R49 R50 R51 ne_PUBACK) hZ (hw _ (List.mem_of_getElem? (i := 50) rfl)) (hw _ (List.mem_of_getElem? (i := 3) rfl)) (by decide) (by decide)) (g := (mkF m 264 #[.val (.int p1), .val (.int p2), .val (.ref b1), .val (.ref b32), .val (.int (3 : Int32)), .val (.ref s_PUBACK), .val (.int (64 : Int32)), .val (.ref s_V3)] [(.ref s_V3), (.int (64 : Int32))])) rfl (by rw [hml]; rfl) (argsL := [(.int (64 : Int32)), (.ref s_V3)]) (rest := []) (lenOf pd__ILcom_example_kurir_kurir_codec_ProtocolVersion__Lcom_example_kurir_kurir_codec_PacketType_ rfl) rfl (by show 2 * 0 + _ ≤ _; exact Nat.le_of_eq rfl) (hb hby at_264) (fun _ _ => ⟨rfl, e147, (by decide : 2 + 0 ≤ _), (by decide : 30 + 0 ≤ _)⟩)
      dsimp only [Pt.U, Pt.locs, Pt.cells, Pt.slots] at X148 l148 y148 z148 st148 hQ148
      rw [l148, y148, z148] at X148
      obtain ⟨rfl, N148q, e148⟩ := hQ148
      have N148 := Fr.app N143 N148q
      refine OwnR.of (st148) ?_
      show OwnR _ _ _ _ _ _ _ (T148.setTop (mkF m 267 #[.val (.int p1), .val (.int p2), .val (.ref b1), .val (.ref b32), .val (.int (3 : Int32)), .val (.ref s_PUBACK), .val (.int (64 : Int32)), .val (.ref s_V3)] [(.ref s_PUBACK)]))
      refine OwnR.of (fun _ hr => XS.aload X148.here hx rfl (hb hby at_267) rfl rfl hr) ?_
      show OwnR _ _ _ _ _ _ _ (T148.setTop (mkF m 269 #[.val (.int p1), .val (.int p2), .val (.ref b1), .val (.ref b32), .val (.int (3 : Int32)), .val (.ref s_PUBACK), .val (.int (64 : Int32)), .val (.ref s_V3)] [(.ref s_PUBACK), (.ref s_PUBACK)]))
      refine OwnR.of (fun _ hr => Jvm.RoadKit.acmp (g := (mkF m 269 #[.val (.int p1), .val (.int p2), .val (.ref b1), .val (.ref b32), .val (.int (3 : Int32)), .val (.ref s_PUBACK), .val (.int (64 : Int32)), .val (.ref s_V3)] [(.ref s_PUBACK), (.ref s_PUBACK)])) X148 hx rfl rfl rfl (pc0 := 269) (pc' := 272) (same := true) rfl (hb hby at_269) rfl (decide_eq_true rfl) (by decide) (by decide) hr) ?_
      show OwnR _ _ _ _ _ _ _ (T148.setTop (mkF m 272 #[.val (.int p1), .val (.int p2), .val (.ref b1), .val (.ref b32), .val (.int (3 : Int32)), .val (.ref s_PUBACK), .val (.int (64 : Int32)), .val (.ref s_V3)] []))
      refine OwnR.of (fun _ hr => XS.iconst X148.here hx rfl (hb hby at_272) hr) ?_
      show OwnR _ _ _ _ _ _ _ (T148.setTop (mkF m 273 #[.val (.int p1), .val (.int p2), .val (.ref b1), .val (.ref b32), .val (.int (3 : Int32)), .val (.ref s_PUBACK), .val (.int (64 : Int32)), .val (.ref s_V3)] [(.int (1 : Int32))]))
      refine OwnR.of (fun _ hr => XS.goto X148.here hx rfl (pc0 := 273) (pc' := 277) rfl (hb hby at_273) (by decide) (by decide) hr) ?_
      show OwnR _ _ _ _ _ _ _ (T148.setTop (mkF m 277 #[.val (.int p1), .val (.int p2), .val (.ref b1), .val (.ref b32), .val (.int (3 : Int32)), .val (.ref s_PUBACK), .val (.int (64 : Int32)), .val (.ref s_V3)] [(.int (1 : Int32))]))
      refine own_leafN X148 hx hlk (t := .boolean) Bd.returns (by simp) (hb hby at_277) (z' := (1 : Int32)) rfl (by decide) (by decide) ?_
      show Q0 Z  h0 n0 _ T148.heap _
      rw [show T148.heap = h47 from e148]
      refine ⟨?_, N148⟩
      show (some (.int (1 : Int32)) : Option Value) = some (.int (1 : Int32))
      rfl
    · skip
      refine OwnR.of (fun _ hr => XS.ifYes X143.here hx rfl (pc0 := 238) (pc' := 249) rfl (hb hby at_238) rfl ((if0 _ _).trans (feq hc238_145).2) (by decide) (by decide) hr) ?_
      show OwnR _ _ _ _ _ _ _ (T143.setTop (mkF m 249 #[.val (.int p1), .val (.int p2), .val (.ref b1), .val (.ref b32), .val (.int (3 : Int32)), .val (.ref s_PUBACK), .val (.int (64 : Int32)), .unset] []))
      obtain ⟨T149, X149, e149, st149⟩ := getS2 X143 hx hZ hown (host := "") (Or.inl (hw _ (List.mem_of_getElem? (i := 45) rfl))) Via.refl e143 R52 (g := (mkF m 249 #[.val (.int p1), .val (.int p2), .val (.ref b1), .val (.ref b32), .val (.int (3 : Int32)), .val (.ref s_PUBACK), .val (.int (64 : Int32)), .unset] [])) rfl (hb hby at_249)
      refine OwnR.of (st149) ?_
      show OwnR _ _ _ _ _ _ _ (T149.setTop (mkF m 252 #[.val (.int p1), .val (.int p2), .val (.ref b1), .val (.ref b32), .val (.int (3 : Int32)), .val (.ref s_PUBACK), .val (.int (64 : Int32)), .unset] [(.ref s_V5)]))
      refine OwnR.of (fun _ hr => XS.goto X149.here hx rfl (pc0 := 252) (pc' := 258) rfl (hb hby at_252) (by decide) (by decide) hr) ?_
      show OwnR _ _ _ _ _ _ _ (T149.setTop (mkF m 258 #[.val (.int p1), .val (.int p2), .val (.ref b1), .val (.ref b32), .val (.int (3 : Int32)), .val (.ref s_PUBACK), .val (.int (64 : Int32)), .unset] [(.ref s_V5)]))
      refine OwnR.of (fun _ hr => XS.astore X149.here hx rfl (hb hby at_258) rfl rfl (l' := #[.val (.int p1), .val (.int p2), .val (.ref b1), .val (.ref b32), .val (.int (3 : Int32)), .val (.ref s_PUBACK), .val (.int (64 : Int32)), .val (.ref s_V5)]) rfl hr) ?_
      show OwnR _ _ _ _ _ _ _ (T149.setTop (mkF m 260 #[.val (.int p1), .val (.int p2), .val (.ref b1), .val (.ref b32), .val (.int (3 : Int32)), .val (.ref s_PUBACK), .val (.int (64 : Int32)), .val (.ref s_V5)] []))
      refine OwnR.of (fun _ hr => XS.iload X149.here hx rfl (hb hby at_260) rfl hr) ?_
      show OwnR _ _ _ _ _ _ _ (T149.setTop (mkF m 262 #[.val (.int p1), .val (.int p2), .val (.ref b1), .val (.ref b32), .val (.int (3 : Int32)), .val (.ref s_PUBACK), .val (.int (64 : Int32)), .val (.ref s_V5)] [(.int (64 : Int32))]))
      refine OwnR.of (fun _ hr => XS.aload X149.here hx rfl (hb hby at_262) rfl rfl hr) ?_
      show OwnR _ _ _ _ _ _ _ (T149.setTop (mkF m 264 #[.val (.int p1), .val (.int p2), .val (.ref b1), .val (.ref b32), .val (.int (3 : Int32)), .val (.ref s_PUBACK), .val (.int (64 : Int32)), .val (.ref s_V5)] [(.ref s_V5), (.int (64 : Int32))]))
      obtain ⟨_, _, ⟨T150, L150, kc150, ns150⟩, -, X150, ⟨Lc150, hQ150, l150, y150, z150⟩, st150⟩ := Jvm.LawKit.callS X149 hx (y := (⟨"com/example/kurir/kurir/codec/PacketType", "of", "(ILcom/example/kurir/kurir/codec/ProtocolVersion;)Lcom/example/kurir/kurir/codec/PacketType;"⟩ : MethodName)) hown (mvT hZ (hw _ (List.mem_of_getElem? (i := 48) rfl))) (mvT hZ (hw _ (List.mem_of_getElem? (i := 49) rfl))) (mvT hZ (hw _ (List.mem_of_getElem? (i := 3) rfl))) (mvT hZ (hw _ (List.mem_of_getElem? (i := 50) rfl))) (by decide) (backOf (W := 0) (rm2_3 l Z a0 hw [] s_V5 sb kb s_CONNECT s_CONNACK s_PUBLISH s_PUBACK s_PUBREC s_PUBREL s_PUBCOMP s_SUBSCRIBE s_SUBACK s_UNSUBSCRIBE s_UNSUBACK s_PINGREQ s_PINGRESP s_DISCONNECT s_AUTH s_V3 h47 n0 (Nat.le_trans Z0 K47.1) R48 R49 R50 R51 ne_PUBACK) hZ (hw _ (List.mem_of_getElem? (i := 50) rfl)) (hw _ (List.mem_of_getElem? (i := 3) rfl)) (by decide) (by decide)) (g := (mkF m 264 #[.val (.int p1), .val (.int p2), .val (.ref b1), .val (.ref b32), .val (.int (3 : Int32)), .val (.ref s_PUBACK), .val (.int (64 : Int32)), .val (.ref s_V5)] [(.ref s_V5), (.int (64 : Int32))])) rfl (by rw [hml]; rfl) (argsL := [(.int (64 : Int32)), (.ref s_V5)]) (rest := []) (lenOf pd__ILcom_example_kurir_kurir_codec_ProtocolVersion__Lcom_example_kurir_kurir_codec_PacketType_ rfl) rfl (by show 2 * 0 + _ ≤ _; exact Nat.le_of_eq rfl) (hb hby at_264) (fun _ _ => ⟨rfl, e149, (by decide : 2 + 0 ≤ _), (by decide : 30 + 0 ≤ _)⟩)
      dsimp only [Pt.U, Pt.locs, Pt.cells, Pt.slots] at X150 l150 y150 z150 st150 hQ150
      rw [l150, y150, z150] at X150
      obtain ⟨rfl, N150q, e150⟩ := hQ150
      have N150 := Fr.app N143 N150q
      refine OwnR.of (st150) ?_
      show OwnR _ _ _ _ _ _ _ (T150.setTop (mkF m 267 #[.val (.int p1), .val (.int p2), .val (.ref b1), .val (.ref b32), .val (.int (3 : Int32)), .val (.ref s_PUBACK), .val (.int (64 : Int32)), .val (.ref s_V5)] [(.ref s_PUBACK)]))
      refine OwnR.of (fun _ hr => XS.aload X150.here hx rfl (hb hby at_267) rfl rfl hr) ?_
      show OwnR _ _ _ _ _ _ _ (T150.setTop (mkF m 269 #[.val (.int p1), .val (.int p2), .val (.ref b1), .val (.ref b32), .val (.int (3 : Int32)), .val (.ref s_PUBACK), .val (.int (64 : Int32)), .val (.ref s_V5)] [(.ref s_PUBACK), (.ref s_PUBACK)]))
      refine OwnR.of (fun _ hr => Jvm.RoadKit.acmp (g := (mkF m 269 #[.val (.int p1), .val (.int p2), .val (.ref b1), .val (.ref b32), .val (.int (3 : Int32)), .val (.ref s_PUBACK), .val (.int (64 : Int32)), .val (.ref s_V5)] [(.ref s_PUBACK), (.ref s_PUBACK)])) X150 hx rfl rfl rfl (pc0 := 269) (pc' := 272) (same := true) rfl (hb hby at_269) rfl (decide_eq_true rfl) (by decide) (by decide) hr) ?_
      show OwnR _ _ _ _ _ _ _ (T150.setTop (mkF m 272 #[.val (.int p1), .val (.int p2), .val (.ref b1), .val (.ref b32), .val (.int (3 : Int32)), .val (.ref s_PUBACK), .val (.int (64 : Int32)), .val (.ref s_V5)] []))
      refine OwnR.of (fun _ hr => XS.iconst X150.here hx rfl (hb hby at_272) hr) ?_
      show OwnR _ _ _ _ _ _ _ (T150.setTop (mkF m 273 #[.val (.int p1), .val (.int p2), .val (.ref b1), .val (.ref b32), .val (.int (3 : Int32)), .val (.ref s_PUBACK), .val (.int (64 : Int32)), .val (.ref s_V5)] [(.int (1 : Int32))]))
      refine OwnR.of (fun _ hr => XS.goto X150.here hx rfl (pc0 := 273) (pc' := 277) rfl (hb hby at_273) (by decide) (by decide) hr) ?_
      show OwnR _ _ _ _ _ _ _ (T150.setTop (mkF m 277 #[.val (.int p1), .val (.int p2), .val (.ref b1), .val (.ref b32), .val (.int (3 : Int32)), .val (.ref s_PUBACK), .val (.int (64 : Int32)), .val (.ref s_V5)] [(.int (1 : Int32))]))
      refine own_leafN X150 hx hlk (t := .boolean) Bd.returns (by simp) (hb hby at_277) (z' := (1 : Int32)) rfl (by decide) (by decide) ?_
      show Q0 Z  h0 n0 _ T150.heap _
      rw [show T150.heap = h47 from e150]
      refine ⟨?_, N150⟩
      show (some (.int (1 : Int32)) : Option Value) = some (.int (1 : Int32))
      rfl
  · skip
    show OwnR _ _ _ _ _ _ _ (T47.setTop (mkF m 211 #[.val (.int p1), .val (.int p2), .val (.ref b1), .val (.ref b32), .val (.int (4 : Int32)), .unset, .unset, .unset] []))
    refine OwnR.of (fun _ hr => XS.aloadN X47.here hx rfl (hb hby at_211) rfl rfl hr) ?_
    show OwnR _ _ _ _ _ _ _ (T47.setTop (mkF m 212 #[.val (.int p1), .val (.int p2), .val (.ref b1), .val (.ref b32), .val (.int (4 : Int32)), .unset, .unset, .unset] [(.ref b1)]))
    refine OwnR.of (fun _ hr => XS.iload X47.here hx rfl (hb hby at_212) rfl hr) ?_
    show OwnR _ _ _ _ _ _ _ (T47.setTop (mkF m 214 #[.val (.int p1), .val (.int p2), .val (.ref b1), .val (.ref b32), .val (.int (4 : Int32)), .unset, .unset, .unset] [(.int (4 : Int32)), (.ref b1)]))
    obtain ⟨cl151, Ar151, -, S151, N151, H151, G151⟩ := id R113
    have hin151 : ¬ ((4 : Int32) < 0 ∨ cl151.slots.size ≤ ((4 : Int32)).toNatClampNeg) := (inb_of S151 ⟨by decide, by decide⟩)
    refine OwnR.of (X47.aaload hx (j := (4 : Int32)) (v := (.ref s_PUBREC)) (by rw [e47]; exact Ar151.1) (State.isArrayOf_alike hZ.alike Ar151.2.1) rfl Ar151.2.2 hin151 (Has.at H151 hin151 rfl) (g := (mkF m 214 #[.val (.int p1), .val (.int p2), .val (.ref b1), .val (.ref b32), .val (.int (4 : Int32)), .unset, .unset, .unset] [(.int (4 : Int32)), (.ref b1)])) rfl rfl (hb hby at_214)) ?_
    show OwnR _ _ _ _ _ _ _ (T47.setTop (mkF m 215 #[.val (.int p1), .val (.int p2), .val (.ref b1), .val (.ref b32), .val (.int (4 : Int32)), .unset, .unset, .unset] [(.ref s_PUBREC)]))
    refine OwnR.of (fun _ hr => XS.astore X47.here hx rfl (hb hby at_215) rfl rfl (l' := #[.val (.int p1), .val (.int p2), .val (.ref b1), .val (.ref b32), .val (.int (4 : Int32)), .val (.ref s_PUBREC), .unset, .unset]) rfl hr) ?_
    show OwnR _ _ _ _ _ _ _ (T47.setTop (mkF m 217 #[.val (.int p1), .val (.int p2), .val (.ref b1), .val (.ref b32), .val (.int (4 : Int32)), .val (.ref s_PUBREC), .unset, .unset] []))
    refine OwnR.of (fun _ hr => XS.aload X47.here hx rfl (hb hby at_217) rfl rfl hr) ?_
    show OwnR _ _ _ _ _ _ _ (T47.setTop (mkF m 219 #[.val (.int p1), .val (.int p2), .val (.ref b1), .val (.ref b32), .val (.int (4 : Int32)), .val (.ref s_PUBREC), .unset, .unset] [(.ref s_PUBREC)]))
    obtain ⟨cq152, kq152, q152a, q152b, q152c⟩ := isOf hZ e47 R70
    obtain ⟨_, _, ⟨T152, L152, kc152, ns152⟩, -, X152, ⟨Lc152, hQ152, l152, y152, z152⟩, st152⟩ := X47.virtualBack hx (y := (⟨"com/example/kurir/kurir/codec/PacketType", "firstByte", "()I"⟩ : MethodName)) (z := (⟨"com/example/kurir/kurir/codec/PacketType", "firstByte", "()I"⟩ : MethodName)) hown (mvT hZ (hw _ (List.mem_of_getElem? (i := 36) rfl))) (mvT hZ (hw _ (List.mem_of_getElem? (i := 37) rfl))) (notFace_of_selects (args := #[]) (mvT hZ (hw _ (List.mem_of_getElem? (i := 39) rfl)))) (mvT hZ (hw _ (List.mem_of_getElem? (i := 39) rfl))) (mvT hZ (hw _ (List.mem_of_getElem? (i := 38) rfl))) (by decide) (backOf (W := 0) (rm1 l Z a0 hw [] s_PUBREC (5 : Int32) (0 : Int32) h47 n0 (Nat.le_trans Z0 K47.1) R70 R71 R72) hZ (hw _ (List.mem_of_getElem? (i := 40) rfl)) (hw _ (List.mem_of_getElem? (i := 3) rfl)) (by decide) (by decide)) q152a q152c (g := (mkF m 219 #[.val (.int p1), .val (.int p2), .val (.ref b1), .val (.ref b32), .val (.int (4 : Int32)), .val (.ref s_PUBREC), .unset, .unset] [(.ref s_PUBREC)])) rfl (by rw [hml]; rfl) (Steps.refl _) (argsL := []) (rest := []) (lenOf pd___I rfl) rfl (by show 2 * 0 + _ ≤ _; exact Nat.le_of_eq rfl) (hb hby at_219) (fun _ _ => ⟨rfl, e47, (by decide : 2 + 0 ≤ _), (by decide : 30 + 0 ≤ _)⟩)
    dsimp only [Pt.U, Pt.locs, Pt.cells, Pt.slots] at X152 l152 y152 z152 st152 hQ152
    rw [l152, y152, z152] at X152
    obtain ⟨rfl, N152q, e152⟩ := hQ152
    have N152 := Fr.app N47 N152q
    refine OwnR.of (fun _ hr => st152.trans hr) ?_
    show OwnR _ _ _ _ _ _ _ (T152.setTop (mkF m 222 #[.val (.int p1), .val (.int p2), .val (.ref b1), .val (.ref b32), .val (.int (4 : Int32)), .val (.ref s_PUBREC), .unset, .unset] [(.int (own_fb (5 : Int32) (0 : Int32)))]))
    rw [(by decide : (own_fb (5 : Int32) (0 : Int32)) = (80 : Int32))]
    show OwnR _ _ _ _ _ _ _ (T152.setTop (mkF m 222 #[.val (.int p1), .val (.int p2), .val (.ref b1), .val (.ref b32), .val (.int (4 : Int32)), .val (.ref s_PUBREC), .unset, .unset] [(.int (80 : Int32))]))
    refine OwnR.of (fun _ hr => XS.istore X152.here hx rfl (hb hby at_222) rfl (l' := #[.val (.int p1), .val (.int p2), .val (.ref b1), .val (.ref b32), .val (.int (4 : Int32)), .val (.ref s_PUBREC), .val (.int (80 : Int32)), .unset]) rfl hr) ?_
    show OwnR _ _ _ _ _ _ _ (T152.setTop (mkF m 224 #[.val (.int p1), .val (.int p2), .val (.ref b1), .val (.ref b32), .val (.int (4 : Int32)), .val (.ref s_PUBREC), .val (.int (80 : Int32)), .unset] []))
    refine OwnR.of (fun _ hr => XS.iload X152.here hx rfl (hb hby at_224) rfl hr) ?_
    show OwnR _ _ _ _ _ _ _ (T152.setTop (mkF m 226 #[.val (.int p1), .val (.int p2), .val (.ref b1), .val (.ref b32), .val (.int (4 : Int32)), .val (.ref s_PUBREC), .val (.int (80 : Int32)), .unset] [(.int (80 : Int32))]))
    refine OwnR.of (fun _ hr => XS.aloadN X152.here hx rfl (hb hby at_226) rfl rfl hr) ?_
    show OwnR _ _ _ _ _ _ _ (T152.setTop (mkF m 227 #[.val (.int p1), .val (.int p2), .val (.ref b1), .val (.ref b32), .val (.int (4 : Int32)), .val (.ref s_PUBREC), .val (.int (80 : Int32)), .unset] [(.ref b32), (.int (80 : Int32))]))
    refine OwnR.of (fun _ hr => XS.iload X152.here hx rfl (hb hby at_227) rfl hr) ?_
    show OwnR _ _ _ _ _ _ _ (T152.setTop (mkF m 229 #[.val (.int p1), .val (.int p2), .val (.ref b1), .val (.ref b32), .val (.int (4 : Int32)), .val (.ref s_PUBREC), .val (.int (80 : Int32)), .unset] [(.int (4 : Int32)), (.ref b32), (.int (80 : Int32))]))
    obtain ⟨cl153, Ar153, -, S153, N153, H153, G153⟩ := id V47
    have hin153 : ¬ ((4 : Int32) < 0 ∨ cl153.slots.size ≤ ((4 : Int32)).toNatClampNeg) := (inb_of S153 ⟨by decide, by decide⟩)
    refine OwnR.of (X152.iaload hx (j := (4 : Int32)) (v := (.int (80 : Int32))) (by rw [e152]; exact Ar153.1) (State.isArrayOf_alike hZ.alike Ar153.2.1) Ar153.2.2 hin153 (Has.at H153 hin153 rfl) (g := (mkF m 229 #[.val (.int p1), .val (.int p2), .val (.ref b1), .val (.ref b32), .val (.int (4 : Int32)), .val (.ref s_PUBREC), .val (.int (80 : Int32)), .unset] [(.int (4 : Int32)), (.ref b32), (.int (80 : Int32))])) rfl rfl (hb hby at_229)) ?_
    show OwnR _ _ _ _ _ _ _ (T152.setTop (mkF m 230 #[.val (.int p1), .val (.int p2), .val (.ref b1), .val (.ref b32), .val (.int (4 : Int32)), .val (.ref s_PUBREC), .val (.int (80 : Int32)), .unset] [(.int (80 : Int32)), (.int (80 : Int32))]))
    refine OwnR.of (fun _ hr => XS.icmpYes X152.here hx rfl (pc0 := 230) (pc' := 235) rfl (hb hby at_230) rfl (teq (by decide : (80 : Int32) = (80 : Int32))).1 (by decide) (by decide) hr) ?_
    show OwnR _ _ _ _ _ _ _ (T152.setTop (mkF m 235 #[.val (.int p1), .val (.int p2), .val (.ref b1), .val (.ref b32), .val (.int (4 : Int32)), .val (.ref s_PUBREC), .val (.int (80 : Int32)), .unset] []))
    refine OwnR.of (fun _ hr => XS.iloadN X152.here hx rfl (hb hby at_235) rfl hr) ?_
    show OwnR _ _ _ _ _ _ _ (T152.setTop (mkF m 236 #[.val (.int p1), .val (.int p2), .val (.ref b1), .val (.ref b32), .val (.int (4 : Int32)), .val (.ref s_PUBREC), .val (.int (80 : Int32)), .unset] [(.int p2)]))
    refine OwnR.of (fun _ hr => XS.iconst X152.here hx rfl (hb hby at_236) hr) ?_
    show OwnR _ _ _ _ _ _ _ (T152.setTop (mkF m 237 #[.val (.int p1), .val (.int p2), .val (.ref b1), .val (.ref b32), .val (.int (4 : Int32)), .val (.ref s_PUBREC), .val (.int (80 : Int32)), .unset] [(.int (1 : Int32)), (.int p2)]))
    refine OwnR.of (fun _ hr => XS.iand X152.here hx rfl (hb hby at_237) rfl hr) ?_
    show OwnR _ _ _ _ _ _ _ (T152.setTop (mkF m 238 #[.val (.int p1), .val (.int p2), .val (.ref b1), .val (.ref b32), .val (.int (4 : Int32)), .val (.ref s_PUBREC), .val (.int (80 : Int32)), .unset] [(.int (p2 &&& (1 : Int32)))]))
    by_cases hc238_154 : (p2 &&& (1 : Int32)) = (0 : Int32)
    · skip
      refine OwnR.of (fun _ hr => XS.ifNo X152.here hx rfl (hb hby at_238) rfl ((if0 _ _).trans (teq hc238_154).2) hr) ?_
      show OwnR _ _ _ _ _ _ _ (T152.setTop (mkF m 241 #[.val (.int p1), .val (.int p2), .val (.ref b1), .val (.ref b32), .val (.int (4 : Int32)), .val (.ref s_PUBREC), .val (.int (80 : Int32)), .unset] []))
      refine OwnR.of (fun _ hr => XS.aload X152.here hx rfl (hb hby at_241) rfl rfl hr) ?_
      show OwnR _ _ _ _ _ _ _ (T152.setTop (mkF m 243 #[.val (.int p1), .val (.int p2), .val (.ref b1), .val (.ref b32), .val (.int (4 : Int32)), .val (.ref s_PUBREC), .val (.int (80 : Int32)), .unset] [(.ref s_PUBREC)]))
      obtain ⟨T155, X155, e155, st155⟩ := getS2 X152 hx hZ hown (host := "") (Or.inl (hw _ (List.mem_of_getElem? (i := 32) rfl))) Via.refl e152 R50 (g := (mkF m 243 #[.val (.int p1), .val (.int p2), .val (.ref b1), .val (.ref b32), .val (.int (4 : Int32)), .val (.ref s_PUBREC), .val (.int (80 : Int32)), .unset] [(.ref s_PUBREC)])) rfl (hb hby at_243)
      refine OwnR.of (st155) ?_
      show OwnR _ _ _ _ _ _ _ (T155.setTop (mkF m 246 #[.val (.int p1), .val (.int p2), .val (.ref b1), .val (.ref b32), .val (.int (4 : Int32)), .val (.ref s_PUBREC), .val (.int (80 : Int32)), .unset] [(.ref s_AUTH), (.ref s_PUBREC)]))
      refine OwnR.of (fun _ hr => Jvm.RoadKit.acmp (g := (mkF m 246 #[.val (.int p1), .val (.int p2), .val (.ref b1), .val (.ref b32), .val (.int (4 : Int32)), .val (.ref s_PUBREC), .val (.int (80 : Int32)), .unset] [(.ref s_AUTH), (.ref s_PUBREC)])) X155 hx rfl rfl rfl (pc0 := 246) (pc' := 255) (same := false) rfl (hb hby at_246) rfl (decide_eq_false fun q => ne_PUBREC (Value.ref.inj q)) (by decide) (by decide) hr) ?_
      show OwnR _ _ _ _ _ _ _ (T155.setTop (mkF m 255 #[.val (.int p1), .val (.int p2), .val (.ref b1), .val (.ref b32), .val (.int (4 : Int32)), .val (.ref s_PUBREC), .val (.int (80 : Int32)), .unset] []))
      obtain ⟨T156, X156, e156, st156⟩ := getS2 X155 hx hZ hown (host := "") (Or.inl (hw _ (List.mem_of_getElem? (i := 56) rfl))) Via.refl e155 R51 (g := (mkF m 255 #[.val (.int p1), .val (.int p2), .val (.ref b1), .val (.ref b32), .val (.int (4 : Int32)), .val (.ref s_PUBREC), .val (.int (80 : Int32)), .unset] [])) rfl (hb hby at_255)
      refine OwnR.of (st156) ?_
      show OwnR _ _ _ _ _ _ _ (T156.setTop (mkF m 258 #[.val (.int p1), .val (.int p2), .val (.ref b1), .val (.ref b32), .val (.int (4 : Int32)), .val (.ref s_PUBREC), .val (.int (80 : Int32)), .unset] [(.ref s_V3)]))
      refine OwnR.of (fun _ hr => XS.astore X156.here hx rfl (hb hby at_258) rfl rfl (l' := #[.val (.int p1), .val (.int p2), .val (.ref b1), .val (.ref b32), .val (.int (4 : Int32)), .val (.ref s_PUBREC), .val (.int (80 : Int32)), .val (.ref s_V3)]) rfl hr) ?_
      show OwnR _ _ _ _ _ _ _ (T156.setTop (mkF m 260 #[.val (.int p1), .val (.int p2), .val (.ref b1), .val (.ref b32), .val (.int (4 : Int32)), .val (.ref s_PUBREC), .val (.int (80 : Int32)), .val (.ref s_V3)] []))
      refine OwnR.of (fun _ hr => XS.iload X156.here hx rfl (hb hby at_260) rfl hr) ?_
      show OwnR _ _ _ _ _ _ _ (T156.setTop (mkF m 262 #[.val (.int p1), .val (.int p2), .val (.ref b1), .val (.ref b32), .val (.int (4 : Int32)), .val (.ref s_PUBREC), .val (.int (80 : Int32)), .val (.ref s_V3)] [(.int (80 : Int32))]))
      refine OwnR.of (fun _ hr => XS.aload X156.here hx rfl (hb hby at_262) rfl rfl hr) ?_
      show OwnR _ _ _ _ _ _ _ (T156.setTop (mkF m 264 #[.val (.int p1), .val (.int p2), .val (.ref b1), .val (.ref b32), .val (.int (4 : Int32)), .val (.ref s_PUBREC), .val (.int (80 : Int32)), .val (.ref s_V3)] [(.ref s_V3), (.int (80 : Int32))]))
      obtain ⟨_, _, ⟨T157, L157, kc157, ns157⟩, -, X157, ⟨Lc157, hQ157, l157, y157, z157⟩, st157⟩ := Jvm.LawKit.callS X156 hx (y := (⟨"com/example/kurir/kurir/codec/PacketType", "of", "(ILcom/example/kurir/kurir/codec/ProtocolVersion;)Lcom/example/kurir/kurir/codec/PacketType;"⟩ : MethodName)) hown (mvT hZ (hw _ (List.mem_of_getElem? (i := 48) rfl))) (mvT hZ (hw _ (List.mem_of_getElem? (i := 49) rfl))) (mvT hZ (hw _ (List.mem_of_getElem? (i := 3) rfl))) (mvT hZ (hw _ (List.mem_of_getElem? (i := 50) rfl))) (by decide) (backOf (W := 0) (rm2_4 l Z a0 hw [] s_V3 sb kb s_CONNECT s_CONNACK s_PUBLISH s_PUBACK s_PUBREC s_PUBREL s_PUBCOMP s_SUBSCRIBE s_SUBACK s_UNSUBSCRIBE s_UNSUBACK s_PINGREQ s_PINGRESP s_DISCONNECT s_AUTH s_V3 h47 n0 (Nat.le_trans Z0 K47.1) R48 R49 R50 R51 ne_PUBREC) hZ (hw _ (List.mem_of_getElem? (i := 50) rfl)) (hw _ (List.mem_of_getElem? (i := 3) rfl)) (by decide) (by decide)) (g := (mkF m 264 #[.val (.int p1), .val (.int p2), .val (.ref b1), .val (.ref b32), .val (.int (4 : Int32)), .val (.ref s_PUBREC), .val (.int (80 : Int32)), .val (.ref s_V3)] [(.ref s_V3), (.int (80 : Int32))])) rfl (by rw [hml]; rfl) (argsL := [(.int (80 : Int32)), (.ref s_V3)]) (rest := []) (lenOf pd__ILcom_example_kurir_kurir_codec_ProtocolVersion__Lcom_example_kurir_kurir_codec_PacketType_ rfl) rfl (by show 2 * 0 + _ ≤ _; exact Nat.le_of_eq rfl) (hb hby at_264) (fun _ _ => ⟨rfl, e156, (by decide : 2 + 0 ≤ _), (by decide : 30 + 0 ≤ _)⟩)
      dsimp only [Pt.U, Pt.locs, Pt.cells, Pt.slots] at X157 l157 y157 z157 st157 hQ157
      rw [l157, y157, z157] at X157
      obtain ⟨rfl, N157q, e157⟩ := hQ157
      have N157 := Fr.app N152 N157q
      refine OwnR.of (st157) ?_
      show OwnR _ _ _ _ _ _ _ (T157.setTop (mkF m 267 #[.val (.int p1), .val (.int p2), .val (.ref b1), .val (.ref b32), .val (.int (4 : Int32)), .val (.ref s_PUBREC), .val (.int (80 : Int32)), .val (.ref s_V3)] [(.ref s_PUBREC)]))
      refine OwnR.of (fun _ hr => XS.aload X157.here hx rfl (hb hby at_267) rfl rfl hr) ?_
      show OwnR _ _ _ _ _ _ _ (T157.setTop (mkF m 269 #[.val (.int p1), .val (.int p2), .val (.ref b1), .val (.ref b32), .val (.int (4 : Int32)), .val (.ref s_PUBREC), .val (.int (80 : Int32)), .val (.ref s_V3)] [(.ref s_PUBREC), (.ref s_PUBREC)]))
      refine OwnR.of (fun _ hr => Jvm.RoadKit.acmp (g := (mkF m 269 #[.val (.int p1), .val (.int p2), .val (.ref b1), .val (.ref b32), .val (.int (4 : Int32)), .val (.ref s_PUBREC), .val (.int (80 : Int32)), .val (.ref s_V3)] [(.ref s_PUBREC), (.ref s_PUBREC)])) X157 hx rfl rfl rfl (pc0 := 269) (pc' := 272) (same := true) rfl (hb hby at_269) rfl (decide_eq_true rfl) (by decide) (by decide) hr) ?_
      show OwnR _ _ _ _ _ _ _ (T157.setTop (mkF m 272 #[.val (.int p1), .val (.int p2), .val (.ref b1), .val (.ref b32), .val (.int (4 : Int32)), .val (.ref s_PUBREC), .val (.int (80 : Int32)), .val (.ref s_V3)] []))
      refine OwnR.of (fun _ hr => XS.iconst X157.here hx rfl (hb hby at_272) hr) ?_
      show OwnR _ _ _ _ _ _ _ (T157.setTop (mkF m 273 #[.val (.int p1), .val (.int p2), .val (.ref b1), .val (.ref b32), .val (.int (4 : Int32)), .val (.ref s_PUBREC), .val (.int (80 : Int32)), .val (.ref s_V3)] [(.int (1 : Int32))]))
      refine OwnR.of (fun _ hr => XS.goto X157.here hx rfl (pc0 := 273) (pc' := 277) rfl (hb hby at_273) (by decide) (by decide) hr) ?_
      show OwnR _ _ _ _ _ _ _ (T157.setTop (mkF m 277 #[.val (.int p1), .val (.int p2), .val (.ref b1), .val (.ref b32), .val (.int (4 : Int32)), .val (.ref s_PUBREC), .val (.int (80 : Int32)), .val (.ref s_V3)] [(.int (1 : Int32))]))
      refine own_leafN X157 hx hlk (t := .boolean) Bd.returns (by simp) (hb hby at_277) (z' := (1 : Int32)) rfl (by decide) (by decide) ?_
      show Q0 Z  h0 n0 _ T157.heap _
      rw [show T157.heap = h47 from e157]
      refine ⟨?_, N157⟩
      show (some (.int (1 : Int32)) : Option Value) = some (.int (1 : Int32))
      rfl
    · skip
      refine OwnR.of (fun _ hr => XS.ifYes X152.here hx rfl (pc0 := 238) (pc' := 249) rfl (hb hby at_238) rfl ((if0 _ _).trans (feq hc238_154).2) (by decide) (by decide) hr) ?_
      show OwnR _ _ _ _ _ _ _ (T152.setTop (mkF m 249 #[.val (.int p1), .val (.int p2), .val (.ref b1), .val (.ref b32), .val (.int (4 : Int32)), .val (.ref s_PUBREC), .val (.int (80 : Int32)), .unset] []))
      obtain ⟨T158, X158, e158, st158⟩ := getS2 X152 hx hZ hown (host := "") (Or.inl (hw _ (List.mem_of_getElem? (i := 45) rfl))) Via.refl e152 R52 (g := (mkF m 249 #[.val (.int p1), .val (.int p2), .val (.ref b1), .val (.ref b32), .val (.int (4 : Int32)), .val (.ref s_PUBREC), .val (.int (80 : Int32)), .unset] [])) rfl (hb hby at_249)
      refine OwnR.of (st158) ?_
      show OwnR _ _ _ _ _ _ _ (T158.setTop (mkF m 252 #[.val (.int p1), .val (.int p2), .val (.ref b1), .val (.ref b32), .val (.int (4 : Int32)), .val (.ref s_PUBREC), .val (.int (80 : Int32)), .unset] [(.ref s_V5)]))
      refine OwnR.of (fun _ hr => XS.goto X158.here hx rfl (pc0 := 252) (pc' := 258) rfl (hb hby at_252) (by decide) (by decide) hr) ?_
      show OwnR _ _ _ _ _ _ _ (T158.setTop (mkF m 258 #[.val (.int p1), .val (.int p2), .val (.ref b1), .val (.ref b32), .val (.int (4 : Int32)), .val (.ref s_PUBREC), .val (.int (80 : Int32)), .unset] [(.ref s_V5)]))
      refine OwnR.of (fun _ hr => XS.astore X158.here hx rfl (hb hby at_258) rfl rfl (l' := #[.val (.int p1), .val (.int p2), .val (.ref b1), .val (.ref b32), .val (.int (4 : Int32)), .val (.ref s_PUBREC), .val (.int (80 : Int32)), .val (.ref s_V5)]) rfl hr) ?_
      show OwnR _ _ _ _ _ _ _ (T158.setTop (mkF m 260 #[.val (.int p1), .val (.int p2), .val (.ref b1), .val (.ref b32), .val (.int (4 : Int32)), .val (.ref s_PUBREC), .val (.int (80 : Int32)), .val (.ref s_V5)] []))
      refine OwnR.of (fun _ hr => XS.iload X158.here hx rfl (hb hby at_260) rfl hr) ?_
      show OwnR _ _ _ _ _ _ _ (T158.setTop (mkF m 262 #[.val (.int p1), .val (.int p2), .val (.ref b1), .val (.ref b32), .val (.int (4 : Int32)), .val (.ref s_PUBREC), .val (.int (80 : Int32)), .val (.ref s_V5)] [(.int (80 : Int32))]))
      refine OwnR.of (fun _ hr => XS.aload X158.here hx rfl (hb hby at_262) rfl rfl hr) ?_
      show OwnR _ _ _ _ _ _ _ (T158.setTop (mkF m 264 #[.val (.int p1), .val (.int p2), .val (.ref b1), .val (.ref b32), .val (.int (4 : Int32)), .val (.ref s_PUBREC), .val (.int (80 : Int32)), .val (.ref s_V5)] [(.ref s_V5), (.int (80 : Int32))]))
      obtain ⟨_, _, ⟨T159, L159, kc159, ns159⟩, -, X159, ⟨Lc159, hQ159, l159, y159, z159⟩, st159⟩ := Jvm.LawKit.callS X158 hx (y := (⟨"com/example/kurir/kurir/codec/PacketType", "of", "(ILcom/example/kurir/kurir/codec/ProtocolVersion;)Lcom/example/kurir/kurir/codec/PacketType;"⟩ : MethodName)) hown (mvT hZ (hw _ (List.mem_of_getElem? (i := 48) rfl))) (mvT hZ (hw _ (List.mem_of_getElem? (i := 49) rfl))) (mvT hZ (hw _ (List.mem_of_getElem? (i := 3) rfl))) (mvT hZ (hw _ (List.mem_of_getElem? (i := 50) rfl))) (by decide) (backOf (W := 0) (rm2_4 l Z a0 hw [] s_V5 sb kb s_CONNECT s_CONNACK s_PUBLISH s_PUBACK s_PUBREC s_PUBREL s_PUBCOMP s_SUBSCRIBE s_SUBACK s_UNSUBSCRIBE s_UNSUBACK s_PINGREQ s_PINGRESP s_DISCONNECT s_AUTH s_V3 h47 n0 (Nat.le_trans Z0 K47.1) R48 R49 R50 R51 ne_PUBREC) hZ (hw _ (List.mem_of_getElem? (i := 50) rfl)) (hw _ (List.mem_of_getElem? (i := 3) rfl)) (by decide) (by decide)) (g := (mkF m 264 #[.val (.int p1), .val (.int p2), .val (.ref b1), .val (.ref b32), .val (.int (4 : Int32)), .val (.ref s_PUBREC), .val (.int (80 : Int32)), .val (.ref s_V5)] [(.ref s_V5), (.int (80 : Int32))])) rfl (by rw [hml]; rfl) (argsL := [(.int (80 : Int32)), (.ref s_V5)]) (rest := []) (lenOf pd__ILcom_example_kurir_kurir_codec_ProtocolVersion__Lcom_example_kurir_kurir_codec_PacketType_ rfl) rfl (by show 2 * 0 + _ ≤ _; exact Nat.le_of_eq rfl) (hb hby at_264) (fun _ _ => ⟨rfl, e158, (by decide : 2 + 0 ≤ _), (by decide : 30 + 0 ≤ _)⟩)
      dsimp only [Pt.U, Pt.locs, Pt.cells, Pt.slots] at X159 l159 y159 z159 st159 hQ159
      rw [l159, y159, z159] at X159
      obtain ⟨rfl, N159q, e159⟩ := hQ159
      have N159 := Fr.app N152 N159q
      refine OwnR.of (st159) ?_
      show OwnR _ _ _ _ _ _ _ (T159.setTop (mkF m 267 #[.val (.int p1), .val (.int p2), .val (.ref b1), .val (.ref b32), .val (.int (4 : Int32)), .val (.ref s_PUBREC), .val (.int (80 : Int32)), .val (.ref s_V5)] [(.ref s_PUBREC)]))
      refine OwnR.of (fun _ hr => XS.aload X159.here hx rfl (hb hby at_267) rfl rfl hr) ?_
      show OwnR _ _ _ _ _ _ _ (T159.setTop (mkF m 269 #[.val (.int p1), .val (.int p2), .val (.ref b1), .val (.ref b32), .val (.int (4 : Int32)), .val (.ref s_PUBREC), .val (.int (80 : Int32)), .val (.ref s_V5)] [(.ref s_PUBREC), (.ref s_PUBREC)]))
      refine OwnR.of (fun _ hr => Jvm.RoadKit.acmp (g := (mkF m 269 #[.val (.int p1), .val (.int p2), .val (.ref b1), .val (.ref b32), .val (.int (4 : Int32)), .val (.ref s_PUBREC), .val (.int (80 : Int32)), .val (.ref s_V5)] [(.ref s_PUBREC), (.ref s_PUBREC)])) X159 hx rfl rfl rfl (pc0 := 269) (pc' := 272) (same := true) rfl (hb hby at_269) rfl (decide_eq_true rfl) (by decide) (by decide) hr) ?_
      show OwnR _ _ _ _ _ _ _ (T159.setTop (mkF m 272 #[.val (.int p1), .val (.int p2), .val (.ref b1), .val (.ref b32), .val (.int (4 : Int32)), .val (.ref s_PUBREC), .val (.int (80 : Int32)), .val (.ref s_V5)] []))
      refine OwnR.of (fun _ hr => XS.iconst X159.here hx rfl (hb hby at_272) hr) ?_
      show OwnR _ _ _ _ _ _ _ (T159.setTop (mkF m 273 #[.val (.int p1), .val (.int p2), .val (.ref b1), .val (.ref b32), .val (.int (4 : Int32)), .val (.ref s_PUBREC), .val (.int (80 : Int32)), .val (.ref s_V5)] [(.int (1 : Int32))]))
      refine OwnR.of (fun _ hr => XS.goto X159.here hx rfl (pc0 := 273) (pc' := 277) rfl (hb hby at_273) (by decide) (by decide) hr) ?_
      show OwnR _ _ _ _ _ _ _ (T159.setTop (mkF m 277 #[.val (.int p1), .val (.int p2), .val (.ref b1), .val (.ref b32), .val (.int (4 : Int32)), .val (.ref s_PUBREC), .val (.int (80 : Int32)), .val (.ref s_V5)] [(.int (1 : Int32))]))
      refine own_leafN X159 hx hlk (t := .boolean) Bd.returns (by simp) (hb hby at_277) (z' := (1 : Int32)) rfl (by decide) (by decide) ?_
      show Q0 Z  h0 n0 _ T159.heap _
      rw [show T159.heap = h47 from e159]
      refine ⟨?_, N159⟩
      show (some (.int (1 : Int32)) : Option Value) = some (.int (1 : Int32))
      rfl
  · skip
    show OwnR _ _ _ _ _ _ _ (T47.setTop (mkF m 211 #[.val (.int p1), .val (.int p2), .val (.ref b1), .val (.ref b32), .val (.int (5 : Int32)), .unset, .unset, .unset] []))
    refine OwnR.of (fun _ hr => XS.aloadN X47.here hx rfl (hb hby at_211) rfl rfl hr) ?_
    show OwnR _ _ _ _ _ _ _ (T47.setTop (mkF m 212 #[.val (.int p1), .val (.int p2), .val (.ref b1), .val (.ref b32), .val (.int (5 : Int32)), .unset, .unset, .unset] [(.ref b1)]))
    refine OwnR.of (fun _ hr => XS.iload X47.here hx rfl (hb hby at_212) rfl hr) ?_
    show OwnR _ _ _ _ _ _ _ (T47.setTop (mkF m 214 #[.val (.int p1), .val (.int p2), .val (.ref b1), .val (.ref b32), .val (.int (5 : Int32)), .unset, .unset, .unset] [(.int (5 : Int32)), (.ref b1)]))
    obtain ⟨cl160, Ar160, -, S160, N160, H160, G160⟩ := id R113
    have hin160 : ¬ ((5 : Int32) < 0 ∨ cl160.slots.size ≤ ((5 : Int32)).toNatClampNeg) := (inb_of S160 ⟨by decide, by decide⟩)
    refine OwnR.of (X47.aaload hx (j := (5 : Int32)) (v := (.ref s_PUBREL)) (by rw [e47]; exact Ar160.1) (State.isArrayOf_alike hZ.alike Ar160.2.1) rfl Ar160.2.2 hin160 (Has.at H160 hin160 rfl) (g := (mkF m 214 #[.val (.int p1), .val (.int p2), .val (.ref b1), .val (.ref b32), .val (.int (5 : Int32)), .unset, .unset, .unset] [(.int (5 : Int32)), (.ref b1)])) rfl rfl (hb hby at_214)) ?_
    show OwnR _ _ _ _ _ _ _ (T47.setTop (mkF m 215 #[.val (.int p1), .val (.int p2), .val (.ref b1), .val (.ref b32), .val (.int (5 : Int32)), .unset, .unset, .unset] [(.ref s_PUBREL)]))
    refine OwnR.of (fun _ hr => XS.astore X47.here hx rfl (hb hby at_215) rfl rfl (l' := #[.val (.int p1), .val (.int p2), .val (.ref b1), .val (.ref b32), .val (.int (5 : Int32)), .val (.ref s_PUBREL), .unset, .unset]) rfl hr) ?_
    show OwnR _ _ _ _ _ _ _ (T47.setTop (mkF m 217 #[.val (.int p1), .val (.int p2), .val (.ref b1), .val (.ref b32), .val (.int (5 : Int32)), .val (.ref s_PUBREL), .unset, .unset] []))
    refine OwnR.of (fun _ hr => XS.aload X47.here hx rfl (hb hby at_217) rfl rfl hr) ?_
    show OwnR _ _ _ _ _ _ _ (T47.setTop (mkF m 219 #[.val (.int p1), .val (.int p2), .val (.ref b1), .val (.ref b32), .val (.int (5 : Int32)), .val (.ref s_PUBREL), .unset, .unset] [(.ref s_PUBREL)]))
    obtain ⟨cq161, kq161, q161a, q161b, q161c⟩ := isOf hZ e47 R74
    obtain ⟨_, _, ⟨T161, L161, kc161, ns161⟩, -, X161, ⟨Lc161, hQ161, l161, y161, z161⟩, st161⟩ := X47.virtualBack hx (y := (⟨"com/example/kurir/kurir/codec/PacketType", "firstByte", "()I"⟩ : MethodName)) (z := (⟨"com/example/kurir/kurir/codec/PacketType", "firstByte", "()I"⟩ : MethodName)) hown (mvT hZ (hw _ (List.mem_of_getElem? (i := 36) rfl))) (mvT hZ (hw _ (List.mem_of_getElem? (i := 37) rfl))) (notFace_of_selects (args := #[]) (mvT hZ (hw _ (List.mem_of_getElem? (i := 39) rfl)))) (mvT hZ (hw _ (List.mem_of_getElem? (i := 39) rfl))) (mvT hZ (hw _ (List.mem_of_getElem? (i := 38) rfl))) (by decide) (backOf (W := 0) (rm1 l Z a0 hw [] s_PUBREL (6 : Int32) (2 : Int32) h47 n0 (Nat.le_trans Z0 K47.1) R74 R75 R76) hZ (hw _ (List.mem_of_getElem? (i := 40) rfl)) (hw _ (List.mem_of_getElem? (i := 3) rfl)) (by decide) (by decide)) q161a q161c (g := (mkF m 219 #[.val (.int p1), .val (.int p2), .val (.ref b1), .val (.ref b32), .val (.int (5 : Int32)), .val (.ref s_PUBREL), .unset, .unset] [(.ref s_PUBREL)])) rfl (by rw [hml]; rfl) (Steps.refl _) (argsL := []) (rest := []) (lenOf pd___I rfl) rfl (by show 2 * 0 + _ ≤ _; exact Nat.le_of_eq rfl) (hb hby at_219) (fun _ _ => ⟨rfl, e47, (by decide : 2 + 0 ≤ _), (by decide : 30 + 0 ≤ _)⟩)
    dsimp only [Pt.U, Pt.locs, Pt.cells, Pt.slots] at X161 l161 y161 z161 st161 hQ161
    rw [l161, y161, z161] at X161
    obtain ⟨rfl, N161q, e161⟩ := hQ161
    have N161 := Fr.app N47 N161q
    refine OwnR.of (fun _ hr => st161.trans hr) ?_
    show OwnR _ _ _ _ _ _ _ (T161.setTop (mkF m 222 #[.val (.int p1), .val (.int p2), .val (.ref b1), .val (.ref b32), .val (.int (5 : Int32)), .val (.ref s_PUBREL), .unset, .unset] [(.int (own_fb (6 : Int32) (2 : Int32)))]))
    rw [(by decide : (own_fb (6 : Int32) (2 : Int32)) = (98 : Int32))]
    show OwnR _ _ _ _ _ _ _ (T161.setTop (mkF m 222 #[.val (.int p1), .val (.int p2), .val (.ref b1), .val (.ref b32), .val (.int (5 : Int32)), .val (.ref s_PUBREL), .unset, .unset] [(.int (98 : Int32))]))
    refine OwnR.of (fun _ hr => XS.istore X161.here hx rfl (hb hby at_222) rfl (l' := #[.val (.int p1), .val (.int p2), .val (.ref b1), .val (.ref b32), .val (.int (5 : Int32)), .val (.ref s_PUBREL), .val (.int (98 : Int32)), .unset]) rfl hr) ?_
    show OwnR _ _ _ _ _ _ _ (T161.setTop (mkF m 224 #[.val (.int p1), .val (.int p2), .val (.ref b1), .val (.ref b32), .val (.int (5 : Int32)), .val (.ref s_PUBREL), .val (.int (98 : Int32)), .unset] []))
    refine OwnR.of (fun _ hr => XS.iload X161.here hx rfl (hb hby at_224) rfl hr) ?_
    show OwnR _ _ _ _ _ _ _ (T161.setTop (mkF m 226 #[.val (.int p1), .val (.int p2), .val (.ref b1), .val (.ref b32), .val (.int (5 : Int32)), .val (.ref s_PUBREL), .val (.int (98 : Int32)), .unset] [(.int (98 : Int32))]))
    refine OwnR.of (fun _ hr => XS.aloadN X161.here hx rfl (hb hby at_226) rfl rfl hr) ?_
    show OwnR _ _ _ _ _ _ _ (T161.setTop (mkF m 227 #[.val (.int p1), .val (.int p2), .val (.ref b1), .val (.ref b32), .val (.int (5 : Int32)), .val (.ref s_PUBREL), .val (.int (98 : Int32)), .unset] [(.ref b32), (.int (98 : Int32))]))
    refine OwnR.of (fun _ hr => XS.iload X161.here hx rfl (hb hby at_227) rfl hr) ?_
    show OwnR _ _ _ _ _ _ _ (T161.setTop (mkF m 229 #[.val (.int p1), .val (.int p2), .val (.ref b1), .val (.ref b32), .val (.int (5 : Int32)), .val (.ref s_PUBREL), .val (.int (98 : Int32)), .unset] [(.int (5 : Int32)), (.ref b32), (.int (98 : Int32))]))
    obtain ⟨cl162, Ar162, -, S162, N162, H162, G162⟩ := id V47
    have hin162 : ¬ ((5 : Int32) < 0 ∨ cl162.slots.size ≤ ((5 : Int32)).toNatClampNeg) := (inb_of S162 ⟨by decide, by decide⟩)
    refine OwnR.of (X161.iaload hx (j := (5 : Int32)) (v := (.int (98 : Int32))) (by rw [e161]; exact Ar162.1) (State.isArrayOf_alike hZ.alike Ar162.2.1) Ar162.2.2 hin162 (Has.at H162 hin162 rfl) (g := (mkF m 229 #[.val (.int p1), .val (.int p2), .val (.ref b1), .val (.ref b32), .val (.int (5 : Int32)), .val (.ref s_PUBREL), .val (.int (98 : Int32)), .unset] [(.int (5 : Int32)), (.ref b32), (.int (98 : Int32))])) rfl rfl (hb hby at_229)) ?_
    show OwnR _ _ _ _ _ _ _ (T161.setTop (mkF m 230 #[.val (.int p1), .val (.int p2), .val (.ref b1), .val (.ref b32), .val (.int (5 : Int32)), .val (.ref s_PUBREL), .val (.int (98 : Int32)), .unset] [(.int (98 : Int32)), (.int (98 : Int32))]))
    refine OwnR.of (fun _ hr => XS.icmpYes X161.here hx rfl (pc0 := 230) (pc' := 235) rfl (hb hby at_230) rfl (teq (by decide : (98 : Int32) = (98 : Int32))).1 (by decide) (by decide) hr) ?_
    show OwnR _ _ _ _ _ _ _ (T161.setTop (mkF m 235 #[.val (.int p1), .val (.int p2), .val (.ref b1), .val (.ref b32), .val (.int (5 : Int32)), .val (.ref s_PUBREL), .val (.int (98 : Int32)), .unset] []))
    refine OwnR.of (fun _ hr => XS.iloadN X161.here hx rfl (hb hby at_235) rfl hr) ?_
    show OwnR _ _ _ _ _ _ _ (T161.setTop (mkF m 236 #[.val (.int p1), .val (.int p2), .val (.ref b1), .val (.ref b32), .val (.int (5 : Int32)), .val (.ref s_PUBREL), .val (.int (98 : Int32)), .unset] [(.int p2)]))
    refine OwnR.of (fun _ hr => XS.iconst X161.here hx rfl (hb hby at_236) hr) ?_
    show OwnR _ _ _ _ _ _ _ (T161.setTop (mkF m 237 #[.val (.int p1), .val (.int p2), .val (.ref b1), .val (.ref b32), .val (.int (5 : Int32)), .val (.ref s_PUBREL), .val (.int (98 : Int32)), .unset] [(.int (1 : Int32)), (.int p2)]))
    refine OwnR.of (fun _ hr => XS.iand X161.here hx rfl (hb hby at_237) rfl hr) ?_
    show OwnR _ _ _ _ _ _ _ (T161.setTop (mkF m 238 #[.val (.int p1), .val (.int p2), .val (.ref b1), .val (.ref b32), .val (.int (5 : Int32)), .val (.ref s_PUBREL), .val (.int (98 : Int32)), .unset] [(.int (p2 &&& (1 : Int32)))]))
    by_cases hc238_163 : (p2 &&& (1 : Int32)) = (0 : Int32)
    · skip
      refine OwnR.of (fun _ hr => XS.ifNo X161.here hx rfl (hb hby at_238) rfl ((if0 _ _).trans (teq hc238_163).2) hr) ?_
      show OwnR _ _ _ _ _ _ _ (T161.setTop (mkF m 241 #[.val (.int p1), .val (.int p2), .val (.ref b1), .val (.ref b32), .val (.int (5 : Int32)), .val (.ref s_PUBREL), .val (.int (98 : Int32)), .unset] []))
      refine OwnR.of (fun _ hr => XS.aload X161.here hx rfl (hb hby at_241) rfl rfl hr) ?_
      show OwnR _ _ _ _ _ _ _ (T161.setTop (mkF m 243 #[.val (.int p1), .val (.int p2), .val (.ref b1), .val (.ref b32), .val (.int (5 : Int32)), .val (.ref s_PUBREL), .val (.int (98 : Int32)), .unset] [(.ref s_PUBREL)]))
      obtain ⟨T164, X164, e164, st164⟩ := getS2 X161 hx hZ hown (host := "") (Or.inl (hw _ (List.mem_of_getElem? (i := 32) rfl))) Via.refl e161 R50 (g := (mkF m 243 #[.val (.int p1), .val (.int p2), .val (.ref b1), .val (.ref b32), .val (.int (5 : Int32)), .val (.ref s_PUBREL), .val (.int (98 : Int32)), .unset] [(.ref s_PUBREL)])) rfl (hb hby at_243)
      refine OwnR.of (st164) ?_
      show OwnR _ _ _ _ _ _ _ (T164.setTop (mkF m 246 #[.val (.int p1), .val (.int p2), .val (.ref b1), .val (.ref b32), .val (.int (5 : Int32)), .val (.ref s_PUBREL), .val (.int (98 : Int32)), .unset] [(.ref s_AUTH), (.ref s_PUBREL)]))
      refine OwnR.of (fun _ hr => Jvm.RoadKit.acmp (g := (mkF m 246 #[.val (.int p1), .val (.int p2), .val (.ref b1), .val (.ref b32), .val (.int (5 : Int32)), .val (.ref s_PUBREL), .val (.int (98 : Int32)), .unset] [(.ref s_AUTH), (.ref s_PUBREL)])) X164 hx rfl rfl rfl (pc0 := 246) (pc' := 255) (same := false) rfl (hb hby at_246) rfl (decide_eq_false fun q => ne_PUBREL (Value.ref.inj q)) (by decide) (by decide) hr) ?_
      show OwnR _ _ _ _ _ _ _ (T164.setTop (mkF m 255 #[.val (.int p1), .val (.int p2), .val (.ref b1), .val (.ref b32), .val (.int (5 : Int32)), .val (.ref s_PUBREL), .val (.int (98 : Int32)), .unset] []))
      obtain ⟨T165, X165, e165, st165⟩ := getS2 X164 hx hZ hown (host := "") (Or.inl (hw _ (List.mem_of_getElem? (i := 56) rfl))) Via.refl e164 R51 (g := (mkF m 255 #[.val (.int p1), .val (.int p2), .val (.ref b1), .val (.ref b32), .val (.int (5 : Int32)), .val (.ref s_PUBREL), .val (.int (98 : Int32)), .unset] [])) rfl (hb hby at_255)
      refine OwnR.of (st165) ?_
      show OwnR _ _ _ _ _ _ _ (T165.setTop (mkF m 258 #[.val (.int p1), .val (.int p2), .val (.ref b1), .val (.ref b32), .val (.int (5 : Int32)), .val (.ref s_PUBREL), .val (.int (98 : Int32)), .unset] [(.ref s_V3)]))
      refine OwnR.of (fun _ hr => XS.astore X165.here hx rfl (hb hby at_258) rfl rfl (l' := #[.val (.int p1), .val (.int p2), .val (.ref b1), .val (.ref b32), .val (.int (5 : Int32)), .val (.ref s_PUBREL), .val (.int (98 : Int32)), .val (.ref s_V3)]) rfl hr) ?_
      show OwnR _ _ _ _ _ _ _ (T165.setTop (mkF m 260 #[.val (.int p1), .val (.int p2), .val (.ref b1), .val (.ref b32), .val (.int (5 : Int32)), .val (.ref s_PUBREL), .val (.int (98 : Int32)), .val (.ref s_V3)] []))
      refine OwnR.of (fun _ hr => XS.iload X165.here hx rfl (hb hby at_260) rfl hr) ?_
      show OwnR _ _ _ _ _ _ _ (T165.setTop (mkF m 262 #[.val (.int p1), .val (.int p2), .val (.ref b1), .val (.ref b32), .val (.int (5 : Int32)), .val (.ref s_PUBREL), .val (.int (98 : Int32)), .val (.ref s_V3)] [(.int (98 : Int32))]))
      refine OwnR.of (fun _ hr => XS.aload X165.here hx rfl (hb hby at_262) rfl rfl hr) ?_
      show OwnR _ _ _ _ _ _ _ (T165.setTop (mkF m 264 #[.val (.int p1), .val (.int p2), .val (.ref b1), .val (.ref b32), .val (.int (5 : Int32)), .val (.ref s_PUBREL), .val (.int (98 : Int32)), .val (.ref s_V3)] [(.ref s_V3), (.int (98 : Int32))]))
      obtain ⟨_, _, ⟨T166, L166, kc166, ns166⟩, -, X166, ⟨Lc166, hQ166, l166, y166, z166⟩, st166⟩ := Jvm.LawKit.callS X165 hx (y := (⟨"com/example/kurir/kurir/codec/PacketType", "of", "(ILcom/example/kurir/kurir/codec/ProtocolVersion;)Lcom/example/kurir/kurir/codec/PacketType;"⟩ : MethodName)) hown (mvT hZ (hw _ (List.mem_of_getElem? (i := 48) rfl))) (mvT hZ (hw _ (List.mem_of_getElem? (i := 49) rfl))) (mvT hZ (hw _ (List.mem_of_getElem? (i := 3) rfl))) (mvT hZ (hw _ (List.mem_of_getElem? (i := 50) rfl))) (by decide) (backOf (W := 0) (rm2_5 l Z a0 hw [] s_V3 sb kb s_CONNECT s_CONNACK s_PUBLISH s_PUBACK s_PUBREC s_PUBREL s_PUBCOMP s_SUBSCRIBE s_SUBACK s_UNSUBSCRIBE s_UNSUBACK s_PINGREQ s_PINGRESP s_DISCONNECT s_AUTH s_V3 h47 n0 (Nat.le_trans Z0 K47.1) R48 R49 R50 R51 ne_PUBREL) hZ (hw _ (List.mem_of_getElem? (i := 50) rfl)) (hw _ (List.mem_of_getElem? (i := 3) rfl)) (by decide) (by decide)) (g := (mkF m 264 #[.val (.int p1), .val (.int p2), .val (.ref b1), .val (.ref b32), .val (.int (5 : Int32)), .val (.ref s_PUBREL), .val (.int (98 : Int32)), .val (.ref s_V3)] [(.ref s_V3), (.int (98 : Int32))])) rfl (by rw [hml]; rfl) (argsL := [(.int (98 : Int32)), (.ref s_V3)]) (rest := []) (lenOf pd__ILcom_example_kurir_kurir_codec_ProtocolVersion__Lcom_example_kurir_kurir_codec_PacketType_ rfl) rfl (by show 2 * 0 + _ ≤ _; exact Nat.le_of_eq rfl) (hb hby at_264) (fun _ _ => ⟨rfl, e165, (by decide : 2 + 0 ≤ _), (by decide : 30 + 0 ≤ _)⟩)
      dsimp only [Pt.U, Pt.locs, Pt.cells, Pt.slots] at X166 l166 y166 z166 st166 hQ166
      rw [l166, y166, z166] at X166
      obtain ⟨rfl, N166q, e166⟩ := hQ166
      have N166 := Fr.app N161 N166q
      refine OwnR.of (st166) ?_
      show OwnR _ _ _ _ _ _ _ (T166.setTop (mkF m 267 #[.val (.int p1), .val (.int p2), .val (.ref b1), .val (.ref b32), .val (.int (5 : Int32)), .val (.ref s_PUBREL), .val (.int (98 : Int32)), .val (.ref s_V3)] [(.ref s_PUBREL)]))
      refine OwnR.of (fun _ hr => XS.aload X166.here hx rfl (hb hby at_267) rfl rfl hr) ?_
      show OwnR _ _ _ _ _ _ _ (T166.setTop (mkF m 269 #[.val (.int p1), .val (.int p2), .val (.ref b1), .val (.ref b32), .val (.int (5 : Int32)), .val (.ref s_PUBREL), .val (.int (98 : Int32)), .val (.ref s_V3)] [(.ref s_PUBREL), (.ref s_PUBREL)]))
      refine OwnR.of (fun _ hr => Jvm.RoadKit.acmp (g := (mkF m 269 #[.val (.int p1), .val (.int p2), .val (.ref b1), .val (.ref b32), .val (.int (5 : Int32)), .val (.ref s_PUBREL), .val (.int (98 : Int32)), .val (.ref s_V3)] [(.ref s_PUBREL), (.ref s_PUBREL)])) X166 hx rfl rfl rfl (pc0 := 269) (pc' := 272) (same := true) rfl (hb hby at_269) rfl (decide_eq_true rfl) (by decide) (by decide) hr) ?_
      show OwnR _ _ _ _ _ _ _ (T166.setTop (mkF m 272 #[.val (.int p1), .val (.int p2), .val (.ref b1), .val (.ref b32), .val (.int (5 : Int32)), .val (.ref s_PUBREL), .val (.int (98 : Int32)), .val (.ref s_V3)] []))
      refine OwnR.of (fun _ hr => XS.iconst X166.here hx rfl (hb hby at_272) hr) ?_
      show OwnR _ _ _ _ _ _ _ (T166.setTop (mkF m 273 #[.val (.int p1), .val (.int p2), .val (.ref b1), .val (.ref b32), .val (.int (5 : Int32)), .val (.ref s_PUBREL), .val (.int (98 : Int32)), .val (.ref s_V3)] [(.int (1 : Int32))]))
      refine OwnR.of (fun _ hr => XS.goto X166.here hx rfl (pc0 := 273) (pc' := 277) rfl (hb hby at_273) (by decide) (by decide) hr) ?_
      show OwnR _ _ _ _ _ _ _ (T166.setTop (mkF m 277 #[.val (.int p1), .val (.int p2), .val (.ref b1), .val (.ref b32), .val (.int (5 : Int32)), .val (.ref s_PUBREL), .val (.int (98 : Int32)), .val (.ref s_V3)] [(.int (1 : Int32))]))
      refine own_leafN X166 hx hlk (t := .boolean) Bd.returns (by simp) (hb hby at_277) (z' := (1 : Int32)) rfl (by decide) (by decide) ?_
      show Q0 Z  h0 n0 _ T166.heap _
      rw [show T166.heap = h47 from e166]
      refine ⟨?_, N166⟩
      show (some (.int (1 : Int32)) : Option Value) = some (.int (1 : Int32))
      rfl
    · skip
      refine OwnR.of (fun _ hr => XS.ifYes X161.here hx rfl (pc0 := 238) (pc' := 249) rfl (hb hby at_238) rfl ((if0 _ _).trans (feq hc238_163).2) (by decide) (by decide) hr) ?_
      show OwnR _ _ _ _ _ _ _ (T161.setTop (mkF m 249 #[.val (.int p1), .val (.int p2), .val (.ref b1), .val (.ref b32), .val (.int (5 : Int32)), .val (.ref s_PUBREL), .val (.int (98 : Int32)), .unset] []))
      obtain ⟨T167, X167, e167, st167⟩ := getS2 X161 hx hZ hown (host := "") (Or.inl (hw _ (List.mem_of_getElem? (i := 45) rfl))) Via.refl e161 R52 (g := (mkF m 249 #[.val (.int p1), .val (.int p2), .val (.ref b1), .val (.ref b32), .val (.int (5 : Int32)), .val (.ref s_PUBREL), .val (.int (98 : Int32)), .unset] [])) rfl (hb hby at_249)
      refine OwnR.of (st167) ?_
      show OwnR _ _ _ _ _ _ _ (T167.setTop (mkF m 252 #[.val (.int p1), .val (.int p2), .val (.ref b1), .val (.ref b32), .val (.int (5 : Int32)), .val (.ref s_PUBREL), .val (.int (98 : Int32)), .unset] [(.ref s_V5)]))
      refine OwnR.of (fun _ hr => XS.goto X167.here hx rfl (pc0 := 252) (pc' := 258) rfl (hb hby at_252) (by decide) (by decide) hr) ?_
      show OwnR _ _ _ _ _ _ _ (T167.setTop (mkF m 258 #[.val (.int p1), .val (.int p2), .val (.ref b1), .val (.ref b32), .val (.int (5 : Int32)), .val (.ref s_PUBREL), .val (.int (98 : Int32)), .unset] [(.ref s_V5)]))
      refine OwnR.of (fun _ hr => XS.astore X167.here hx rfl (hb hby at_258) rfl rfl (l' := #[.val (.int p1), .val (.int p2), .val (.ref b1), .val (.ref b32), .val (.int (5 : Int32)), .val (.ref s_PUBREL), .val (.int (98 : Int32)), .val (.ref s_V5)]) rfl hr) ?_
      show OwnR _ _ _ _ _ _ _ (T167.setTop (mkF m 260 #[.val (.int p1), .val (.int p2), .val (.ref b1), .val (.ref b32), .val (.int (5 : Int32)), .val (.ref s_PUBREL), .val (.int (98 : Int32)), .val (.ref s_V5)] []))
      refine OwnR.of (fun _ hr => XS.iload X167.here hx rfl (hb hby at_260) rfl hr) ?_
      show OwnR _ _ _ _ _ _ _ (T167.setTop (mkF m 262 #[.val (.int p1), .val (.int p2), .val (.ref b1), .val (.ref b32), .val (.int (5 : Int32)), .val (.ref s_PUBREL), .val (.int (98 : Int32)), .val (.ref s_V5)] [(.int (98 : Int32))]))
      refine OwnR.of (fun _ hr => XS.aload X167.here hx rfl (hb hby at_262) rfl rfl hr) ?_
      show OwnR _ _ _ _ _ _ _ (T167.setTop (mkF m 264 #[.val (.int p1), .val (.int p2), .val (.ref b1), .val (.ref b32), .val (.int (5 : Int32)), .val (.ref s_PUBREL), .val (.int (98 : Int32)), .val (.ref s_V5)] [(.ref s_V5), (.int (98 : Int32))]))
      obtain ⟨_, _, ⟨T168, L168, kc168, ns168⟩, -, X168, ⟨Lc168, hQ168, l168, y168, z168⟩, st168⟩ := Jvm.LawKit.callS X167 hx (y := (⟨"com/example/kurir/kurir/codec/PacketType", "of", "(ILcom/example/kurir/kurir/codec/ProtocolVersion;)Lcom/example/kurir/kurir/codec/PacketType;"⟩ : MethodName)) hown (mvT hZ (hw _ (List.mem_of_getElem? (i := 48) rfl))) (mvT hZ (hw _ (List.mem_of_getElem? (i := 49) rfl))) (mvT hZ (hw _ (List.mem_of_getElem? (i := 3) rfl))) (mvT hZ (hw _ (List.mem_of_getElem? (i := 50) rfl))) (by decide) (backOf (W := 0) (rm2_5 l Z a0 hw [] s_V5 sb kb s_CONNECT s_CONNACK s_PUBLISH s_PUBACK s_PUBREC s_PUBREL s_PUBCOMP s_SUBSCRIBE s_SUBACK s_UNSUBSCRIBE s_UNSUBACK s_PINGREQ s_PINGRESP s_DISCONNECT s_AUTH s_V3 h47 n0 (Nat.le_trans Z0 K47.1) R48 R49 R50 R51 ne_PUBREL) hZ (hw _ (List.mem_of_getElem? (i := 50) rfl)) (hw _ (List.mem_of_getElem? (i := 3) rfl)) (by decide) (by decide)) (g := (mkF m 264 #[.val (.int p1), .val (.int p2), .val (.ref b1), .val (.ref b32), .val (.int (5 : Int32)), .val (.ref s_PUBREL), .val (.int (98 : Int32)), .val (.ref s_V5)] [(.ref s_V5), (.int (98 : Int32))])) rfl (by rw [hml]; rfl) (argsL := [(.int (98 : Int32)), (.ref s_V5)]) (rest := []) (lenOf pd__ILcom_example_kurir_kurir_codec_ProtocolVersion__Lcom_example_kurir_kurir_codec_PacketType_ rfl) rfl (by show 2 * 0 + _ ≤ _; exact Nat.le_of_eq rfl) (hb hby at_264) (fun _ _ => ⟨rfl, e167, (by decide : 2 + 0 ≤ _), (by decide : 30 + 0 ≤ _)⟩)
      dsimp only [Pt.U, Pt.locs, Pt.cells, Pt.slots] at X168 l168 y168 z168 st168 hQ168
      rw [l168, y168, z168] at X168
      obtain ⟨rfl, N168q, e168⟩ := hQ168
      have N168 := Fr.app N161 N168q
      refine OwnR.of (st168) ?_
      show OwnR _ _ _ _ _ _ _ (T168.setTop (mkF m 267 #[.val (.int p1), .val (.int p2), .val (.ref b1), .val (.ref b32), .val (.int (5 : Int32)), .val (.ref s_PUBREL), .val (.int (98 : Int32)), .val (.ref s_V5)] [(.ref s_PUBREL)]))
      refine OwnR.of (fun _ hr => XS.aload X168.here hx rfl (hb hby at_267) rfl rfl hr) ?_
      show OwnR _ _ _ _ _ _ _ (T168.setTop (mkF m 269 #[.val (.int p1), .val (.int p2), .val (.ref b1), .val (.ref b32), .val (.int (5 : Int32)), .val (.ref s_PUBREL), .val (.int (98 : Int32)), .val (.ref s_V5)] [(.ref s_PUBREL), (.ref s_PUBREL)]))
      refine OwnR.of (fun _ hr => Jvm.RoadKit.acmp (g := (mkF m 269 #[.val (.int p1), .val (.int p2), .val (.ref b1), .val (.ref b32), .val (.int (5 : Int32)), .val (.ref s_PUBREL), .val (.int (98 : Int32)), .val (.ref s_V5)] [(.ref s_PUBREL), (.ref s_PUBREL)])) X168 hx rfl rfl rfl (pc0 := 269) (pc' := 272) (same := true) rfl (hb hby at_269) rfl (decide_eq_true rfl) (by decide) (by decide) hr) ?_
      show OwnR _ _ _ _ _ _ _ (T168.setTop (mkF m 272 #[.val (.int p1), .val (.int p2), .val (.ref b1), .val (.ref b32), .val (.int (5 : Int32)), .val (.ref s_PUBREL), .val (.int (98 : Int32)), .val (.ref s_V5)] []))
      refine OwnR.of (fun _ hr => XS.iconst X168.here hx rfl (hb hby at_272) hr) ?_
      show OwnR _ _ _ _ _ _ _ (T168.setTop (mkF m 273 #[.val (.int p1), .val (.int p2), .val (.ref b1), .val (.ref b32), .val (.int (5 : Int32)), .val (.ref s_PUBREL), .val (.int (98 : Int32)), .val (.ref s_V5)] [(.int (1 : Int32))]))
      refine OwnR.of (fun _ hr => XS.goto X168.here hx rfl (pc0 := 273) (pc' := 277) rfl (hb hby at_273) (by decide) (by decide) hr) ?_
      show OwnR _ _ _ _ _ _ _ (T168.setTop (mkF m 277 #[.val (.int p1), .val (.int p2), .val (.ref b1), .val (.ref b32), .val (.int (5 : Int32)), .val (.ref s_PUBREL), .val (.int (98 : Int32)), .val (.ref s_V5)] [(.int (1 : Int32))]))
      refine own_leafN X168 hx hlk (t := .boolean) Bd.returns (by simp) (hb hby at_277) (z' := (1 : Int32)) rfl (by decide) (by decide) ?_
      show Q0 Z  h0 n0 _ T168.heap _
      rw [show T168.heap = h47 from e168]
      refine ⟨?_, N168⟩
      show (some (.int (1 : Int32)) : Option Value) = some (.int (1 : Int32))
      rfl
  · skip
    show OwnR _ _ _ _ _ _ _ (T47.setTop (mkF m 211 #[.val (.int p1), .val (.int p2), .val (.ref b1), .val (.ref b32), .val (.int (6 : Int32)), .unset, .unset, .unset] []))
    refine OwnR.of (fun _ hr => XS.aloadN X47.here hx rfl (hb hby at_211) rfl rfl hr) ?_
    show OwnR _ _ _ _ _ _ _ (T47.setTop (mkF m 212 #[.val (.int p1), .val (.int p2), .val (.ref b1), .val (.ref b32), .val (.int (6 : Int32)), .unset, .unset, .unset] [(.ref b1)]))
    refine OwnR.of (fun _ hr => XS.iload X47.here hx rfl (hb hby at_212) rfl hr) ?_
    show OwnR _ _ _ _ _ _ _ (T47.setTop (mkF m 214 #[.val (.int p1), .val (.int p2), .val (.ref b1), .val (.ref b32), .val (.int (6 : Int32)), .unset, .unset, .unset] [(.int (6 : Int32)), (.ref b1)]))
    obtain ⟨cl169, Ar169, -, S169, N169, H169, G169⟩ := id R113
    have hin169 : ¬ ((6 : Int32) < 0 ∨ cl169.slots.size ≤ ((6 : Int32)).toNatClampNeg) := (inb_of S169 ⟨by decide, by decide⟩)
    refine OwnR.of (X47.aaload hx (j := (6 : Int32)) (v := (.ref s_PUBCOMP)) (by rw [e47]; exact Ar169.1) (State.isArrayOf_alike hZ.alike Ar169.2.1) rfl Ar169.2.2 hin169 (Has.at H169 hin169 rfl) (g := (mkF m 214 #[.val (.int p1), .val (.int p2), .val (.ref b1), .val (.ref b32), .val (.int (6 : Int32)), .unset, .unset, .unset] [(.int (6 : Int32)), (.ref b1)])) rfl rfl (hb hby at_214)) ?_
    show OwnR _ _ _ _ _ _ _ (T47.setTop (mkF m 215 #[.val (.int p1), .val (.int p2), .val (.ref b1), .val (.ref b32), .val (.int (6 : Int32)), .unset, .unset, .unset] [(.ref s_PUBCOMP)]))
    refine OwnR.of (fun _ hr => XS.astore X47.here hx rfl (hb hby at_215) rfl rfl (l' := #[.val (.int p1), .val (.int p2), .val (.ref b1), .val (.ref b32), .val (.int (6 : Int32)), .val (.ref s_PUBCOMP), .unset, .unset]) rfl hr) ?_
    show OwnR _ _ _ _ _ _ _ (T47.setTop (mkF m 217 #[.val (.int p1), .val (.int p2), .val (.ref b1), .val (.ref b32), .val (.int (6 : Int32)), .val (.ref s_PUBCOMP), .unset, .unset] []))
    refine OwnR.of (fun _ hr => XS.aload X47.here hx rfl (hb hby at_217) rfl rfl hr) ?_
    show OwnR _ _ _ _ _ _ _ (T47.setTop (mkF m 219 #[.val (.int p1), .val (.int p2), .val (.ref b1), .val (.ref b32), .val (.int (6 : Int32)), .val (.ref s_PUBCOMP), .unset, .unset] [(.ref s_PUBCOMP)]))
    obtain ⟨cq170, kq170, q170a, q170b, q170c⟩ := isOf hZ e47 R78
    obtain ⟨_, _, ⟨T170, L170, kc170, ns170⟩, -, X170, ⟨Lc170, hQ170, l170, y170, z170⟩, st170⟩ := X47.virtualBack hx (y := (⟨"com/example/kurir/kurir/codec/PacketType", "firstByte", "()I"⟩ : MethodName)) (z := (⟨"com/example/kurir/kurir/codec/PacketType", "firstByte", "()I"⟩ : MethodName)) hown (mvT hZ (hw _ (List.mem_of_getElem? (i := 36) rfl))) (mvT hZ (hw _ (List.mem_of_getElem? (i := 37) rfl))) (notFace_of_selects (args := #[]) (mvT hZ (hw _ (List.mem_of_getElem? (i := 39) rfl)))) (mvT hZ (hw _ (List.mem_of_getElem? (i := 39) rfl))) (mvT hZ (hw _ (List.mem_of_getElem? (i := 38) rfl))) (by decide) (backOf (W := 0) (rm1 l Z a0 hw [] s_PUBCOMP (7 : Int32) (0 : Int32) h47 n0 (Nat.le_trans Z0 K47.1) R78 R79 R80) hZ (hw _ (List.mem_of_getElem? (i := 40) rfl)) (hw _ (List.mem_of_getElem? (i := 3) rfl)) (by decide) (by decide)) q170a q170c (g := (mkF m 219 #[.val (.int p1), .val (.int p2), .val (.ref b1), .val (.ref b32), .val (.int (6 : Int32)), .val (.ref s_PUBCOMP), .unset, .unset] [(.ref s_PUBCOMP)])) rfl (by rw [hml]; rfl) (Steps.refl _) (argsL := []) (rest := []) (lenOf pd___I rfl) rfl (by show 2 * 0 + _ ≤ _; exact Nat.le_of_eq rfl) (hb hby at_219) (fun _ _ => ⟨rfl, e47, (by decide : 2 + 0 ≤ _), (by decide : 30 + 0 ≤ _)⟩)
    dsimp only [Pt.U, Pt.locs, Pt.cells, Pt.slots] at X170 l170 y170 z170 st170 hQ170
    rw [l170, y170, z170] at X170
    obtain ⟨rfl, N170q, e170⟩ := hQ170
    have N170 := Fr.app N47 N170q
    refine OwnR.of (fun _ hr => st170.trans hr) ?_
    show OwnR _ _ _ _ _ _ _ (T170.setTop (mkF m 222 #[.val (.int p1), .val (.int p2), .val (.ref b1), .val (.ref b32), .val (.int (6 : Int32)), .val (.ref s_PUBCOMP), .unset, .unset] [(.int (own_fb (7 : Int32) (0 : Int32)))]))
    rw [(by decide : (own_fb (7 : Int32) (0 : Int32)) = (112 : Int32))]
    show OwnR _ _ _ _ _ _ _ (T170.setTop (mkF m 222 #[.val (.int p1), .val (.int p2), .val (.ref b1), .val (.ref b32), .val (.int (6 : Int32)), .val (.ref s_PUBCOMP), .unset, .unset] [(.int (112 : Int32))]))
    refine OwnR.of (fun _ hr => XS.istore X170.here hx rfl (hb hby at_222) rfl (l' := #[.val (.int p1), .val (.int p2), .val (.ref b1), .val (.ref b32), .val (.int (6 : Int32)), .val (.ref s_PUBCOMP), .val (.int (112 : Int32)), .unset]) rfl hr) ?_
    show OwnR _ _ _ _ _ _ _ (T170.setTop (mkF m 224 #[.val (.int p1), .val (.int p2), .val (.ref b1), .val (.ref b32), .val (.int (6 : Int32)), .val (.ref s_PUBCOMP), .val (.int (112 : Int32)), .unset] []))
    refine OwnR.of (fun _ hr => XS.iload X170.here hx rfl (hb hby at_224) rfl hr) ?_
    show OwnR _ _ _ _ _ _ _ (T170.setTop (mkF m 226 #[.val (.int p1), .val (.int p2), .val (.ref b1), .val (.ref b32), .val (.int (6 : Int32)), .val (.ref s_PUBCOMP), .val (.int (112 : Int32)), .unset] [(.int (112 : Int32))]))
    refine OwnR.of (fun _ hr => XS.aloadN X170.here hx rfl (hb hby at_226) rfl rfl hr) ?_
    show OwnR _ _ _ _ _ _ _ (T170.setTop (mkF m 227 #[.val (.int p1), .val (.int p2), .val (.ref b1), .val (.ref b32), .val (.int (6 : Int32)), .val (.ref s_PUBCOMP), .val (.int (112 : Int32)), .unset] [(.ref b32), (.int (112 : Int32))]))
    refine OwnR.of (fun _ hr => XS.iload X170.here hx rfl (hb hby at_227) rfl hr) ?_
    show OwnR _ _ _ _ _ _ _ (T170.setTop (mkF m 229 #[.val (.int p1), .val (.int p2), .val (.ref b1), .val (.ref b32), .val (.int (6 : Int32)), .val (.ref s_PUBCOMP), .val (.int (112 : Int32)), .unset] [(.int (6 : Int32)), (.ref b32), (.int (112 : Int32))]))
    obtain ⟨cl171, Ar171, -, S171, N171, H171, G171⟩ := id V47
    have hin171 : ¬ ((6 : Int32) < 0 ∨ cl171.slots.size ≤ ((6 : Int32)).toNatClampNeg) := (inb_of S171 ⟨by decide, by decide⟩)
    refine OwnR.of (X170.iaload hx (j := (6 : Int32)) (v := (.int (112 : Int32))) (by rw [e170]; exact Ar171.1) (State.isArrayOf_alike hZ.alike Ar171.2.1) Ar171.2.2 hin171 (Has.at H171 hin171 rfl) (g := (mkF m 229 #[.val (.int p1), .val (.int p2), .val (.ref b1), .val (.ref b32), .val (.int (6 : Int32)), .val (.ref s_PUBCOMP), .val (.int (112 : Int32)), .unset] [(.int (6 : Int32)), (.ref b32), (.int (112 : Int32))])) rfl rfl (hb hby at_229)) ?_
    show OwnR _ _ _ _ _ _ _ (T170.setTop (mkF m 230 #[.val (.int p1), .val (.int p2), .val (.ref b1), .val (.ref b32), .val (.int (6 : Int32)), .val (.ref s_PUBCOMP), .val (.int (112 : Int32)), .unset] [(.int (112 : Int32)), (.int (112 : Int32))]))
    refine OwnR.of (fun _ hr => XS.icmpYes X170.here hx rfl (pc0 := 230) (pc' := 235) rfl (hb hby at_230) rfl (teq (by decide : (112 : Int32) = (112 : Int32))).1 (by decide) (by decide) hr) ?_
    show OwnR _ _ _ _ _ _ _ (T170.setTop (mkF m 235 #[.val (.int p1), .val (.int p2), .val (.ref b1), .val (.ref b32), .val (.int (6 : Int32)), .val (.ref s_PUBCOMP), .val (.int (112 : Int32)), .unset] []))
    refine OwnR.of (fun _ hr => XS.iloadN X170.here hx rfl (hb hby at_235) rfl hr) ?_
    show OwnR _ _ _ _ _ _ _ (T170.setTop (mkF m 236 #[.val (.int p1), .val (.int p2), .val (.ref b1), .val (.ref b32), .val (.int (6 : Int32)), .val (.ref s_PUBCOMP), .val (.int (112 : Int32)), .unset] [(.int p2)]))
    refine OwnR.of (fun _ hr => XS.iconst X170.here hx rfl (hb hby at_236) hr) ?_
    show OwnR _ _ _ _ _ _ _ (T170.setTop (mkF m 237 #[.val (.int p1), .val (.int p2), .val (.ref b1), .val (.ref b32), .val (.int (6 : Int32)), .val (.ref s_PUBCOMP), .val (.int (112 : Int32)), .unset] [(.int (1 : Int32)), (.int p2)]))
    refine OwnR.of (fun _ hr => XS.iand X170.here hx rfl (hb hby at_237) rfl hr) ?_
    show OwnR _ _ _ _ _ _ _ (T170.setTop (mkF m 238 #[.val (.int p1), .val (.int p2), .val (.ref b1), .val (.ref b32), .val (.int (6 : Int32)), .val (.ref s_PUBCOMP), .val (.int (112 : Int32)), .unset] [(.int (p2 &&& (1 : Int32)))]))
    by_cases hc238_172 : (p2 &&& (1 : Int32)) = (0 : Int32)
    · skip
      refine OwnR.of (fun _ hr => XS.ifNo X170.here hx rfl (hb hby at_238) rfl ((if0 _ _).trans (teq hc238_172).2) hr) ?_
      show OwnR _ _ _ _ _ _ _ (T170.setTop (mkF m 241 #[.val (.int p1), .val (.int p2), .val (.ref b1), .val (.ref b32), .val (.int (6 : Int32)), .val (.ref s_PUBCOMP), .val (.int (112 : Int32)), .unset] []))
      refine OwnR.of (fun _ hr => XS.aload X170.here hx rfl (hb hby at_241) rfl rfl hr) ?_
      show OwnR _ _ _ _ _ _ _ (T170.setTop (mkF m 243 #[.val (.int p1), .val (.int p2), .val (.ref b1), .val (.ref b32), .val (.int (6 : Int32)), .val (.ref s_PUBCOMP), .val (.int (112 : Int32)), .unset] [(.ref s_PUBCOMP)]))
      obtain ⟨T173, X173, e173, st173⟩ := getS2 X170 hx hZ hown (host := "") (Or.inl (hw _ (List.mem_of_getElem? (i := 32) rfl))) Via.refl e170 R50 (g := (mkF m 243 #[.val (.int p1), .val (.int p2), .val (.ref b1), .val (.ref b32), .val (.int (6 : Int32)), .val (.ref s_PUBCOMP), .val (.int (112 : Int32)), .unset] [(.ref s_PUBCOMP)])) rfl (hb hby at_243)
      refine OwnR.of (st173) ?_
      show OwnR _ _ _ _ _ _ _ (T173.setTop (mkF m 246 #[.val (.int p1), .val (.int p2), .val (.ref b1), .val (.ref b32), .val (.int (6 : Int32)), .val (.ref s_PUBCOMP), .val (.int (112 : Int32)), .unset] [(.ref s_AUTH), (.ref s_PUBCOMP)]))
      refine OwnR.of (fun _ hr => Jvm.RoadKit.acmp (g := (mkF m 246 #[.val (.int p1), .val (.int p2), .val (.ref b1), .val (.ref b32), .val (.int (6 : Int32)), .val (.ref s_PUBCOMP), .val (.int (112 : Int32)), .unset] [(.ref s_AUTH), (.ref s_PUBCOMP)])) X173 hx rfl rfl rfl (pc0 := 246) (pc' := 255) (same := false) rfl (hb hby at_246) rfl (decide_eq_false fun q => ne_PUBCOMP (Value.ref.inj q)) (by decide) (by decide) hr) ?_
      show OwnR _ _ _ _ _ _ _ (T173.setTop (mkF m 255 #[.val (.int p1), .val (.int p2), .val (.ref b1), .val (.ref b32), .val (.int (6 : Int32)), .val (.ref s_PUBCOMP), .val (.int (112 : Int32)), .unset] []))
      obtain ⟨T174, X174, e174, st174⟩ := getS2 X173 hx hZ hown (host := "") (Or.inl (hw _ (List.mem_of_getElem? (i := 56) rfl))) Via.refl e173 R51 (g := (mkF m 255 #[.val (.int p1), .val (.int p2), .val (.ref b1), .val (.ref b32), .val (.int (6 : Int32)), .val (.ref s_PUBCOMP), .val (.int (112 : Int32)), .unset] [])) rfl (hb hby at_255)
      refine OwnR.of (st174) ?_
      show OwnR _ _ _ _ _ _ _ (T174.setTop (mkF m 258 #[.val (.int p1), .val (.int p2), .val (.ref b1), .val (.ref b32), .val (.int (6 : Int32)), .val (.ref s_PUBCOMP), .val (.int (112 : Int32)), .unset] [(.ref s_V3)]))
      refine OwnR.of (fun _ hr => XS.astore X174.here hx rfl (hb hby at_258) rfl rfl (l' := #[.val (.int p1), .val (.int p2), .val (.ref b1), .val (.ref b32), .val (.int (6 : Int32)), .val (.ref s_PUBCOMP), .val (.int (112 : Int32)), .val (.ref s_V3)]) rfl hr) ?_
      show OwnR _ _ _ _ _ _ _ (T174.setTop (mkF m 260 #[.val (.int p1), .val (.int p2), .val (.ref b1), .val (.ref b32), .val (.int (6 : Int32)), .val (.ref s_PUBCOMP), .val (.int (112 : Int32)), .val (.ref s_V3)] []))
      refine OwnR.of (fun _ hr => XS.iload X174.here hx rfl (hb hby at_260) rfl hr) ?_
      show OwnR _ _ _ _ _ _ _ (T174.setTop (mkF m 262 #[.val (.int p1), .val (.int p2), .val (.ref b1), .val (.ref b32), .val (.int (6 : Int32)), .val (.ref s_PUBCOMP), .val (.int (112 : Int32)), .val (.ref s_V3)] [(.int (112 : Int32))]))
      refine OwnR.of (fun _ hr => XS.aload X174.here hx rfl (hb hby at_262) rfl rfl hr) ?_
      show OwnR _ _ _ _ _ _ _ (T174.setTop (mkF m 264 #[.val (.int p1), .val (.int p2), .val (.ref b1), .val (.ref b32), .val (.int (6 : Int32)), .val (.ref s_PUBCOMP), .val (.int (112 : Int32)), .val (.ref s_V3)] [(.ref s_V3), (.int (112 : Int32))]))
      obtain ⟨_, _, ⟨T175, L175, kc175, ns175⟩, -, X175, ⟨Lc175, hQ175, l175, y175, z175⟩, st175⟩ := Jvm.LawKit.callS X174 hx (y := (⟨"com/example/kurir/kurir/codec/PacketType", "of", "(ILcom/example/kurir/kurir/codec/ProtocolVersion;)Lcom/example/kurir/kurir/codec/PacketType;"⟩ : MethodName)) hown (mvT hZ (hw _ (List.mem_of_getElem? (i := 48) rfl))) (mvT hZ (hw _ (List.mem_of_getElem? (i := 49) rfl))) (mvT hZ (hw _ (List.mem_of_getElem? (i := 3) rfl))) (mvT hZ (hw _ (List.mem_of_getElem? (i := 50) rfl))) (by decide) (backOf (W := 0) (rm2_6 l Z a0 hw [] s_V3 sb kb s_CONNECT s_CONNACK s_PUBLISH s_PUBACK s_PUBREC s_PUBREL s_PUBCOMP s_SUBSCRIBE s_SUBACK s_UNSUBSCRIBE s_UNSUBACK s_PINGREQ s_PINGRESP s_DISCONNECT s_AUTH s_V3 h47 n0 (Nat.le_trans Z0 K47.1) R48 R49 R50 R51 ne_PUBCOMP) hZ (hw _ (List.mem_of_getElem? (i := 50) rfl)) (hw _ (List.mem_of_getElem? (i := 3) rfl)) (by decide) (by decide)) (g := (mkF m 264 #[.val (.int p1), .val (.int p2), .val (.ref b1), .val (.ref b32), .val (.int (6 : Int32)), .val (.ref s_PUBCOMP), .val (.int (112 : Int32)), .val (.ref s_V3)] [(.ref s_V3), (.int (112 : Int32))])) rfl (by rw [hml]; rfl) (argsL := [(.int (112 : Int32)), (.ref s_V3)]) (rest := []) (lenOf pd__ILcom_example_kurir_kurir_codec_ProtocolVersion__Lcom_example_kurir_kurir_codec_PacketType_ rfl) rfl (by show 2 * 0 + _ ≤ _; exact Nat.le_of_eq rfl) (hb hby at_264) (fun _ _ => ⟨rfl, e174, (by decide : 2 + 0 ≤ _), (by decide : 30 + 0 ≤ _)⟩)
      dsimp only [Pt.U, Pt.locs, Pt.cells, Pt.slots] at X175 l175 y175 z175 st175 hQ175
      rw [l175, y175, z175] at X175
      obtain ⟨rfl, N175q, e175⟩ := hQ175
      have N175 := Fr.app N170 N175q
      refine OwnR.of (st175) ?_
      show OwnR _ _ _ _ _ _ _ (T175.setTop (mkF m 267 #[.val (.int p1), .val (.int p2), .val (.ref b1), .val (.ref b32), .val (.int (6 : Int32)), .val (.ref s_PUBCOMP), .val (.int (112 : Int32)), .val (.ref s_V3)] [(.ref s_PUBCOMP)]))
      refine OwnR.of (fun _ hr => XS.aload X175.here hx rfl (hb hby at_267) rfl rfl hr) ?_
      show OwnR _ _ _ _ _ _ _ (T175.setTop (mkF m 269 #[.val (.int p1), .val (.int p2), .val (.ref b1), .val (.ref b32), .val (.int (6 : Int32)), .val (.ref s_PUBCOMP), .val (.int (112 : Int32)), .val (.ref s_V3)] [(.ref s_PUBCOMP), (.ref s_PUBCOMP)]))
      refine OwnR.of (fun _ hr => Jvm.RoadKit.acmp (g := (mkF m 269 #[.val (.int p1), .val (.int p2), .val (.ref b1), .val (.ref b32), .val (.int (6 : Int32)), .val (.ref s_PUBCOMP), .val (.int (112 : Int32)), .val (.ref s_V3)] [(.ref s_PUBCOMP), (.ref s_PUBCOMP)])) X175 hx rfl rfl rfl (pc0 := 269) (pc' := 272) (same := true) rfl (hb hby at_269) rfl (decide_eq_true rfl) (by decide) (by decide) hr) ?_
      show OwnR _ _ _ _ _ _ _ (T175.setTop (mkF m 272 #[.val (.int p1), .val (.int p2), .val (.ref b1), .val (.ref b32), .val (.int (6 : Int32)), .val (.ref s_PUBCOMP), .val (.int (112 : Int32)), .val (.ref s_V3)] []))
      refine OwnR.of (fun _ hr => XS.iconst X175.here hx rfl (hb hby at_272) hr) ?_
      show OwnR _ _ _ _ _ _ _ (T175.setTop (mkF m 273 #[.val (.int p1), .val (.int p2), .val (.ref b1), .val (.ref b32), .val (.int (6 : Int32)), .val (.ref s_PUBCOMP), .val (.int (112 : Int32)), .val (.ref s_V3)] [(.int (1 : Int32))]))
      refine OwnR.of (fun _ hr => XS.goto X175.here hx rfl (pc0 := 273) (pc' := 277) rfl (hb hby at_273) (by decide) (by decide) hr) ?_
      show OwnR _ _ _ _ _ _ _ (T175.setTop (mkF m 277 #[.val (.int p1), .val (.int p2), .val (.ref b1), .val (.ref b32), .val (.int (6 : Int32)), .val (.ref s_PUBCOMP), .val (.int (112 : Int32)), .val (.ref s_V3)] [(.int (1 : Int32))]))
      refine own_leafN X175 hx hlk (t := .boolean) Bd.returns (by simp) (hb hby at_277) (z' := (1 : Int32)) rfl (by decide) (by decide) ?_
      show Q0 Z  h0 n0 _ T175.heap _
      rw [show T175.heap = h47 from e175]
      refine ⟨?_, N175⟩
      show (some (.int (1 : Int32)) : Option Value) = some (.int (1 : Int32))
      rfl
    · skip
      refine OwnR.of (fun _ hr => XS.ifYes X170.here hx rfl (pc0 := 238) (pc' := 249) rfl (hb hby at_238) rfl ((if0 _ _).trans (feq hc238_172).2) (by decide) (by decide) hr) ?_
      show OwnR _ _ _ _ _ _ _ (T170.setTop (mkF m 249 #[.val (.int p1), .val (.int p2), .val (.ref b1), .val (.ref b32), .val (.int (6 : Int32)), .val (.ref s_PUBCOMP), .val (.int (112 : Int32)), .unset] []))
      obtain ⟨T176, X176, e176, st176⟩ := getS2 X170 hx hZ hown (host := "") (Or.inl (hw _ (List.mem_of_getElem? (i := 45) rfl))) Via.refl e170 R52 (g := (mkF m 249 #[.val (.int p1), .val (.int p2), .val (.ref b1), .val (.ref b32), .val (.int (6 : Int32)), .val (.ref s_PUBCOMP), .val (.int (112 : Int32)), .unset] [])) rfl (hb hby at_249)
      refine OwnR.of (st176) ?_
      show OwnR _ _ _ _ _ _ _ (T176.setTop (mkF m 252 #[.val (.int p1), .val (.int p2), .val (.ref b1), .val (.ref b32), .val (.int (6 : Int32)), .val (.ref s_PUBCOMP), .val (.int (112 : Int32)), .unset] [(.ref s_V5)]))
      refine OwnR.of (fun _ hr => XS.goto X176.here hx rfl (pc0 := 252) (pc' := 258) rfl (hb hby at_252) (by decide) (by decide) hr) ?_
      show OwnR _ _ _ _ _ _ _ (T176.setTop (mkF m 258 #[.val (.int p1), .val (.int p2), .val (.ref b1), .val (.ref b32), .val (.int (6 : Int32)), .val (.ref s_PUBCOMP), .val (.int (112 : Int32)), .unset] [(.ref s_V5)]))
      refine OwnR.of (fun _ hr => XS.astore X176.here hx rfl (hb hby at_258) rfl rfl (l' := #[.val (.int p1), .val (.int p2), .val (.ref b1), .val (.ref b32), .val (.int (6 : Int32)), .val (.ref s_PUBCOMP), .val (.int (112 : Int32)), .val (.ref s_V5)]) rfl hr) ?_
      show OwnR _ _ _ _ _ _ _ (T176.setTop (mkF m 260 #[.val (.int p1), .val (.int p2), .val (.ref b1), .val (.ref b32), .val (.int (6 : Int32)), .val (.ref s_PUBCOMP), .val (.int (112 : Int32)), .val (.ref s_V5)] []))
      refine OwnR.of (fun _ hr => XS.iload X176.here hx rfl (hb hby at_260) rfl hr) ?_
      show OwnR _ _ _ _ _ _ _ (T176.setTop (mkF m 262 #[.val (.int p1), .val (.int p2), .val (.ref b1), .val (.ref b32), .val (.int (6 : Int32)), .val (.ref s_PUBCOMP), .val (.int (112 : Int32)), .val (.ref s_V5)] [(.int (112 : Int32))]))
      refine OwnR.of (fun _ hr => XS.aload X176.here hx rfl (hb hby at_262) rfl rfl hr) ?_
      show OwnR _ _ _ _ _ _ _ (T176.setTop (mkF m 264 #[.val (.int p1), .val (.int p2), .val (.ref b1), .val (.ref b32), .val (.int (6 : Int32)), .val (.ref s_PUBCOMP), .val (.int (112 : Int32)), .val (.ref s_V5)] [(.ref s_V5), (.int (112 : Int32))]))
      obtain ⟨_, _, ⟨T177, L177, kc177, ns177⟩, -, X177, ⟨Lc177, hQ177, l177, y177, z177⟩, st177⟩ := Jvm.LawKit.callS X176 hx (y := (⟨"com/example/kurir/kurir/codec/PacketType", "of", "(ILcom/example/kurir/kurir/codec/ProtocolVersion;)Lcom/example/kurir/kurir/codec/PacketType;"⟩ : MethodName)) hown (mvT hZ (hw _ (List.mem_of_getElem? (i := 48) rfl))) (mvT hZ (hw _ (List.mem_of_getElem? (i := 49) rfl))) (mvT hZ (hw _ (List.mem_of_getElem? (i := 3) rfl))) (mvT hZ (hw _ (List.mem_of_getElem? (i := 50) rfl))) (by decide) (backOf (W := 0) (rm2_6 l Z a0 hw [] s_V5 sb kb s_CONNECT s_CONNACK s_PUBLISH s_PUBACK s_PUBREC s_PUBREL s_PUBCOMP s_SUBSCRIBE s_SUBACK s_UNSUBSCRIBE s_UNSUBACK s_PINGREQ s_PINGRESP s_DISCONNECT s_AUTH s_V3 h47 n0 (Nat.le_trans Z0 K47.1) R48 R49 R50 R51 ne_PUBCOMP) hZ (hw _ (List.mem_of_getElem? (i := 50) rfl)) (hw _ (List.mem_of_getElem? (i := 3) rfl)) (by decide) (by decide)) (g := (mkF m 264 #[.val (.int p1), .val (.int p2), .val (.ref b1), .val (.ref b32), .val (.int (6 : Int32)), .val (.ref s_PUBCOMP), .val (.int (112 : Int32)), .val (.ref s_V5)] [(.ref s_V5), (.int (112 : Int32))])) rfl (by rw [hml]; rfl) (argsL := [(.int (112 : Int32)), (.ref s_V5)]) (rest := []) (lenOf pd__ILcom_example_kurir_kurir_codec_ProtocolVersion__Lcom_example_kurir_kurir_codec_PacketType_ rfl) rfl (by show 2 * 0 + _ ≤ _; exact Nat.le_of_eq rfl) (hb hby at_264) (fun _ _ => ⟨rfl, e176, (by decide : 2 + 0 ≤ _), (by decide : 30 + 0 ≤ _)⟩)
      dsimp only [Pt.U, Pt.locs, Pt.cells, Pt.slots] at X177 l177 y177 z177 st177 hQ177
      rw [l177, y177, z177] at X177
      obtain ⟨rfl, N177q, e177⟩ := hQ177
      have N177 := Fr.app N170 N177q
      refine OwnR.of (st177) ?_
      show OwnR _ _ _ _ _ _ _ (T177.setTop (mkF m 267 #[.val (.int p1), .val (.int p2), .val (.ref b1), .val (.ref b32), .val (.int (6 : Int32)), .val (.ref s_PUBCOMP), .val (.int (112 : Int32)), .val (.ref s_V5)] [(.ref s_PUBCOMP)]))
      refine OwnR.of (fun _ hr => XS.aload X177.here hx rfl (hb hby at_267) rfl rfl hr) ?_
      show OwnR _ _ _ _ _ _ _ (T177.setTop (mkF m 269 #[.val (.int p1), .val (.int p2), .val (.ref b1), .val (.ref b32), .val (.int (6 : Int32)), .val (.ref s_PUBCOMP), .val (.int (112 : Int32)), .val (.ref s_V5)] [(.ref s_PUBCOMP), (.ref s_PUBCOMP)]))
      refine OwnR.of (fun _ hr => Jvm.RoadKit.acmp (g := (mkF m 269 #[.val (.int p1), .val (.int p2), .val (.ref b1), .val (.ref b32), .val (.int (6 : Int32)), .val (.ref s_PUBCOMP), .val (.int (112 : Int32)), .val (.ref s_V5)] [(.ref s_PUBCOMP), (.ref s_PUBCOMP)])) X177 hx rfl rfl rfl (pc0 := 269) (pc' := 272) (same := true) rfl (hb hby at_269) rfl (decide_eq_true rfl) (by decide) (by decide) hr) ?_
      show OwnR _ _ _ _ _ _ _ (T177.setTop (mkF m 272 #[.val (.int p1), .val (.int p2), .val (.ref b1), .val (.ref b32), .val (.int (6 : Int32)), .val (.ref s_PUBCOMP), .val (.int (112 : Int32)), .val (.ref s_V5)] []))
      refine OwnR.of (fun _ hr => XS.iconst X177.here hx rfl (hb hby at_272) hr) ?_
      show OwnR _ _ _ _ _ _ _ (T177.setTop (mkF m 273 #[.val (.int p1), .val (.int p2), .val (.ref b1), .val (.ref b32), .val (.int (6 : Int32)), .val (.ref s_PUBCOMP), .val (.int (112 : Int32)), .val (.ref s_V5)] [(.int (1 : Int32))]))
      refine OwnR.of (fun _ hr => XS.goto X177.here hx rfl (pc0 := 273) (pc' := 277) rfl (hb hby at_273) (by decide) (by decide) hr) ?_
      show OwnR _ _ _ _ _ _ _ (T177.setTop (mkF m 277 #[.val (.int p1), .val (.int p2), .val (.ref b1), .val (.ref b32), .val (.int (6 : Int32)), .val (.ref s_PUBCOMP), .val (.int (112 : Int32)), .val (.ref s_V5)] [(.int (1 : Int32))]))
      refine own_leafN X177 hx hlk (t := .boolean) Bd.returns (by simp) (hb hby at_277) (z' := (1 : Int32)) rfl (by decide) (by decide) ?_
      show Q0 Z  h0 n0 _ T177.heap _
      rw [show T177.heap = h47 from e177]
      refine ⟨?_, N177⟩
      show (some (.int (1 : Int32)) : Option Value) = some (.int (1 : Int32))
      rfl
  · skip
    show OwnR _ _ _ _ _ _ _ (T47.setTop (mkF m 211 #[.val (.int p1), .val (.int p2), .val (.ref b1), .val (.ref b32), .val (.int (7 : Int32)), .unset, .unset, .unset] []))
    refine OwnR.of (fun _ hr => XS.aloadN X47.here hx rfl (hb hby at_211) rfl rfl hr) ?_
    show OwnR _ _ _ _ _ _ _ (T47.setTop (mkF m 212 #[.val (.int p1), .val (.int p2), .val (.ref b1), .val (.ref b32), .val (.int (7 : Int32)), .unset, .unset, .unset] [(.ref b1)]))
    refine OwnR.of (fun _ hr => XS.iload X47.here hx rfl (hb hby at_212) rfl hr) ?_
    show OwnR _ _ _ _ _ _ _ (T47.setTop (mkF m 214 #[.val (.int p1), .val (.int p2), .val (.ref b1), .val (.ref b32), .val (.int (7 : Int32)), .unset, .unset, .unset] [(.int (7 : Int32)), (.ref b1)]))
    obtain ⟨cl178, Ar178, -, S178, N178, H178, G178⟩ := id R113
    have hin178 : ¬ ((7 : Int32) < 0 ∨ cl178.slots.size ≤ ((7 : Int32)).toNatClampNeg) := (inb_of S178 ⟨by decide, by decide⟩)
    refine OwnR.of (X47.aaload hx (j := (7 : Int32)) (v := (.ref s_SUBSCRIBE)) (by rw [e47]; exact Ar178.1) (State.isArrayOf_alike hZ.alike Ar178.2.1) rfl Ar178.2.2 hin178 (Has.at H178 hin178 rfl) (g := (mkF m 214 #[.val (.int p1), .val (.int p2), .val (.ref b1), .val (.ref b32), .val (.int (7 : Int32)), .unset, .unset, .unset] [(.int (7 : Int32)), (.ref b1)])) rfl rfl (hb hby at_214)) ?_
    show OwnR _ _ _ _ _ _ _ (T47.setTop (mkF m 215 #[.val (.int p1), .val (.int p2), .val (.ref b1), .val (.ref b32), .val (.int (7 : Int32)), .unset, .unset, .unset] [(.ref s_SUBSCRIBE)]))
    refine OwnR.of (fun _ hr => XS.astore X47.here hx rfl (hb hby at_215) rfl rfl (l' := #[.val (.int p1), .val (.int p2), .val (.ref b1), .val (.ref b32), .val (.int (7 : Int32)), .val (.ref s_SUBSCRIBE), .unset, .unset]) rfl hr) ?_
    show OwnR _ _ _ _ _ _ _ (T47.setTop (mkF m 217 #[.val (.int p1), .val (.int p2), .val (.ref b1), .val (.ref b32), .val (.int (7 : Int32)), .val (.ref s_SUBSCRIBE), .unset, .unset] []))
    refine OwnR.of (fun _ hr => XS.aload X47.here hx rfl (hb hby at_217) rfl rfl hr) ?_
    show OwnR _ _ _ _ _ _ _ (T47.setTop (mkF m 219 #[.val (.int p1), .val (.int p2), .val (.ref b1), .val (.ref b32), .val (.int (7 : Int32)), .val (.ref s_SUBSCRIBE), .unset, .unset] [(.ref s_SUBSCRIBE)]))
    obtain ⟨cq179, kq179, q179a, q179b, q179c⟩ := isOf hZ e47 R82
    obtain ⟨_, _, ⟨T179, L179, kc179, ns179⟩, -, X179, ⟨Lc179, hQ179, l179, y179, z179⟩, st179⟩ := X47.virtualBack hx (y := (⟨"com/example/kurir/kurir/codec/PacketType", "firstByte", "()I"⟩ : MethodName)) (z := (⟨"com/example/kurir/kurir/codec/PacketType", "firstByte", "()I"⟩ : MethodName)) hown (mvT hZ (hw _ (List.mem_of_getElem? (i := 36) rfl))) (mvT hZ (hw _ (List.mem_of_getElem? (i := 37) rfl))) (notFace_of_selects (args := #[]) (mvT hZ (hw _ (List.mem_of_getElem? (i := 39) rfl)))) (mvT hZ (hw _ (List.mem_of_getElem? (i := 39) rfl))) (mvT hZ (hw _ (List.mem_of_getElem? (i := 38) rfl))) (by decide) (backOf (W := 0) (rm1 l Z a0 hw [] s_SUBSCRIBE (8 : Int32) (2 : Int32) h47 n0 (Nat.le_trans Z0 K47.1) R82 R83 R84) hZ (hw _ (List.mem_of_getElem? (i := 40) rfl)) (hw _ (List.mem_of_getElem? (i := 3) rfl)) (by decide) (by decide)) q179a q179c (g := (mkF m 219 #[.val (.int p1), .val (.int p2), .val (.ref b1), .val (.ref b32), .val (.int (7 : Int32)), .val (.ref s_SUBSCRIBE), .unset, .unset] [(.ref s_SUBSCRIBE)])) rfl (by rw [hml]; rfl) (Steps.refl _) (argsL := []) (rest := []) (lenOf pd___I rfl) rfl (by show 2 * 0 + _ ≤ _; exact Nat.le_of_eq rfl) (hb hby at_219) (fun _ _ => ⟨rfl, e47, (by decide : 2 + 0 ≤ _), (by decide : 30 + 0 ≤ _)⟩)
    dsimp only [Pt.U, Pt.locs, Pt.cells, Pt.slots] at X179 l179 y179 z179 st179 hQ179
    rw [l179, y179, z179] at X179
    obtain ⟨rfl, N179q, e179⟩ := hQ179
    have N179 := Fr.app N47 N179q
    refine OwnR.of (fun _ hr => st179.trans hr) ?_
    show OwnR _ _ _ _ _ _ _ (T179.setTop (mkF m 222 #[.val (.int p1), .val (.int p2), .val (.ref b1), .val (.ref b32), .val (.int (7 : Int32)), .val (.ref s_SUBSCRIBE), .unset, .unset] [(.int (own_fb (8 : Int32) (2 : Int32)))]))
    rw [(by decide : (own_fb (8 : Int32) (2 : Int32)) = (130 : Int32))]
    show OwnR _ _ _ _ _ _ _ (T179.setTop (mkF m 222 #[.val (.int p1), .val (.int p2), .val (.ref b1), .val (.ref b32), .val (.int (7 : Int32)), .val (.ref s_SUBSCRIBE), .unset, .unset] [(.int (130 : Int32))]))
    refine OwnR.of (fun _ hr => XS.istore X179.here hx rfl (hb hby at_222) rfl (l' := #[.val (.int p1), .val (.int p2), .val (.ref b1), .val (.ref b32), .val (.int (7 : Int32)), .val (.ref s_SUBSCRIBE), .val (.int (130 : Int32)), .unset]) rfl hr) ?_
    show OwnR _ _ _ _ _ _ _ (T179.setTop (mkF m 224 #[.val (.int p1), .val (.int p2), .val (.ref b1), .val (.ref b32), .val (.int (7 : Int32)), .val (.ref s_SUBSCRIBE), .val (.int (130 : Int32)), .unset] []))
    refine OwnR.of (fun _ hr => XS.iload X179.here hx rfl (hb hby at_224) rfl hr) ?_
    show OwnR _ _ _ _ _ _ _ (T179.setTop (mkF m 226 #[.val (.int p1), .val (.int p2), .val (.ref b1), .val (.ref b32), .val (.int (7 : Int32)), .val (.ref s_SUBSCRIBE), .val (.int (130 : Int32)), .unset] [(.int (130 : Int32))]))
    refine OwnR.of (fun _ hr => XS.aloadN X179.here hx rfl (hb hby at_226) rfl rfl hr) ?_
    show OwnR _ _ _ _ _ _ _ (T179.setTop (mkF m 227 #[.val (.int p1), .val (.int p2), .val (.ref b1), .val (.ref b32), .val (.int (7 : Int32)), .val (.ref s_SUBSCRIBE), .val (.int (130 : Int32)), .unset] [(.ref b32), (.int (130 : Int32))]))
    refine OwnR.of (fun _ hr => XS.iload X179.here hx rfl (hb hby at_227) rfl hr) ?_
    show OwnR _ _ _ _ _ _ _ (T179.setTop (mkF m 229 #[.val (.int p1), .val (.int p2), .val (.ref b1), .val (.ref b32), .val (.int (7 : Int32)), .val (.ref s_SUBSCRIBE), .val (.int (130 : Int32)), .unset] [(.int (7 : Int32)), (.ref b32), (.int (130 : Int32))]))
    obtain ⟨cl180, Ar180, -, S180, N180, H180, G180⟩ := id V47
    have hin180 : ¬ ((7 : Int32) < 0 ∨ cl180.slots.size ≤ ((7 : Int32)).toNatClampNeg) := (inb_of S180 ⟨by decide, by decide⟩)
    refine OwnR.of (X179.iaload hx (j := (7 : Int32)) (v := (.int (130 : Int32))) (by rw [e179]; exact Ar180.1) (State.isArrayOf_alike hZ.alike Ar180.2.1) Ar180.2.2 hin180 (Has.at H180 hin180 rfl) (g := (mkF m 229 #[.val (.int p1), .val (.int p2), .val (.ref b1), .val (.ref b32), .val (.int (7 : Int32)), .val (.ref s_SUBSCRIBE), .val (.int (130 : Int32)), .unset] [(.int (7 : Int32)), (.ref b32), (.int (130 : Int32))])) rfl rfl (hb hby at_229)) ?_
    show OwnR _ _ _ _ _ _ _ (T179.setTop (mkF m 230 #[.val (.int p1), .val (.int p2), .val (.ref b1), .val (.ref b32), .val (.int (7 : Int32)), .val (.ref s_SUBSCRIBE), .val (.int (130 : Int32)), .unset] [(.int (130 : Int32)), (.int (130 : Int32))]))
    refine OwnR.of (fun _ hr => XS.icmpYes X179.here hx rfl (pc0 := 230) (pc' := 235) rfl (hb hby at_230) rfl (teq (by decide : (130 : Int32) = (130 : Int32))).1 (by decide) (by decide) hr) ?_
    show OwnR _ _ _ _ _ _ _ (T179.setTop (mkF m 235 #[.val (.int p1), .val (.int p2), .val (.ref b1), .val (.ref b32), .val (.int (7 : Int32)), .val (.ref s_SUBSCRIBE), .val (.int (130 : Int32)), .unset] []))
    refine OwnR.of (fun _ hr => XS.iloadN X179.here hx rfl (hb hby at_235) rfl hr) ?_
    show OwnR _ _ _ _ _ _ _ (T179.setTop (mkF m 236 #[.val (.int p1), .val (.int p2), .val (.ref b1), .val (.ref b32), .val (.int (7 : Int32)), .val (.ref s_SUBSCRIBE), .val (.int (130 : Int32)), .unset] [(.int p2)]))
    refine OwnR.of (fun _ hr => XS.iconst X179.here hx rfl (hb hby at_236) hr) ?_
    show OwnR _ _ _ _ _ _ _ (T179.setTop (mkF m 237 #[.val (.int p1), .val (.int p2), .val (.ref b1), .val (.ref b32), .val (.int (7 : Int32)), .val (.ref s_SUBSCRIBE), .val (.int (130 : Int32)), .unset] [(.int (1 : Int32)), (.int p2)]))
    refine OwnR.of (fun _ hr => XS.iand X179.here hx rfl (hb hby at_237) rfl hr) ?_
    show OwnR _ _ _ _ _ _ _ (T179.setTop (mkF m 238 #[.val (.int p1), .val (.int p2), .val (.ref b1), .val (.ref b32), .val (.int (7 : Int32)), .val (.ref s_SUBSCRIBE), .val (.int (130 : Int32)), .unset] [(.int (p2 &&& (1 : Int32)))]))
    by_cases hc238_181 : (p2 &&& (1 : Int32)) = (0 : Int32)
    · skip
      refine OwnR.of (fun _ hr => XS.ifNo X179.here hx rfl (hb hby at_238) rfl ((if0 _ _).trans (teq hc238_181).2) hr) ?_
      show OwnR _ _ _ _ _ _ _ (T179.setTop (mkF m 241 #[.val (.int p1), .val (.int p2), .val (.ref b1), .val (.ref b32), .val (.int (7 : Int32)), .val (.ref s_SUBSCRIBE), .val (.int (130 : Int32)), .unset] []))
      refine OwnR.of (fun _ hr => XS.aload X179.here hx rfl (hb hby at_241) rfl rfl hr) ?_
      show OwnR _ _ _ _ _ _ _ (T179.setTop (mkF m 243 #[.val (.int p1), .val (.int p2), .val (.ref b1), .val (.ref b32), .val (.int (7 : Int32)), .val (.ref s_SUBSCRIBE), .val (.int (130 : Int32)), .unset] [(.ref s_SUBSCRIBE)]))
      obtain ⟨T182, X182, e182, st182⟩ := getS2 X179 hx hZ hown (host := "") (Or.inl (hw _ (List.mem_of_getElem? (i := 32) rfl))) Via.refl e179 R50 (g := (mkF m 243 #[.val (.int p1), .val (.int p2), .val (.ref b1), .val (.ref b32), .val (.int (7 : Int32)), .val (.ref s_SUBSCRIBE), .val (.int (130 : Int32)), .unset] [(.ref s_SUBSCRIBE)])) rfl (hb hby at_243)
      refine OwnR.of (st182) ?_
      show OwnR _ _ _ _ _ _ _ (T182.setTop (mkF m 246 #[.val (.int p1), .val (.int p2), .val (.ref b1), .val (.ref b32), .val (.int (7 : Int32)), .val (.ref s_SUBSCRIBE), .val (.int (130 : Int32)), .unset] [(.ref s_AUTH), (.ref s_SUBSCRIBE)]))
      refine OwnR.of (fun _ hr => Jvm.RoadKit.acmp (g := (mkF m 246 #[.val (.int p1), .val (.int p2), .val (.ref b1), .val (.ref b32), .val (.int (7 : Int32)), .val (.ref s_SUBSCRIBE), .val (.int (130 : Int32)), .unset] [(.ref s_AUTH), (.ref s_SUBSCRIBE)])) X182 hx rfl rfl rfl (pc0 := 246) (pc' := 255) (same := false) rfl (hb hby at_246) rfl (decide_eq_false fun q => ne_SUBSCRIBE (Value.ref.inj q)) (by decide) (by decide) hr) ?_
      show OwnR _ _ _ _ _ _ _ (T182.setTop (mkF m 255 #[.val (.int p1), .val (.int p2), .val (.ref b1), .val (.ref b32), .val (.int (7 : Int32)), .val (.ref s_SUBSCRIBE), .val (.int (130 : Int32)), .unset] []))
      obtain ⟨T183, X183, e183, st183⟩ := getS2 X182 hx hZ hown (host := "") (Or.inl (hw _ (List.mem_of_getElem? (i := 56) rfl))) Via.refl e182 R51 (g := (mkF m 255 #[.val (.int p1), .val (.int p2), .val (.ref b1), .val (.ref b32), .val (.int (7 : Int32)), .val (.ref s_SUBSCRIBE), .val (.int (130 : Int32)), .unset] [])) rfl (hb hby at_255)
      refine OwnR.of (st183) ?_
      show OwnR _ _ _ _ _ _ _ (T183.setTop (mkF m 258 #[.val (.int p1), .val (.int p2), .val (.ref b1), .val (.ref b32), .val (.int (7 : Int32)), .val (.ref s_SUBSCRIBE), .val (.int (130 : Int32)), .unset] [(.ref s_V3)]))
      refine OwnR.of (fun _ hr => XS.astore X183.here hx rfl (hb hby at_258) rfl rfl (l' := #[.val (.int p1), .val (.int p2), .val (.ref b1), .val (.ref b32), .val (.int (7 : Int32)), .val (.ref s_SUBSCRIBE), .val (.int (130 : Int32)), .val (.ref s_V3)]) rfl hr) ?_
      show OwnR _ _ _ _ _ _ _ (T183.setTop (mkF m 260 #[.val (.int p1), .val (.int p2), .val (.ref b1), .val (.ref b32), .val (.int (7 : Int32)), .val (.ref s_SUBSCRIBE), .val (.int (130 : Int32)), .val (.ref s_V3)] []))
      refine OwnR.of (fun _ hr => XS.iload X183.here hx rfl (hb hby at_260) rfl hr) ?_
      show OwnR _ _ _ _ _ _ _ (T183.setTop (mkF m 262 #[.val (.int p1), .val (.int p2), .val (.ref b1), .val (.ref b32), .val (.int (7 : Int32)), .val (.ref s_SUBSCRIBE), .val (.int (130 : Int32)), .val (.ref s_V3)] [(.int (130 : Int32))]))
      refine OwnR.of (fun _ hr => XS.aload X183.here hx rfl (hb hby at_262) rfl rfl hr) ?_
      show OwnR _ _ _ _ _ _ _ (T183.setTop (mkF m 264 #[.val (.int p1), .val (.int p2), .val (.ref b1), .val (.ref b32), .val (.int (7 : Int32)), .val (.ref s_SUBSCRIBE), .val (.int (130 : Int32)), .val (.ref s_V3)] [(.ref s_V3), (.int (130 : Int32))]))
      obtain ⟨_, _, ⟨T184, L184, kc184, ns184⟩, -, X184, ⟨Lc184, hQ184, l184, y184, z184⟩, st184⟩ := Jvm.LawKit.callS X183 hx (y := (⟨"com/example/kurir/kurir/codec/PacketType", "of", "(ILcom/example/kurir/kurir/codec/ProtocolVersion;)Lcom/example/kurir/kurir/codec/PacketType;"⟩ : MethodName)) hown (mvT hZ (hw _ (List.mem_of_getElem? (i := 48) rfl))) (mvT hZ (hw _ (List.mem_of_getElem? (i := 49) rfl))) (mvT hZ (hw _ (List.mem_of_getElem? (i := 3) rfl))) (mvT hZ (hw _ (List.mem_of_getElem? (i := 50) rfl))) (by decide) (backOf (W := 0) (rm2_7 l Z a0 hw [] s_V3 sb kb s_CONNECT s_CONNACK s_PUBLISH s_PUBACK s_PUBREC s_PUBREL s_PUBCOMP s_SUBSCRIBE s_SUBACK s_UNSUBSCRIBE s_UNSUBACK s_PINGREQ s_PINGRESP s_DISCONNECT s_AUTH s_V3 h47 n0 (Nat.le_trans Z0 K47.1) R48 R49 R50 R51 ne_SUBSCRIBE) hZ (hw _ (List.mem_of_getElem? (i := 50) rfl)) (hw _ (List.mem_of_getElem? (i := 3) rfl)) (by decide) (by decide)) (g := (mkF m 264 #[.val (.int p1), .val (.int p2), .val (.ref b1), .val (.ref b32), .val (.int (7 : Int32)), .val (.ref s_SUBSCRIBE), .val (.int (130 : Int32)), .val (.ref s_V3)] [(.ref s_V3), (.int (130 : Int32))])) rfl (by rw [hml]; rfl) (argsL := [(.int (130 : Int32)), (.ref s_V3)]) (rest := []) (lenOf pd__ILcom_example_kurir_kurir_codec_ProtocolVersion__Lcom_example_kurir_kurir_codec_PacketType_ rfl) rfl (by show 2 * 0 + _ ≤ _; exact Nat.le_of_eq rfl) (hb hby at_264) (fun _ _ => ⟨rfl, e183, (by decide : 2 + 0 ≤ _), (by decide : 30 + 0 ≤ _)⟩)
      dsimp only [Pt.U, Pt.locs, Pt.cells, Pt.slots] at X184 l184 y184 z184 st184 hQ184
      rw [l184, y184, z184] at X184
      obtain ⟨rfl, N184q, e184⟩ := hQ184
      have N184 := Fr.app N179 N184q
      refine OwnR.of (st184) ?_
      show OwnR _ _ _ _ _ _ _ (T184.setTop (mkF m 267 #[.val (.int p1), .val (.int p2), .val (.ref b1), .val (.ref b32), .val (.int (7 : Int32)), .val (.ref s_SUBSCRIBE), .val (.int (130 : Int32)), .val (.ref s_V3)] [(.ref s_SUBSCRIBE)]))
      refine OwnR.of (fun _ hr => XS.aload X184.here hx rfl (hb hby at_267) rfl rfl hr) ?_
      show OwnR _ _ _ _ _ _ _ (T184.setTop (mkF m 269 #[.val (.int p1), .val (.int p2), .val (.ref b1), .val (.ref b32), .val (.int (7 : Int32)), .val (.ref s_SUBSCRIBE), .val (.int (130 : Int32)), .val (.ref s_V3)] [(.ref s_SUBSCRIBE), (.ref s_SUBSCRIBE)]))
      refine OwnR.of (fun _ hr => Jvm.RoadKit.acmp (g := (mkF m 269 #[.val (.int p1), .val (.int p2), .val (.ref b1), .val (.ref b32), .val (.int (7 : Int32)), .val (.ref s_SUBSCRIBE), .val (.int (130 : Int32)), .val (.ref s_V3)] [(.ref s_SUBSCRIBE), (.ref s_SUBSCRIBE)])) X184 hx rfl rfl rfl (pc0 := 269) (pc' := 272) (same := true) rfl (hb hby at_269) rfl (decide_eq_true rfl) (by decide) (by decide) hr) ?_
      show OwnR _ _ _ _ _ _ _ (T184.setTop (mkF m 272 #[.val (.int p1), .val (.int p2), .val (.ref b1), .val (.ref b32), .val (.int (7 : Int32)), .val (.ref s_SUBSCRIBE), .val (.int (130 : Int32)), .val (.ref s_V3)] []))
      refine OwnR.of (fun _ hr => XS.iconst X184.here hx rfl (hb hby at_272) hr) ?_
      show OwnR _ _ _ _ _ _ _ (T184.setTop (mkF m 273 #[.val (.int p1), .val (.int p2), .val (.ref b1), .val (.ref b32), .val (.int (7 : Int32)), .val (.ref s_SUBSCRIBE), .val (.int (130 : Int32)), .val (.ref s_V3)] [(.int (1 : Int32))]))
      refine OwnR.of (fun _ hr => XS.goto X184.here hx rfl (pc0 := 273) (pc' := 277) rfl (hb hby at_273) (by decide) (by decide) hr) ?_
      show OwnR _ _ _ _ _ _ _ (T184.setTop (mkF m 277 #[.val (.int p1), .val (.int p2), .val (.ref b1), .val (.ref b32), .val (.int (7 : Int32)), .val (.ref s_SUBSCRIBE), .val (.int (130 : Int32)), .val (.ref s_V3)] [(.int (1 : Int32))]))
      refine own_leafN X184 hx hlk (t := .boolean) Bd.returns (by simp) (hb hby at_277) (z' := (1 : Int32)) rfl (by decide) (by decide) ?_
      show Q0 Z  h0 n0 _ T184.heap _
      rw [show T184.heap = h47 from e184]
      refine ⟨?_, N184⟩
      show (some (.int (1 : Int32)) : Option Value) = some (.int (1 : Int32))
      rfl
    · skip
      refine OwnR.of (fun _ hr => XS.ifYes X179.here hx rfl (pc0 := 238) (pc' := 249) rfl (hb hby at_238) rfl ((if0 _ _).trans (feq hc238_181).2) (by decide) (by decide) hr) ?_
      show OwnR _ _ _ _ _ _ _ (T179.setTop (mkF m 249 #[.val (.int p1), .val (.int p2), .val (.ref b1), .val (.ref b32), .val (.int (7 : Int32)), .val (.ref s_SUBSCRIBE), .val (.int (130 : Int32)), .unset] []))
      obtain ⟨T185, X185, e185, st185⟩ := getS2 X179 hx hZ hown (host := "") (Or.inl (hw _ (List.mem_of_getElem? (i := 45) rfl))) Via.refl e179 R52 (g := (mkF m 249 #[.val (.int p1), .val (.int p2), .val (.ref b1), .val (.ref b32), .val (.int (7 : Int32)), .val (.ref s_SUBSCRIBE), .val (.int (130 : Int32)), .unset] [])) rfl (hb hby at_249)
      refine OwnR.of (st185) ?_
      show OwnR _ _ _ _ _ _ _ (T185.setTop (mkF m 252 #[.val (.int p1), .val (.int p2), .val (.ref b1), .val (.ref b32), .val (.int (7 : Int32)), .val (.ref s_SUBSCRIBE), .val (.int (130 : Int32)), .unset] [(.ref s_V5)]))
      refine OwnR.of (fun _ hr => XS.goto X185.here hx rfl (pc0 := 252) (pc' := 258) rfl (hb hby at_252) (by decide) (by decide) hr) ?_
      show OwnR _ _ _ _ _ _ _ (T185.setTop (mkF m 258 #[.val (.int p1), .val (.int p2), .val (.ref b1), .val (.ref b32), .val (.int (7 : Int32)), .val (.ref s_SUBSCRIBE), .val (.int (130 : Int32)), .unset] [(.ref s_V5)]))
      refine OwnR.of (fun _ hr => XS.astore X185.here hx rfl (hb hby at_258) rfl rfl (l' := #[.val (.int p1), .val (.int p2), .val (.ref b1), .val (.ref b32), .val (.int (7 : Int32)), .val (.ref s_SUBSCRIBE), .val (.int (130 : Int32)), .val (.ref s_V5)]) rfl hr) ?_
      show OwnR _ _ _ _ _ _ _ (T185.setTop (mkF m 260 #[.val (.int p1), .val (.int p2), .val (.ref b1), .val (.ref b32), .val (.int (7 : Int32)), .val (.ref s_SUBSCRIBE), .val (.int (130 : Int32)), .val (.ref s_V5)] []))
      refine OwnR.of (fun _ hr => XS.iload X185.here hx rfl (hb hby at_260) rfl hr) ?_
      show OwnR _ _ _ _ _ _ _ (T185.setTop (mkF m 262 #[.val (.int p1), .val (.int p2), .val (.ref b1), .val (.ref b32), .val (.int (7 : Int32)), .val (.ref s_SUBSCRIBE), .val (.int (130 : Int32)), .val (.ref s_V5)] [(.int (130 : Int32))]))
      refine OwnR.of (fun _ hr => XS.aload X185.here hx rfl (hb hby at_262) rfl rfl hr) ?_
      show OwnR _ _ _ _ _ _ _ (T185.setTop (mkF m 264 #[.val (.int p1), .val (.int p2), .val (.ref b1), .val (.ref b32), .val (.int (7 : Int32)), .val (.ref s_SUBSCRIBE), .val (.int (130 : Int32)), .val (.ref s_V5)] [(.ref s_V5), (.int (130 : Int32))]))
      obtain ⟨_, _, ⟨T186, L186, kc186, ns186⟩, -, X186, ⟨Lc186, hQ186, l186, y186, z186⟩, st186⟩ := Jvm.LawKit.callS X185 hx (y := (⟨"com/example/kurir/kurir/codec/PacketType", "of", "(ILcom/example/kurir/kurir/codec/ProtocolVersion;)Lcom/example/kurir/kurir/codec/PacketType;"⟩ : MethodName)) hown (mvT hZ (hw _ (List.mem_of_getElem? (i := 48) rfl))) (mvT hZ (hw _ (List.mem_of_getElem? (i := 49) rfl))) (mvT hZ (hw _ (List.mem_of_getElem? (i := 3) rfl))) (mvT hZ (hw _ (List.mem_of_getElem? (i := 50) rfl))) (by decide) (backOf (W := 0) (rm2_7 l Z a0 hw [] s_V5 sb kb s_CONNECT s_CONNACK s_PUBLISH s_PUBACK s_PUBREC s_PUBREL s_PUBCOMP s_SUBSCRIBE s_SUBACK s_UNSUBSCRIBE s_UNSUBACK s_PINGREQ s_PINGRESP s_DISCONNECT s_AUTH s_V3 h47 n0 (Nat.le_trans Z0 K47.1) R48 R49 R50 R51 ne_SUBSCRIBE) hZ (hw _ (List.mem_of_getElem? (i := 50) rfl)) (hw _ (List.mem_of_getElem? (i := 3) rfl)) (by decide) (by decide)) (g := (mkF m 264 #[.val (.int p1), .val (.int p2), .val (.ref b1), .val (.ref b32), .val (.int (7 : Int32)), .val (.ref s_SUBSCRIBE), .val (.int (130 : Int32)), .val (.ref s_V5)] [(.ref s_V5), (.int (130 : Int32))])) rfl (by rw [hml]; rfl) (argsL := [(.int (130 : Int32)), (.ref s_V5)]) (rest := []) (lenOf pd__ILcom_example_kurir_kurir_codec_ProtocolVersion__Lcom_example_kurir_kurir_codec_PacketType_ rfl) rfl (by show 2 * 0 + _ ≤ _; exact Nat.le_of_eq rfl) (hb hby at_264) (fun _ _ => ⟨rfl, e185, (by decide : 2 + 0 ≤ _), (by decide : 30 + 0 ≤ _)⟩)
      dsimp only [Pt.U, Pt.locs, Pt.cells, Pt.slots] at X186 l186 y186 z186 st186 hQ186
      rw [l186, y186, z186] at X186
      obtain ⟨rfl, N186q, e186⟩ := hQ186
      have N186 := Fr.app N179 N186q
      refine OwnR.of (st186) ?_
      show OwnR _ _ _ _ _ _ _ (T186.setTop (mkF m 267 #[.val (.int p1), .val (.int p2), .val (.ref b1), .val (.ref b32), .val (.int (7 : Int32)), .val (.ref s_SUBSCRIBE), .val (.int (130 : Int32)), .val (.ref s_V5)] [(.ref s_SUBSCRIBE)]))
      refine OwnR.of (fun _ hr => XS.aload X186.here hx rfl (hb hby at_267) rfl rfl hr) ?_
      show OwnR _ _ _ _ _ _ _ (T186.setTop (mkF m 269 #[.val (.int p1), .val (.int p2), .val (.ref b1), .val (.ref b32), .val (.int (7 : Int32)), .val (.ref s_SUBSCRIBE), .val (.int (130 : Int32)), .val (.ref s_V5)] [(.ref s_SUBSCRIBE), (.ref s_SUBSCRIBE)]))
      refine OwnR.of (fun _ hr => Jvm.RoadKit.acmp (g := (mkF m 269 #[.val (.int p1), .val (.int p2), .val (.ref b1), .val (.ref b32), .val (.int (7 : Int32)), .val (.ref s_SUBSCRIBE), .val (.int (130 : Int32)), .val (.ref s_V5)] [(.ref s_SUBSCRIBE), (.ref s_SUBSCRIBE)])) X186 hx rfl rfl rfl (pc0 := 269) (pc' := 272) (same := true) rfl (hb hby at_269) rfl (decide_eq_true rfl) (by decide) (by decide) hr) ?_
      show OwnR _ _ _ _ _ _ _ (T186.setTop (mkF m 272 #[.val (.int p1), .val (.int p2), .val (.ref b1), .val (.ref b32), .val (.int (7 : Int32)), .val (.ref s_SUBSCRIBE), .val (.int (130 : Int32)), .val (.ref s_V5)] []))
      refine OwnR.of (fun _ hr => XS.iconst X186.here hx rfl (hb hby at_272) hr) ?_
      show OwnR _ _ _ _ _ _ _ (T186.setTop (mkF m 273 #[.val (.int p1), .val (.int p2), .val (.ref b1), .val (.ref b32), .val (.int (7 : Int32)), .val (.ref s_SUBSCRIBE), .val (.int (130 : Int32)), .val (.ref s_V5)] [(.int (1 : Int32))]))
      refine OwnR.of (fun _ hr => XS.goto X186.here hx rfl (pc0 := 273) (pc' := 277) rfl (hb hby at_273) (by decide) (by decide) hr) ?_
      show OwnR _ _ _ _ _ _ _ (T186.setTop (mkF m 277 #[.val (.int p1), .val (.int p2), .val (.ref b1), .val (.ref b32), .val (.int (7 : Int32)), .val (.ref s_SUBSCRIBE), .val (.int (130 : Int32)), .val (.ref s_V5)] [(.int (1 : Int32))]))
      refine own_leafN X186 hx hlk (t := .boolean) Bd.returns (by simp) (hb hby at_277) (z' := (1 : Int32)) rfl (by decide) (by decide) ?_
      show Q0 Z  h0 n0 _ T186.heap _
      rw [show T186.heap = h47 from e186]
      refine ⟨?_, N186⟩
      show (some (.int (1 : Int32)) : Option Value) = some (.int (1 : Int32))
      rfl
  · skip
    show OwnR _ _ _ _ _ _ _ (T47.setTop (mkF m 211 #[.val (.int p1), .val (.int p2), .val (.ref b1), .val (.ref b32), .val (.int (8 : Int32)), .unset, .unset, .unset] []))
    refine OwnR.of (fun _ hr => XS.aloadN X47.here hx rfl (hb hby at_211) rfl rfl hr) ?_
    show OwnR _ _ _ _ _ _ _ (T47.setTop (mkF m 212 #[.val (.int p1), .val (.int p2), .val (.ref b1), .val (.ref b32), .val (.int (8 : Int32)), .unset, .unset, .unset] [(.ref b1)]))
    refine OwnR.of (fun _ hr => XS.iload X47.here hx rfl (hb hby at_212) rfl hr) ?_
    show OwnR _ _ _ _ _ _ _ (T47.setTop (mkF m 214 #[.val (.int p1), .val (.int p2), .val (.ref b1), .val (.ref b32), .val (.int (8 : Int32)), .unset, .unset, .unset] [(.int (8 : Int32)), (.ref b1)]))
    obtain ⟨cl187, Ar187, -, S187, N187, H187, G187⟩ := id R113
    have hin187 : ¬ ((8 : Int32) < 0 ∨ cl187.slots.size ≤ ((8 : Int32)).toNatClampNeg) := (inb_of S187 ⟨by decide, by decide⟩)
    refine OwnR.of (X47.aaload hx (j := (8 : Int32)) (v := (.ref s_SUBACK)) (by rw [e47]; exact Ar187.1) (State.isArrayOf_alike hZ.alike Ar187.2.1) rfl Ar187.2.2 hin187 (Has.at H187 hin187 rfl) (g := (mkF m 214 #[.val (.int p1), .val (.int p2), .val (.ref b1), .val (.ref b32), .val (.int (8 : Int32)), .unset, .unset, .unset] [(.int (8 : Int32)), (.ref b1)])) rfl rfl (hb hby at_214)) ?_
    show OwnR _ _ _ _ _ _ _ (T47.setTop (mkF m 215 #[.val (.int p1), .val (.int p2), .val (.ref b1), .val (.ref b32), .val (.int (8 : Int32)), .unset, .unset, .unset] [(.ref s_SUBACK)]))
    refine OwnR.of (fun _ hr => XS.astore X47.here hx rfl (hb hby at_215) rfl rfl (l' := #[.val (.int p1), .val (.int p2), .val (.ref b1), .val (.ref b32), .val (.int (8 : Int32)), .val (.ref s_SUBACK), .unset, .unset]) rfl hr) ?_
    show OwnR _ _ _ _ _ _ _ (T47.setTop (mkF m 217 #[.val (.int p1), .val (.int p2), .val (.ref b1), .val (.ref b32), .val (.int (8 : Int32)), .val (.ref s_SUBACK), .unset, .unset] []))
    refine OwnR.of (fun _ hr => XS.aload X47.here hx rfl (hb hby at_217) rfl rfl hr) ?_
    show OwnR _ _ _ _ _ _ _ (T47.setTop (mkF m 219 #[.val (.int p1), .val (.int p2), .val (.ref b1), .val (.ref b32), .val (.int (8 : Int32)), .val (.ref s_SUBACK), .unset, .unset] [(.ref s_SUBACK)]))
    obtain ⟨cq188, kq188, q188a, q188b, q188c⟩ := isOf hZ e47 R86
    obtain ⟨_, _, ⟨T188, L188, kc188, ns188⟩, -, X188, ⟨Lc188, hQ188, l188, y188, z188⟩, st188⟩ := X47.virtualBack hx (y := (⟨"com/example/kurir/kurir/codec/PacketType", "firstByte", "()I"⟩ : MethodName)) (z := (⟨"com/example/kurir/kurir/codec/PacketType", "firstByte", "()I"⟩ : MethodName)) hown (mvT hZ (hw _ (List.mem_of_getElem? (i := 36) rfl))) (mvT hZ (hw _ (List.mem_of_getElem? (i := 37) rfl))) (notFace_of_selects (args := #[]) (mvT hZ (hw _ (List.mem_of_getElem? (i := 39) rfl)))) (mvT hZ (hw _ (List.mem_of_getElem? (i := 39) rfl))) (mvT hZ (hw _ (List.mem_of_getElem? (i := 38) rfl))) (by decide) (backOf (W := 0) (rm1 l Z a0 hw [] s_SUBACK (9 : Int32) (0 : Int32) h47 n0 (Nat.le_trans Z0 K47.1) R86 R87 R88) hZ (hw _ (List.mem_of_getElem? (i := 40) rfl)) (hw _ (List.mem_of_getElem? (i := 3) rfl)) (by decide) (by decide)) q188a q188c (g := (mkF m 219 #[.val (.int p1), .val (.int p2), .val (.ref b1), .val (.ref b32), .val (.int (8 : Int32)), .val (.ref s_SUBACK), .unset, .unset] [(.ref s_SUBACK)])) rfl (by rw [hml]; rfl) (Steps.refl _) (argsL := []) (rest := []) (lenOf pd___I rfl) rfl (by show 2 * 0 + _ ≤ _; exact Nat.le_of_eq rfl) (hb hby at_219) (fun _ _ => ⟨rfl, e47, (by decide : 2 + 0 ≤ _), (by decide : 30 + 0 ≤ _)⟩)
    dsimp only [Pt.U, Pt.locs, Pt.cells, Pt.slots] at X188 l188 y188 z188 st188 hQ188
    rw [l188, y188, z188] at X188
    obtain ⟨rfl, N188q, e188⟩ := hQ188
    have N188 := Fr.app N47 N188q
    refine OwnR.of (fun _ hr => st188.trans hr) ?_
    show OwnR _ _ _ _ _ _ _ (T188.setTop (mkF m 222 #[.val (.int p1), .val (.int p2), .val (.ref b1), .val (.ref b32), .val (.int (8 : Int32)), .val (.ref s_SUBACK), .unset, .unset] [(.int (own_fb (9 : Int32) (0 : Int32)))]))
    rw [(by decide : (own_fb (9 : Int32) (0 : Int32)) = (144 : Int32))]
    show OwnR _ _ _ _ _ _ _ (T188.setTop (mkF m 222 #[.val (.int p1), .val (.int p2), .val (.ref b1), .val (.ref b32), .val (.int (8 : Int32)), .val (.ref s_SUBACK), .unset, .unset] [(.int (144 : Int32))]))
    refine OwnR.of (fun _ hr => XS.istore X188.here hx rfl (hb hby at_222) rfl (l' := #[.val (.int p1), .val (.int p2), .val (.ref b1), .val (.ref b32), .val (.int (8 : Int32)), .val (.ref s_SUBACK), .val (.int (144 : Int32)), .unset]) rfl hr) ?_
    show OwnR _ _ _ _ _ _ _ (T188.setTop (mkF m 224 #[.val (.int p1), .val (.int p2), .val (.ref b1), .val (.ref b32), .val (.int (8 : Int32)), .val (.ref s_SUBACK), .val (.int (144 : Int32)), .unset] []))
    refine OwnR.of (fun _ hr => XS.iload X188.here hx rfl (hb hby at_224) rfl hr) ?_
    show OwnR _ _ _ _ _ _ _ (T188.setTop (mkF m 226 #[.val (.int p1), .val (.int p2), .val (.ref b1), .val (.ref b32), .val (.int (8 : Int32)), .val (.ref s_SUBACK), .val (.int (144 : Int32)), .unset] [(.int (144 : Int32))]))
    refine OwnR.of (fun _ hr => XS.aloadN X188.here hx rfl (hb hby at_226) rfl rfl hr) ?_
    show OwnR _ _ _ _ _ _ _ (T188.setTop (mkF m 227 #[.val (.int p1), .val (.int p2), .val (.ref b1), .val (.ref b32), .val (.int (8 : Int32)), .val (.ref s_SUBACK), .val (.int (144 : Int32)), .unset] [(.ref b32), (.int (144 : Int32))]))
    refine OwnR.of (fun _ hr => XS.iload X188.here hx rfl (hb hby at_227) rfl hr) ?_
    show OwnR _ _ _ _ _ _ _ (T188.setTop (mkF m 229 #[.val (.int p1), .val (.int p2), .val (.ref b1), .val (.ref b32), .val (.int (8 : Int32)), .val (.ref s_SUBACK), .val (.int (144 : Int32)), .unset] [(.int (8 : Int32)), (.ref b32), (.int (144 : Int32))]))
    obtain ⟨cl189, Ar189, -, S189, N189, H189, G189⟩ := id V47
    have hin189 : ¬ ((8 : Int32) < 0 ∨ cl189.slots.size ≤ ((8 : Int32)).toNatClampNeg) := (inb_of S189 ⟨by decide, by decide⟩)
    refine OwnR.of (X188.iaload hx (j := (8 : Int32)) (v := (.int (144 : Int32))) (by rw [e188]; exact Ar189.1) (State.isArrayOf_alike hZ.alike Ar189.2.1) Ar189.2.2 hin189 (Has.at H189 hin189 rfl) (g := (mkF m 229 #[.val (.int p1), .val (.int p2), .val (.ref b1), .val (.ref b32), .val (.int (8 : Int32)), .val (.ref s_SUBACK), .val (.int (144 : Int32)), .unset] [(.int (8 : Int32)), (.ref b32), (.int (144 : Int32))])) rfl rfl (hb hby at_229)) ?_
    show OwnR _ _ _ _ _ _ _ (T188.setTop (mkF m 230 #[.val (.int p1), .val (.int p2), .val (.ref b1), .val (.ref b32), .val (.int (8 : Int32)), .val (.ref s_SUBACK), .val (.int (144 : Int32)), .unset] [(.int (144 : Int32)), (.int (144 : Int32))]))
    refine OwnR.of (fun _ hr => XS.icmpYes X188.here hx rfl (pc0 := 230) (pc' := 235) rfl (hb hby at_230) rfl (teq (by decide : (144 : Int32) = (144 : Int32))).1 (by decide) (by decide) hr) ?_
    show OwnR _ _ _ _ _ _ _ (T188.setTop (mkF m 235 #[.val (.int p1), .val (.int p2), .val (.ref b1), .val (.ref b32), .val (.int (8 : Int32)), .val (.ref s_SUBACK), .val (.int (144 : Int32)), .unset] []))
    refine OwnR.of (fun _ hr => XS.iloadN X188.here hx rfl (hb hby at_235) rfl hr) ?_
    show OwnR _ _ _ _ _ _ _ (T188.setTop (mkF m 236 #[.val (.int p1), .val (.int p2), .val (.ref b1), .val (.ref b32), .val (.int (8 : Int32)), .val (.ref s_SUBACK), .val (.int (144 : Int32)), .unset] [(.int p2)]))
    refine OwnR.of (fun _ hr => XS.iconst X188.here hx rfl (hb hby at_236) hr) ?_
    show OwnR _ _ _ _ _ _ _ (T188.setTop (mkF m 237 #[.val (.int p1), .val (.int p2), .val (.ref b1), .val (.ref b32), .val (.int (8 : Int32)), .val (.ref s_SUBACK), .val (.int (144 : Int32)), .unset] [(.int (1 : Int32)), (.int p2)]))
    refine OwnR.of (fun _ hr => XS.iand X188.here hx rfl (hb hby at_237) rfl hr) ?_
    show OwnR _ _ _ _ _ _ _ (T188.setTop (mkF m 238 #[.val (.int p1), .val (.int p2), .val (.ref b1), .val (.ref b32), .val (.int (8 : Int32)), .val (.ref s_SUBACK), .val (.int (144 : Int32)), .unset] [(.int (p2 &&& (1 : Int32)))]))
    by_cases hc238_190 : (p2 &&& (1 : Int32)) = (0 : Int32)
    · skip
      refine OwnR.of (fun _ hr => XS.ifNo X188.here hx rfl (hb hby at_238) rfl ((if0 _ _).trans (teq hc238_190).2) hr) ?_
      show OwnR _ _ _ _ _ _ _ (T188.setTop (mkF m 241 #[.val (.int p1), .val (.int p2), .val (.ref b1), .val (.ref b32), .val (.int (8 : Int32)), .val (.ref s_SUBACK), .val (.int (144 : Int32)), .unset] []))
      refine OwnR.of (fun _ hr => XS.aload X188.here hx rfl (hb hby at_241) rfl rfl hr) ?_
      show OwnR _ _ _ _ _ _ _ (T188.setTop (mkF m 243 #[.val (.int p1), .val (.int p2), .val (.ref b1), .val (.ref b32), .val (.int (8 : Int32)), .val (.ref s_SUBACK), .val (.int (144 : Int32)), .unset] [(.ref s_SUBACK)]))
      obtain ⟨T191, X191, e191, st191⟩ := getS2 X188 hx hZ hown (host := "") (Or.inl (hw _ (List.mem_of_getElem? (i := 32) rfl))) Via.refl e188 R50 (g := (mkF m 243 #[.val (.int p1), .val (.int p2), .val (.ref b1), .val (.ref b32), .val (.int (8 : Int32)), .val (.ref s_SUBACK), .val (.int (144 : Int32)), .unset] [(.ref s_SUBACK)])) rfl (hb hby at_243)
      refine OwnR.of (st191) ?_
      show OwnR _ _ _ _ _ _ _ (T191.setTop (mkF m 246 #[.val (.int p1), .val (.int p2), .val (.ref b1), .val (.ref b32), .val (.int (8 : Int32)), .val (.ref s_SUBACK), .val (.int (144 : Int32)), .unset] [(.ref s_AUTH), (.ref s_SUBACK)]))
      refine OwnR.of (fun _ hr => Jvm.RoadKit.acmp (g := (mkF m 246 #[.val (.int p1), .val (.int p2), .val (.ref b1), .val (.ref b32), .val (.int (8 : Int32)), .val (.ref s_SUBACK), .val (.int (144 : Int32)), .unset] [(.ref s_AUTH), (.ref s_SUBACK)])) X191 hx rfl rfl rfl (pc0 := 246) (pc' := 255) (same := false) rfl (hb hby at_246) rfl (decide_eq_false fun q => ne_SUBACK (Value.ref.inj q)) (by decide) (by decide) hr) ?_
      show OwnR _ _ _ _ _ _ _ (T191.setTop (mkF m 255 #[.val (.int p1), .val (.int p2), .val (.ref b1), .val (.ref b32), .val (.int (8 : Int32)), .val (.ref s_SUBACK), .val (.int (144 : Int32)), .unset] []))
      obtain ⟨T192, X192, e192, st192⟩ := getS2 X191 hx hZ hown (host := "") (Or.inl (hw _ (List.mem_of_getElem? (i := 56) rfl))) Via.refl e191 R51 (g := (mkF m 255 #[.val (.int p1), .val (.int p2), .val (.ref b1), .val (.ref b32), .val (.int (8 : Int32)), .val (.ref s_SUBACK), .val (.int (144 : Int32)), .unset] [])) rfl (hb hby at_255)
      refine OwnR.of (st192) ?_
      show OwnR _ _ _ _ _ _ _ (T192.setTop (mkF m 258 #[.val (.int p1), .val (.int p2), .val (.ref b1), .val (.ref b32), .val (.int (8 : Int32)), .val (.ref s_SUBACK), .val (.int (144 : Int32)), .unset] [(.ref s_V3)]))
      refine OwnR.of (fun _ hr => XS.astore X192.here hx rfl (hb hby at_258) rfl rfl (l' := #[.val (.int p1), .val (.int p2), .val (.ref b1), .val (.ref b32), .val (.int (8 : Int32)), .val (.ref s_SUBACK), .val (.int (144 : Int32)), .val (.ref s_V3)]) rfl hr) ?_
      show OwnR _ _ _ _ _ _ _ (T192.setTop (mkF m 260 #[.val (.int p1), .val (.int p2), .val (.ref b1), .val (.ref b32), .val (.int (8 : Int32)), .val (.ref s_SUBACK), .val (.int (144 : Int32)), .val (.ref s_V3)] []))
      refine OwnR.of (fun _ hr => XS.iload X192.here hx rfl (hb hby at_260) rfl hr) ?_
      show OwnR _ _ _ _ _ _ _ (T192.setTop (mkF m 262 #[.val (.int p1), .val (.int p2), .val (.ref b1), .val (.ref b32), .val (.int (8 : Int32)), .val (.ref s_SUBACK), .val (.int (144 : Int32)), .val (.ref s_V3)] [(.int (144 : Int32))]))
      refine OwnR.of (fun _ hr => XS.aload X192.here hx rfl (hb hby at_262) rfl rfl hr) ?_
      show OwnR _ _ _ _ _ _ _ (T192.setTop (mkF m 264 #[.val (.int p1), .val (.int p2), .val (.ref b1), .val (.ref b32), .val (.int (8 : Int32)), .val (.ref s_SUBACK), .val (.int (144 : Int32)), .val (.ref s_V3)] [(.ref s_V3), (.int (144 : Int32))]))
      obtain ⟨_, _, ⟨T193, L193, kc193, ns193⟩, -, X193, ⟨Lc193, hQ193, l193, y193, z193⟩, st193⟩ := Jvm.LawKit.callS X192 hx (y := (⟨"com/example/kurir/kurir/codec/PacketType", "of", "(ILcom/example/kurir/kurir/codec/ProtocolVersion;)Lcom/example/kurir/kurir/codec/PacketType;"⟩ : MethodName)) hown (mvT hZ (hw _ (List.mem_of_getElem? (i := 48) rfl))) (mvT hZ (hw _ (List.mem_of_getElem? (i := 49) rfl))) (mvT hZ (hw _ (List.mem_of_getElem? (i := 3) rfl))) (mvT hZ (hw _ (List.mem_of_getElem? (i := 50) rfl))) (by decide) (backOf (W := 0) (rm2_8 l Z a0 hw [] s_V3 sb kb s_CONNECT s_CONNACK s_PUBLISH s_PUBACK s_PUBREC s_PUBREL s_PUBCOMP s_SUBSCRIBE s_SUBACK s_UNSUBSCRIBE s_UNSUBACK s_PINGREQ s_PINGRESP s_DISCONNECT s_AUTH s_V3 h47 n0 (Nat.le_trans Z0 K47.1) R48 R49 R50 R51 ne_SUBACK) hZ (hw _ (List.mem_of_getElem? (i := 50) rfl)) (hw _ (List.mem_of_getElem? (i := 3) rfl)) (by decide) (by decide)) (g := (mkF m 264 #[.val (.int p1), .val (.int p2), .val (.ref b1), .val (.ref b32), .val (.int (8 : Int32)), .val (.ref s_SUBACK), .val (.int (144 : Int32)), .val (.ref s_V3)] [(.ref s_V3), (.int (144 : Int32))])) rfl (by rw [hml]; rfl) (argsL := [(.int (144 : Int32)), (.ref s_V3)]) (rest := []) (lenOf pd__ILcom_example_kurir_kurir_codec_ProtocolVersion__Lcom_example_kurir_kurir_codec_PacketType_ rfl) rfl (by show 2 * 0 + _ ≤ _; exact Nat.le_of_eq rfl) (hb hby at_264) (fun _ _ => ⟨rfl, e192, (by decide : 2 + 0 ≤ _), (by decide : 30 + 0 ≤ _)⟩)
      dsimp only [Pt.U, Pt.locs, Pt.cells, Pt.slots] at X193 l193 y193 z193 st193 hQ193
      rw [l193, y193, z193] at X193
      obtain ⟨rfl, N193q, e193⟩ := hQ193
      have N193 := Fr.app N188 N193q
      refine OwnR.of (st193) ?_
      show OwnR _ _ _ _ _ _ _ (T193.setTop (mkF m 267 #[.val (.int p1), .val (.int p2), .val (.ref b1), .val (.ref b32), .val (.int (8 : Int32)), .val (.ref s_SUBACK), .val (.int (144 : Int32)), .val (.ref s_V3)] [(.ref s_SUBACK)]))
      refine OwnR.of (fun _ hr => XS.aload X193.here hx rfl (hb hby at_267) rfl rfl hr) ?_
      show OwnR _ _ _ _ _ _ _ (T193.setTop (mkF m 269 #[.val (.int p1), .val (.int p2), .val (.ref b1), .val (.ref b32), .val (.int (8 : Int32)), .val (.ref s_SUBACK), .val (.int (144 : Int32)), .val (.ref s_V3)] [(.ref s_SUBACK), (.ref s_SUBACK)]))
      refine OwnR.of (fun _ hr => Jvm.RoadKit.acmp (g := (mkF m 269 #[.val (.int p1), .val (.int p2), .val (.ref b1), .val (.ref b32), .val (.int (8 : Int32)), .val (.ref s_SUBACK), .val (.int (144 : Int32)), .val (.ref s_V3)] [(.ref s_SUBACK), (.ref s_SUBACK)])) X193 hx rfl rfl rfl (pc0 := 269) (pc' := 272) (same := true) rfl (hb hby at_269) rfl (decide_eq_true rfl) (by decide) (by decide) hr) ?_
      show OwnR _ _ _ _ _ _ _ (T193.setTop (mkF m 272 #[.val (.int p1), .val (.int p2), .val (.ref b1), .val (.ref b32), .val (.int (8 : Int32)), .val (.ref s_SUBACK), .val (.int (144 : Int32)), .val (.ref s_V3)] []))
      refine OwnR.of (fun _ hr => XS.iconst X193.here hx rfl (hb hby at_272) hr) ?_
      show OwnR _ _ _ _ _ _ _ (T193.setTop (mkF m 273 #[.val (.int p1), .val (.int p2), .val (.ref b1), .val (.ref b32), .val (.int (8 : Int32)), .val (.ref s_SUBACK), .val (.int (144 : Int32)), .val (.ref s_V3)] [(.int (1 : Int32))]))
      refine OwnR.of (fun _ hr => XS.goto X193.here hx rfl (pc0 := 273) (pc' := 277) rfl (hb hby at_273) (by decide) (by decide) hr) ?_
      show OwnR _ _ _ _ _ _ _ (T193.setTop (mkF m 277 #[.val (.int p1), .val (.int p2), .val (.ref b1), .val (.ref b32), .val (.int (8 : Int32)), .val (.ref s_SUBACK), .val (.int (144 : Int32)), .val (.ref s_V3)] [(.int (1 : Int32))]))
      refine own_leafN X193 hx hlk (t := .boolean) Bd.returns (by simp) (hb hby at_277) (z' := (1 : Int32)) rfl (by decide) (by decide) ?_
      show Q0 Z  h0 n0 _ T193.heap _
      rw [show T193.heap = h47 from e193]
      refine ⟨?_, N193⟩
      show (some (.int (1 : Int32)) : Option Value) = some (.int (1 : Int32))
      rfl
    · skip
      refine OwnR.of (fun _ hr => XS.ifYes X188.here hx rfl (pc0 := 238) (pc' := 249) rfl (hb hby at_238) rfl ((if0 _ _).trans (feq hc238_190).2) (by decide) (by decide) hr) ?_
      show OwnR _ _ _ _ _ _ _ (T188.setTop (mkF m 249 #[.val (.int p1), .val (.int p2), .val (.ref b1), .val (.ref b32), .val (.int (8 : Int32)), .val (.ref s_SUBACK), .val (.int (144 : Int32)), .unset] []))
      obtain ⟨T194, X194, e194, st194⟩ := getS2 X188 hx hZ hown (host := "") (Or.inl (hw _ (List.mem_of_getElem? (i := 45) rfl))) Via.refl e188 R52 (g := (mkF m 249 #[.val (.int p1), .val (.int p2), .val (.ref b1), .val (.ref b32), .val (.int (8 : Int32)), .val (.ref s_SUBACK), .val (.int (144 : Int32)), .unset] [])) rfl (hb hby at_249)
      refine OwnR.of (st194) ?_
      show OwnR _ _ _ _ _ _ _ (T194.setTop (mkF m 252 #[.val (.int p1), .val (.int p2), .val (.ref b1), .val (.ref b32), .val (.int (8 : Int32)), .val (.ref s_SUBACK), .val (.int (144 : Int32)), .unset] [(.ref s_V5)]))
      refine OwnR.of (fun _ hr => XS.goto X194.here hx rfl (pc0 := 252) (pc' := 258) rfl (hb hby at_252) (by decide) (by decide) hr) ?_
      show OwnR _ _ _ _ _ _ _ (T194.setTop (mkF m 258 #[.val (.int p1), .val (.int p2), .val (.ref b1), .val (.ref b32), .val (.int (8 : Int32)), .val (.ref s_SUBACK), .val (.int (144 : Int32)), .unset] [(.ref s_V5)]))
      refine OwnR.of (fun _ hr => XS.astore X194.here hx rfl (hb hby at_258) rfl rfl (l' := #[.val (.int p1), .val (.int p2), .val (.ref b1), .val (.ref b32), .val (.int (8 : Int32)), .val (.ref s_SUBACK), .val (.int (144 : Int32)), .val (.ref s_V5)]) rfl hr) ?_
      show OwnR _ _ _ _ _ _ _ (T194.setTop (mkF m 260 #[.val (.int p1), .val (.int p2), .val (.ref b1), .val (.ref b32), .val (.int (8 : Int32)), .val (.ref s_SUBACK), .val (.int (144 : Int32)), .val (.ref s_V5)] []))
      refine OwnR.of (fun _ hr => XS.iload X194.here hx rfl (hb hby at_260) rfl hr) ?_
      show OwnR _ _ _ _ _ _ _ (T194.setTop (mkF m 262 #[.val (.int p1), .val (.int p2), .val (.ref b1), .val (.ref b32), .val (.int (8 : Int32)), .val (.ref s_SUBACK), .val (.int (144 : Int32)), .val (.ref s_V5)] [(.int (144 : Int32))]))
      refine OwnR.of (fun _ hr => XS.aload X194.here hx rfl (hb hby at_262) rfl rfl hr) ?_
      show OwnR _ _ _ _ _ _ _ (T194.setTop (mkF m 264 #[.val (.int p1), .val (.int p2), .val (.ref b1), .val (.ref b32), .val (.int (8 : Int32)), .val (.ref s_SUBACK), .val (.int (144 : Int32)), .val (.ref s_V5)] [(.ref s_V5), (.int (144 : Int32))]))
      obtain ⟨_, _, ⟨T195, L195, kc195, ns195⟩, -, X195, ⟨Lc195, hQ195, l195, y195, z195⟩, st195⟩ := Jvm.LawKit.callS X194 hx (y := (⟨"com/example/kurir/kurir/codec/PacketType", "of", "(ILcom/example/kurir/kurir/codec/ProtocolVersion;)Lcom/example/kurir/kurir/codec/PacketType;"⟩ : MethodName)) hown (mvT hZ (hw _ (List.mem_of_getElem? (i := 48) rfl))) (mvT hZ (hw _ (List.mem_of_getElem? (i := 49) rfl))) (mvT hZ (hw _ (List.mem_of_getElem? (i := 3) rfl))) (mvT hZ (hw _ (List.mem_of_getElem? (i := 50) rfl))) (by decide) (backOf (W := 0) (rm2_8 l Z a0 hw [] s_V5 sb kb s_CONNECT s_CONNACK s_PUBLISH s_PUBACK s_PUBREC s_PUBREL s_PUBCOMP s_SUBSCRIBE s_SUBACK s_UNSUBSCRIBE s_UNSUBACK s_PINGREQ s_PINGRESP s_DISCONNECT s_AUTH s_V3 h47 n0 (Nat.le_trans Z0 K47.1) R48 R49 R50 R51 ne_SUBACK) hZ (hw _ (List.mem_of_getElem? (i := 50) rfl)) (hw _ (List.mem_of_getElem? (i := 3) rfl)) (by decide) (by decide)) (g := (mkF m 264 #[.val (.int p1), .val (.int p2), .val (.ref b1), .val (.ref b32), .val (.int (8 : Int32)), .val (.ref s_SUBACK), .val (.int (144 : Int32)), .val (.ref s_V5)] [(.ref s_V5), (.int (144 : Int32))])) rfl (by rw [hml]; rfl) (argsL := [(.int (144 : Int32)), (.ref s_V5)]) (rest := []) (lenOf pd__ILcom_example_kurir_kurir_codec_ProtocolVersion__Lcom_example_kurir_kurir_codec_PacketType_ rfl) rfl (by show 2 * 0 + _ ≤ _; exact Nat.le_of_eq rfl) (hb hby at_264) (fun _ _ => ⟨rfl, e194, (by decide : 2 + 0 ≤ _), (by decide : 30 + 0 ≤ _)⟩)
      dsimp only [Pt.U, Pt.locs, Pt.cells, Pt.slots] at X195 l195 y195 z195 st195 hQ195
      rw [l195, y195, z195] at X195
      obtain ⟨rfl, N195q, e195⟩ := hQ195
      have N195 := Fr.app N188 N195q
      refine OwnR.of (st195) ?_
      show OwnR _ _ _ _ _ _ _ (T195.setTop (mkF m 267 #[.val (.int p1), .val (.int p2), .val (.ref b1), .val (.ref b32), .val (.int (8 : Int32)), .val (.ref s_SUBACK), .val (.int (144 : Int32)), .val (.ref s_V5)] [(.ref s_SUBACK)]))
      refine OwnR.of (fun _ hr => XS.aload X195.here hx rfl (hb hby at_267) rfl rfl hr) ?_
      show OwnR _ _ _ _ _ _ _ (T195.setTop (mkF m 269 #[.val (.int p1), .val (.int p2), .val (.ref b1), .val (.ref b32), .val (.int (8 : Int32)), .val (.ref s_SUBACK), .val (.int (144 : Int32)), .val (.ref s_V5)] [(.ref s_SUBACK), (.ref s_SUBACK)]))
      refine OwnR.of (fun _ hr => Jvm.RoadKit.acmp (g := (mkF m 269 #[.val (.int p1), .val (.int p2), .val (.ref b1), .val (.ref b32), .val (.int (8 : Int32)), .val (.ref s_SUBACK), .val (.int (144 : Int32)), .val (.ref s_V5)] [(.ref s_SUBACK), (.ref s_SUBACK)])) X195 hx rfl rfl rfl (pc0 := 269) (pc' := 272) (same := true) rfl (hb hby at_269) rfl (decide_eq_true rfl) (by decide) (by decide) hr) ?_
      show OwnR _ _ _ _ _ _ _ (T195.setTop (mkF m 272 #[.val (.int p1), .val (.int p2), .val (.ref b1), .val (.ref b32), .val (.int (8 : Int32)), .val (.ref s_SUBACK), .val (.int (144 : Int32)), .val (.ref s_V5)] []))
      refine OwnR.of (fun _ hr => XS.iconst X195.here hx rfl (hb hby at_272) hr) ?_
      show OwnR _ _ _ _ _ _ _ (T195.setTop (mkF m 273 #[.val (.int p1), .val (.int p2), .val (.ref b1), .val (.ref b32), .val (.int (8 : Int32)), .val (.ref s_SUBACK), .val (.int (144 : Int32)), .val (.ref s_V5)] [(.int (1 : Int32))]))
      refine OwnR.of (fun _ hr => XS.goto X195.here hx rfl (pc0 := 273) (pc' := 277) rfl (hb hby at_273) (by decide) (by decide) hr) ?_
      show OwnR _ _ _ _ _ _ _ (T195.setTop (mkF m 277 #[.val (.int p1), .val (.int p2), .val (.ref b1), .val (.ref b32), .val (.int (8 : Int32)), .val (.ref s_SUBACK), .val (.int (144 : Int32)), .val (.ref s_V5)] [(.int (1 : Int32))]))
      refine own_leafN X195 hx hlk (t := .boolean) Bd.returns (by simp) (hb hby at_277) (z' := (1 : Int32)) rfl (by decide) (by decide) ?_
      show Q0 Z  h0 n0 _ T195.heap _
      rw [show T195.heap = h47 from e195]
      refine ⟨?_, N195⟩
      show (some (.int (1 : Int32)) : Option Value) = some (.int (1 : Int32))
      rfl
  · skip
    show OwnR _ _ _ _ _ _ _ (T47.setTop (mkF m 211 #[.val (.int p1), .val (.int p2), .val (.ref b1), .val (.ref b32), .val (.int (9 : Int32)), .unset, .unset, .unset] []))
    refine OwnR.of (fun _ hr => XS.aloadN X47.here hx rfl (hb hby at_211) rfl rfl hr) ?_
    show OwnR _ _ _ _ _ _ _ (T47.setTop (mkF m 212 #[.val (.int p1), .val (.int p2), .val (.ref b1), .val (.ref b32), .val (.int (9 : Int32)), .unset, .unset, .unset] [(.ref b1)]))
    refine OwnR.of (fun _ hr => XS.iload X47.here hx rfl (hb hby at_212) rfl hr) ?_
    show OwnR _ _ _ _ _ _ _ (T47.setTop (mkF m 214 #[.val (.int p1), .val (.int p2), .val (.ref b1), .val (.ref b32), .val (.int (9 : Int32)), .unset, .unset, .unset] [(.int (9 : Int32)), (.ref b1)]))
    obtain ⟨cl196, Ar196, -, S196, N196, H196, G196⟩ := id R113
    have hin196 : ¬ ((9 : Int32) < 0 ∨ cl196.slots.size ≤ ((9 : Int32)).toNatClampNeg) := (inb_of S196 ⟨by decide, by decide⟩)
    refine OwnR.of (X47.aaload hx (j := (9 : Int32)) (v := (.ref s_UNSUBSCRIBE)) (by rw [e47]; exact Ar196.1) (State.isArrayOf_alike hZ.alike Ar196.2.1) rfl Ar196.2.2 hin196 (Has.at H196 hin196 rfl) (g := (mkF m 214 #[.val (.int p1), .val (.int p2), .val (.ref b1), .val (.ref b32), .val (.int (9 : Int32)), .unset, .unset, .unset] [(.int (9 : Int32)), (.ref b1)])) rfl rfl (hb hby at_214)) ?_
    show OwnR _ _ _ _ _ _ _ (T47.setTop (mkF m 215 #[.val (.int p1), .val (.int p2), .val (.ref b1), .val (.ref b32), .val (.int (9 : Int32)), .unset, .unset, .unset] [(.ref s_UNSUBSCRIBE)]))
    refine OwnR.of (fun _ hr => XS.astore X47.here hx rfl (hb hby at_215) rfl rfl (l' := #[.val (.int p1), .val (.int p2), .val (.ref b1), .val (.ref b32), .val (.int (9 : Int32)), .val (.ref s_UNSUBSCRIBE), .unset, .unset]) rfl hr) ?_
    show OwnR _ _ _ _ _ _ _ (T47.setTop (mkF m 217 #[.val (.int p1), .val (.int p2), .val (.ref b1), .val (.ref b32), .val (.int (9 : Int32)), .val (.ref s_UNSUBSCRIBE), .unset, .unset] []))
    refine OwnR.of (fun _ hr => XS.aload X47.here hx rfl (hb hby at_217) rfl rfl hr) ?_
    show OwnR _ _ _ _ _ _ _ (T47.setTop (mkF m 219 #[.val (.int p1), .val (.int p2), .val (.ref b1), .val (.ref b32), .val (.int (9 : Int32)), .val (.ref s_UNSUBSCRIBE), .unset, .unset] [(.ref s_UNSUBSCRIBE)]))
    obtain ⟨cq197, kq197, q197a, q197b, q197c⟩ := isOf hZ e47 R90
    obtain ⟨_, _, ⟨T197, L197, kc197, ns197⟩, -, X197, ⟨Lc197, hQ197, l197, y197, z197⟩, st197⟩ := X47.virtualBack hx (y := (⟨"com/example/kurir/kurir/codec/PacketType", "firstByte", "()I"⟩ : MethodName)) (z := (⟨"com/example/kurir/kurir/codec/PacketType", "firstByte", "()I"⟩ : MethodName)) hown (mvT hZ (hw _ (List.mem_of_getElem? (i := 36) rfl))) (mvT hZ (hw _ (List.mem_of_getElem? (i := 37) rfl))) (notFace_of_selects (args := #[]) (mvT hZ (hw _ (List.mem_of_getElem? (i := 39) rfl)))) (mvT hZ (hw _ (List.mem_of_getElem? (i := 39) rfl))) (mvT hZ (hw _ (List.mem_of_getElem? (i := 38) rfl))) (by decide) (backOf (W := 0) (rm1 l Z a0 hw [] s_UNSUBSCRIBE (10 : Int32) (2 : Int32) h47 n0 (Nat.le_trans Z0 K47.1) R90 R91 R92) hZ (hw _ (List.mem_of_getElem? (i := 40) rfl)) (hw _ (List.mem_of_getElem? (i := 3) rfl)) (by decide) (by decide)) q197a q197c (g := (mkF m 219 #[.val (.int p1), .val (.int p2), .val (.ref b1), .val (.ref b32), .val (.int (9 : Int32)), .val (.ref s_UNSUBSCRIBE), .unset, .unset] [(.ref s_UNSUBSCRIBE)])) rfl (by rw [hml]; rfl) (Steps.refl _) (argsL := []) (rest := []) (lenOf pd___I rfl) rfl (by show 2 * 0 + _ ≤ _; exact Nat.le_of_eq rfl) (hb hby at_219) (fun _ _ => ⟨rfl, e47, (by decide : 2 + 0 ≤ _), (by decide : 30 + 0 ≤ _)⟩)
    dsimp only [Pt.U, Pt.locs, Pt.cells, Pt.slots] at X197 l197 y197 z197 st197 hQ197
    rw [l197, y197, z197] at X197
    obtain ⟨rfl, N197q, e197⟩ := hQ197
    have N197 := Fr.app N47 N197q
    refine OwnR.of (fun _ hr => st197.trans hr) ?_
    show OwnR _ _ _ _ _ _ _ (T197.setTop (mkF m 222 #[.val (.int p1), .val (.int p2), .val (.ref b1), .val (.ref b32), .val (.int (9 : Int32)), .val (.ref s_UNSUBSCRIBE), .unset, .unset] [(.int (own_fb (10 : Int32) (2 : Int32)))]))
    rw [(by decide : (own_fb (10 : Int32) (2 : Int32)) = (162 : Int32))]
    show OwnR _ _ _ _ _ _ _ (T197.setTop (mkF m 222 #[.val (.int p1), .val (.int p2), .val (.ref b1), .val (.ref b32), .val (.int (9 : Int32)), .val (.ref s_UNSUBSCRIBE), .unset, .unset] [(.int (162 : Int32))]))
    refine OwnR.of (fun _ hr => XS.istore X197.here hx rfl (hb hby at_222) rfl (l' := #[.val (.int p1), .val (.int p2), .val (.ref b1), .val (.ref b32), .val (.int (9 : Int32)), .val (.ref s_UNSUBSCRIBE), .val (.int (162 : Int32)), .unset]) rfl hr) ?_
    show OwnR _ _ _ _ _ _ _ (T197.setTop (mkF m 224 #[.val (.int p1), .val (.int p2), .val (.ref b1), .val (.ref b32), .val (.int (9 : Int32)), .val (.ref s_UNSUBSCRIBE), .val (.int (162 : Int32)), .unset] []))
    refine OwnR.of (fun _ hr => XS.iload X197.here hx rfl (hb hby at_224) rfl hr) ?_
    show OwnR _ _ _ _ _ _ _ (T197.setTop (mkF m 226 #[.val (.int p1), .val (.int p2), .val (.ref b1), .val (.ref b32), .val (.int (9 : Int32)), .val (.ref s_UNSUBSCRIBE), .val (.int (162 : Int32)), .unset] [(.int (162 : Int32))]))
    refine OwnR.of (fun _ hr => XS.aloadN X197.here hx rfl (hb hby at_226) rfl rfl hr) ?_
    show OwnR _ _ _ _ _ _ _ (T197.setTop (mkF m 227 #[.val (.int p1), .val (.int p2), .val (.ref b1), .val (.ref b32), .val (.int (9 : Int32)), .val (.ref s_UNSUBSCRIBE), .val (.int (162 : Int32)), .unset] [(.ref b32), (.int (162 : Int32))]))
    refine OwnR.of (fun _ hr => XS.iload X197.here hx rfl (hb hby at_227) rfl hr) ?_
    show OwnR _ _ _ _ _ _ _ (T197.setTop (mkF m 229 #[.val (.int p1), .val (.int p2), .val (.ref b1), .val (.ref b32), .val (.int (9 : Int32)), .val (.ref s_UNSUBSCRIBE), .val (.int (162 : Int32)), .unset] [(.int (9 : Int32)), (.ref b32), (.int (162 : Int32))]))
    obtain ⟨cl198, Ar198, -, S198, N198, H198, G198⟩ := id V47
    have hin198 : ¬ ((9 : Int32) < 0 ∨ cl198.slots.size ≤ ((9 : Int32)).toNatClampNeg) := (inb_of S198 ⟨by decide, by decide⟩)
    refine OwnR.of (X197.iaload hx (j := (9 : Int32)) (v := (.int (162 : Int32))) (by rw [e197]; exact Ar198.1) (State.isArrayOf_alike hZ.alike Ar198.2.1) Ar198.2.2 hin198 (Has.at H198 hin198 rfl) (g := (mkF m 229 #[.val (.int p1), .val (.int p2), .val (.ref b1), .val (.ref b32), .val (.int (9 : Int32)), .val (.ref s_UNSUBSCRIBE), .val (.int (162 : Int32)), .unset] [(.int (9 : Int32)), (.ref b32), (.int (162 : Int32))])) rfl rfl (hb hby at_229)) ?_
    show OwnR _ _ _ _ _ _ _ (T197.setTop (mkF m 230 #[.val (.int p1), .val (.int p2), .val (.ref b1), .val (.ref b32), .val (.int (9 : Int32)), .val (.ref s_UNSUBSCRIBE), .val (.int (162 : Int32)), .unset] [(.int (162 : Int32)), (.int (162 : Int32))]))
    refine OwnR.of (fun _ hr => XS.icmpYes X197.here hx rfl (pc0 := 230) (pc' := 235) rfl (hb hby at_230) rfl (teq (by decide : (162 : Int32) = (162 : Int32))).1 (by decide) (by decide) hr) ?_
    show OwnR _ _ _ _ _ _ _ (T197.setTop (mkF m 235 #[.val (.int p1), .val (.int p2), .val (.ref b1), .val (.ref b32), .val (.int (9 : Int32)), .val (.ref s_UNSUBSCRIBE), .val (.int (162 : Int32)), .unset] []))
    refine OwnR.of (fun _ hr => XS.iloadN X197.here hx rfl (hb hby at_235) rfl hr) ?_
    show OwnR _ _ _ _ _ _ _ (T197.setTop (mkF m 236 #[.val (.int p1), .val (.int p2), .val (.ref b1), .val (.ref b32), .val (.int (9 : Int32)), .val (.ref s_UNSUBSCRIBE), .val (.int (162 : Int32)), .unset] [(.int p2)]))
    refine OwnR.of (fun _ hr => XS.iconst X197.here hx rfl (hb hby at_236) hr) ?_
    show OwnR _ _ _ _ _ _ _ (T197.setTop (mkF m 237 #[.val (.int p1), .val (.int p2), .val (.ref b1), .val (.ref b32), .val (.int (9 : Int32)), .val (.ref s_UNSUBSCRIBE), .val (.int (162 : Int32)), .unset] [(.int (1 : Int32)), (.int p2)]))
    refine OwnR.of (fun _ hr => XS.iand X197.here hx rfl (hb hby at_237) rfl hr) ?_
    show OwnR _ _ _ _ _ _ _ (T197.setTop (mkF m 238 #[.val (.int p1), .val (.int p2), .val (.ref b1), .val (.ref b32), .val (.int (9 : Int32)), .val (.ref s_UNSUBSCRIBE), .val (.int (162 : Int32)), .unset] [(.int (p2 &&& (1 : Int32)))]))
    by_cases hc238_199 : (p2 &&& (1 : Int32)) = (0 : Int32)
    · skip
      refine OwnR.of (fun _ hr => XS.ifNo X197.here hx rfl (hb hby at_238) rfl ((if0 _ _).trans (teq hc238_199).2) hr) ?_
      show OwnR _ _ _ _ _ _ _ (T197.setTop (mkF m 241 #[.val (.int p1), .val (.int p2), .val (.ref b1), .val (.ref b32), .val (.int (9 : Int32)), .val (.ref s_UNSUBSCRIBE), .val (.int (162 : Int32)), .unset] []))
      refine OwnR.of (fun _ hr => XS.aload X197.here hx rfl (hb hby at_241) rfl rfl hr) ?_
      show OwnR _ _ _ _ _ _ _ (T197.setTop (mkF m 243 #[.val (.int p1), .val (.int p2), .val (.ref b1), .val (.ref b32), .val (.int (9 : Int32)), .val (.ref s_UNSUBSCRIBE), .val (.int (162 : Int32)), .unset] [(.ref s_UNSUBSCRIBE)]))
      obtain ⟨T200, X200, e200, st200⟩ := getS2 X197 hx hZ hown (host := "") (Or.inl (hw _ (List.mem_of_getElem? (i := 32) rfl))) Via.refl e197 R50 (g := (mkF m 243 #[.val (.int p1), .val (.int p2), .val (.ref b1), .val (.ref b32), .val (.int (9 : Int32)), .val (.ref s_UNSUBSCRIBE), .val (.int (162 : Int32)), .unset] [(.ref s_UNSUBSCRIBE)])) rfl (hb hby at_243)
      refine OwnR.of (st200) ?_
      show OwnR _ _ _ _ _ _ _ (T200.setTop (mkF m 246 #[.val (.int p1), .val (.int p2), .val (.ref b1), .val (.ref b32), .val (.int (9 : Int32)), .val (.ref s_UNSUBSCRIBE), .val (.int (162 : Int32)), .unset] [(.ref s_AUTH), (.ref s_UNSUBSCRIBE)]))
      refine OwnR.of (fun _ hr => Jvm.RoadKit.acmp (g := (mkF m 246 #[.val (.int p1), .val (.int p2), .val (.ref b1), .val (.ref b32), .val (.int (9 : Int32)), .val (.ref s_UNSUBSCRIBE), .val (.int (162 : Int32)), .unset] [(.ref s_AUTH), (.ref s_UNSUBSCRIBE)])) X200 hx rfl rfl rfl (pc0 := 246) (pc' := 255) (same := false) rfl (hb hby at_246) rfl (decide_eq_false fun q => ne_UNSUBSCRIBE (Value.ref.inj q)) (by decide) (by decide) hr) ?_
      show OwnR _ _ _ _ _ _ _ (T200.setTop (mkF m 255 #[.val (.int p1), .val (.int p2), .val (.ref b1), .val (.ref b32), .val (.int (9 : Int32)), .val (.ref s_UNSUBSCRIBE), .val (.int (162 : Int32)), .unset] []))
      obtain ⟨T201, X201, e201, st201⟩ := getS2 X200 hx hZ hown (host := "") (Or.inl (hw _ (List.mem_of_getElem? (i := 56) rfl))) Via.refl e200 R51 (g := (mkF m 255 #[.val (.int p1), .val (.int p2), .val (.ref b1), .val (.ref b32), .val (.int (9 : Int32)), .val (.ref s_UNSUBSCRIBE), .val (.int (162 : Int32)), .unset] [])) rfl (hb hby at_255)
      refine OwnR.of (st201) ?_
      show OwnR _ _ _ _ _ _ _ (T201.setTop (mkF m 258 #[.val (.int p1), .val (.int p2), .val (.ref b1), .val (.ref b32), .val (.int (9 : Int32)), .val (.ref s_UNSUBSCRIBE), .val (.int (162 : Int32)), .unset] [(.ref s_V3)]))
      refine OwnR.of (fun _ hr => XS.astore X201.here hx rfl (hb hby at_258) rfl rfl (l' := #[.val (.int p1), .val (.int p2), .val (.ref b1), .val (.ref b32), .val (.int (9 : Int32)), .val (.ref s_UNSUBSCRIBE), .val (.int (162 : Int32)), .val (.ref s_V3)]) rfl hr) ?_
      show OwnR _ _ _ _ _ _ _ (T201.setTop (mkF m 260 #[.val (.int p1), .val (.int p2), .val (.ref b1), .val (.ref b32), .val (.int (9 : Int32)), .val (.ref s_UNSUBSCRIBE), .val (.int (162 : Int32)), .val (.ref s_V3)] []))
      refine OwnR.of (fun _ hr => XS.iload X201.here hx rfl (hb hby at_260) rfl hr) ?_
      show OwnR _ _ _ _ _ _ _ (T201.setTop (mkF m 262 #[.val (.int p1), .val (.int p2), .val (.ref b1), .val (.ref b32), .val (.int (9 : Int32)), .val (.ref s_UNSUBSCRIBE), .val (.int (162 : Int32)), .val (.ref s_V3)] [(.int (162 : Int32))]))
      refine OwnR.of (fun _ hr => XS.aload X201.here hx rfl (hb hby at_262) rfl rfl hr) ?_
      show OwnR _ _ _ _ _ _ _ (T201.setTop (mkF m 264 #[.val (.int p1), .val (.int p2), .val (.ref b1), .val (.ref b32), .val (.int (9 : Int32)), .val (.ref s_UNSUBSCRIBE), .val (.int (162 : Int32)), .val (.ref s_V3)] [(.ref s_V3), (.int (162 : Int32))]))
      obtain ⟨_, _, ⟨T202, L202, kc202, ns202⟩, -, X202, ⟨Lc202, hQ202, l202, y202, z202⟩, st202⟩ := Jvm.LawKit.callS X201 hx (y := (⟨"com/example/kurir/kurir/codec/PacketType", "of", "(ILcom/example/kurir/kurir/codec/ProtocolVersion;)Lcom/example/kurir/kurir/codec/PacketType;"⟩ : MethodName)) hown (mvT hZ (hw _ (List.mem_of_getElem? (i := 48) rfl))) (mvT hZ (hw _ (List.mem_of_getElem? (i := 49) rfl))) (mvT hZ (hw _ (List.mem_of_getElem? (i := 3) rfl))) (mvT hZ (hw _ (List.mem_of_getElem? (i := 50) rfl))) (by decide) (backOf (W := 0) (rm2_9 l Z a0 hw [] s_V3 sb kb s_CONNECT s_CONNACK s_PUBLISH s_PUBACK s_PUBREC s_PUBREL s_PUBCOMP s_SUBSCRIBE s_SUBACK s_UNSUBSCRIBE s_UNSUBACK s_PINGREQ s_PINGRESP s_DISCONNECT s_AUTH s_V3 h47 n0 (Nat.le_trans Z0 K47.1) R48 R49 R50 R51 ne_UNSUBSCRIBE) hZ (hw _ (List.mem_of_getElem? (i := 50) rfl)) (hw _ (List.mem_of_getElem? (i := 3) rfl)) (by decide) (by decide)) (g := (mkF m 264 #[.val (.int p1), .val (.int p2), .val (.ref b1), .val (.ref b32), .val (.int (9 : Int32)), .val (.ref s_UNSUBSCRIBE), .val (.int (162 : Int32)), .val (.ref s_V3)] [(.ref s_V3), (.int (162 : Int32))])) rfl (by rw [hml]; rfl) (argsL := [(.int (162 : Int32)), (.ref s_V3)]) (rest := []) (lenOf pd__ILcom_example_kurir_kurir_codec_ProtocolVersion__Lcom_example_kurir_kurir_codec_PacketType_ rfl) rfl (by show 2 * 0 + _ ≤ _; exact Nat.le_of_eq rfl) (hb hby at_264) (fun _ _ => ⟨rfl, e201, (by decide : 2 + 0 ≤ _), (by decide : 30 + 0 ≤ _)⟩)
      dsimp only [Pt.U, Pt.locs, Pt.cells, Pt.slots] at X202 l202 y202 z202 st202 hQ202
      rw [l202, y202, z202] at X202
      obtain ⟨rfl, N202q, e202⟩ := hQ202
      have N202 := Fr.app N197 N202q
      refine OwnR.of (st202) ?_
      show OwnR _ _ _ _ _ _ _ (T202.setTop (mkF m 267 #[.val (.int p1), .val (.int p2), .val (.ref b1), .val (.ref b32), .val (.int (9 : Int32)), .val (.ref s_UNSUBSCRIBE), .val (.int (162 : Int32)), .val (.ref s_V3)] [(.ref s_UNSUBSCRIBE)]))
      refine OwnR.of (fun _ hr => XS.aload X202.here hx rfl (hb hby at_267) rfl rfl hr) ?_
      show OwnR _ _ _ _ _ _ _ (T202.setTop (mkF m 269 #[.val (.int p1), .val (.int p2), .val (.ref b1), .val (.ref b32), .val (.int (9 : Int32)), .val (.ref s_UNSUBSCRIBE), .val (.int (162 : Int32)), .val (.ref s_V3)] [(.ref s_UNSUBSCRIBE), (.ref s_UNSUBSCRIBE)]))
      refine OwnR.of (fun _ hr => Jvm.RoadKit.acmp (g := (mkF m 269 #[.val (.int p1), .val (.int p2), .val (.ref b1), .val (.ref b32), .val (.int (9 : Int32)), .val (.ref s_UNSUBSCRIBE), .val (.int (162 : Int32)), .val (.ref s_V3)] [(.ref s_UNSUBSCRIBE), (.ref s_UNSUBSCRIBE)])) X202 hx rfl rfl rfl (pc0 := 269) (pc' := 272) (same := true) rfl (hb hby at_269) rfl (decide_eq_true rfl) (by decide) (by decide) hr) ?_
      show OwnR _ _ _ _ _ _ _ (T202.setTop (mkF m 272 #[.val (.int p1), .val (.int p2), .val (.ref b1), .val (.ref b32), .val (.int (9 : Int32)), .val (.ref s_UNSUBSCRIBE), .val (.int (162 : Int32)), .val (.ref s_V3)] []))
      refine OwnR.of (fun _ hr => XS.iconst X202.here hx rfl (hb hby at_272) hr) ?_
      show OwnR _ _ _ _ _ _ _ (T202.setTop (mkF m 273 #[.val (.int p1), .val (.int p2), .val (.ref b1), .val (.ref b32), .val (.int (9 : Int32)), .val (.ref s_UNSUBSCRIBE), .val (.int (162 : Int32)), .val (.ref s_V3)] [(.int (1 : Int32))]))
      refine OwnR.of (fun _ hr => XS.goto X202.here hx rfl (pc0 := 273) (pc' := 277) rfl (hb hby at_273) (by decide) (by decide) hr) ?_
      show OwnR _ _ _ _ _ _ _ (T202.setTop (mkF m 277 #[.val (.int p1), .val (.int p2), .val (.ref b1), .val (.ref b32), .val (.int (9 : Int32)), .val (.ref s_UNSUBSCRIBE), .val (.int (162 : Int32)), .val (.ref s_V3)] [(.int (1 : Int32))]))
      refine own_leafN X202 hx hlk (t := .boolean) Bd.returns (by simp) (hb hby at_277) (z' := (1 : Int32)) rfl (by decide) (by decide) ?_
      show Q0 Z  h0 n0 _ T202.heap _
      rw [show T202.heap = h47 from e202]
      refine ⟨?_, N202⟩
      show (some (.int (1 : Int32)) : Option Value) = some (.int (1 : Int32))
      rfl
    · skip
      refine OwnR.of (fun _ hr => XS.ifYes X197.here hx rfl (pc0 := 238) (pc' := 249) rfl (hb hby at_238) rfl ((if0 _ _).trans (feq hc238_199).2) (by decide) (by decide) hr) ?_
      show OwnR _ _ _ _ _ _ _ (T197.setTop (mkF m 249 #[.val (.int p1), .val (.int p2), .val (.ref b1), .val (.ref b32), .val (.int (9 : Int32)), .val (.ref s_UNSUBSCRIBE), .val (.int (162 : Int32)), .unset] []))
      obtain ⟨T203, X203, e203, st203⟩ := getS2 X197 hx hZ hown (host := "") (Or.inl (hw _ (List.mem_of_getElem? (i := 45) rfl))) Via.refl e197 R52 (g := (mkF m 249 #[.val (.int p1), .val (.int p2), .val (.ref b1), .val (.ref b32), .val (.int (9 : Int32)), .val (.ref s_UNSUBSCRIBE), .val (.int (162 : Int32)), .unset] [])) rfl (hb hby at_249)
      refine OwnR.of (st203) ?_
      show OwnR _ _ _ _ _ _ _ (T203.setTop (mkF m 252 #[.val (.int p1), .val (.int p2), .val (.ref b1), .val (.ref b32), .val (.int (9 : Int32)), .val (.ref s_UNSUBSCRIBE), .val (.int (162 : Int32)), .unset] [(.ref s_V5)]))
      refine OwnR.of (fun _ hr => XS.goto X203.here hx rfl (pc0 := 252) (pc' := 258) rfl (hb hby at_252) (by decide) (by decide) hr) ?_
      show OwnR _ _ _ _ _ _ _ (T203.setTop (mkF m 258 #[.val (.int p1), .val (.int p2), .val (.ref b1), .val (.ref b32), .val (.int (9 : Int32)), .val (.ref s_UNSUBSCRIBE), .val (.int (162 : Int32)), .unset] [(.ref s_V5)]))
      refine OwnR.of (fun _ hr => XS.astore X203.here hx rfl (hb hby at_258) rfl rfl (l' := #[.val (.int p1), .val (.int p2), .val (.ref b1), .val (.ref b32), .val (.int (9 : Int32)), .val (.ref s_UNSUBSCRIBE), .val (.int (162 : Int32)), .val (.ref s_V5)]) rfl hr) ?_
      show OwnR _ _ _ _ _ _ _ (T203.setTop (mkF m 260 #[.val (.int p1), .val (.int p2), .val (.ref b1), .val (.ref b32), .val (.int (9 : Int32)), .val (.ref s_UNSUBSCRIBE), .val (.int (162 : Int32)), .val (.ref s_V5)] []))
      refine OwnR.of (fun _ hr => XS.iload X203.here hx rfl (hb hby at_260) rfl hr) ?_
      show OwnR _ _ _ _ _ _ _ (T203.setTop (mkF m 262 #[.val (.int p1), .val (.int p2), .val (.ref b1), .val (.ref b32), .val (.int (9 : Int32)), .val (.ref s_UNSUBSCRIBE), .val (.int (162 : Int32)), .val (.ref s_V5)] [(.int (162 : Int32))]))
      refine OwnR.of (fun _ hr => XS.aload X203.here hx rfl (hb hby at_262) rfl rfl hr) ?_
      show OwnR _ _ _ _ _ _ _ (T203.setTop (mkF m 264 #[.val (.int p1), .val (.int p2), .val (.ref b1), .val (.ref b32), .val (.int (9 : Int32)), .val (.ref s_UNSUBSCRIBE), .val (.int (162 : Int32)), .val (.ref s_V5)] [(.ref s_V5), (.int (162 : Int32))]))
      obtain ⟨_, _, ⟨T204, L204, kc204, ns204⟩, -, X204, ⟨Lc204, hQ204, l204, y204, z204⟩, st204⟩ := Jvm.LawKit.callS X203 hx (y := (⟨"com/example/kurir/kurir/codec/PacketType", "of", "(ILcom/example/kurir/kurir/codec/ProtocolVersion;)Lcom/example/kurir/kurir/codec/PacketType;"⟩ : MethodName)) hown (mvT hZ (hw _ (List.mem_of_getElem? (i := 48) rfl))) (mvT hZ (hw _ (List.mem_of_getElem? (i := 49) rfl))) (mvT hZ (hw _ (List.mem_of_getElem? (i := 3) rfl))) (mvT hZ (hw _ (List.mem_of_getElem? (i := 50) rfl))) (by decide) (backOf (W := 0) (rm2_9 l Z a0 hw [] s_V5 sb kb s_CONNECT s_CONNACK s_PUBLISH s_PUBACK s_PUBREC s_PUBREL s_PUBCOMP s_SUBSCRIBE s_SUBACK s_UNSUBSCRIBE s_UNSUBACK s_PINGREQ s_PINGRESP s_DISCONNECT s_AUTH s_V3 h47 n0 (Nat.le_trans Z0 K47.1) R48 R49 R50 R51 ne_UNSUBSCRIBE) hZ (hw _ (List.mem_of_getElem? (i := 50) rfl)) (hw _ (List.mem_of_getElem? (i := 3) rfl)) (by decide) (by decide)) (g := (mkF m 264 #[.val (.int p1), .val (.int p2), .val (.ref b1), .val (.ref b32), .val (.int (9 : Int32)), .val (.ref s_UNSUBSCRIBE), .val (.int (162 : Int32)), .val (.ref s_V5)] [(.ref s_V5), (.int (162 : Int32))])) rfl (by rw [hml]; rfl) (argsL := [(.int (162 : Int32)), (.ref s_V5)]) (rest := []) (lenOf pd__ILcom_example_kurir_kurir_codec_ProtocolVersion__Lcom_example_kurir_kurir_codec_PacketType_ rfl) rfl (by show 2 * 0 + _ ≤ _; exact Nat.le_of_eq rfl) (hb hby at_264) (fun _ _ => ⟨rfl, e203, (by decide : 2 + 0 ≤ _), (by decide : 30 + 0 ≤ _)⟩)
      dsimp only [Pt.U, Pt.locs, Pt.cells, Pt.slots] at X204 l204 y204 z204 st204 hQ204
      rw [l204, y204, z204] at X204
      obtain ⟨rfl, N204q, e204⟩ := hQ204
      have N204 := Fr.app N197 N204q
      refine OwnR.of (st204) ?_
      show OwnR _ _ _ _ _ _ _ (T204.setTop (mkF m 267 #[.val (.int p1), .val (.int p2), .val (.ref b1), .val (.ref b32), .val (.int (9 : Int32)), .val (.ref s_UNSUBSCRIBE), .val (.int (162 : Int32)), .val (.ref s_V5)] [(.ref s_UNSUBSCRIBE)]))
      refine OwnR.of (fun _ hr => XS.aload X204.here hx rfl (hb hby at_267) rfl rfl hr) ?_
      show OwnR _ _ _ _ _ _ _ (T204.setTop (mkF m 269 #[.val (.int p1), .val (.int p2), .val (.ref b1), .val (.ref b32), .val (.int (9 : Int32)), .val (.ref s_UNSUBSCRIBE), .val (.int (162 : Int32)), .val (.ref s_V5)] [(.ref s_UNSUBSCRIBE), (.ref s_UNSUBSCRIBE)]))
      refine OwnR.of (fun _ hr => Jvm.RoadKit.acmp (g := (mkF m 269 #[.val (.int p1), .val (.int p2), .val (.ref b1), .val (.ref b32), .val (.int (9 : Int32)), .val (.ref s_UNSUBSCRIBE), .val (.int (162 : Int32)), .val (.ref s_V5)] [(.ref s_UNSUBSCRIBE), (.ref s_UNSUBSCRIBE)])) X204 hx rfl rfl rfl (pc0 := 269) (pc' := 272) (same := true) rfl (hb hby at_269) rfl (decide_eq_true rfl) (by decide) (by decide) hr) ?_
      show OwnR _ _ _ _ _ _ _ (T204.setTop (mkF m 272 #[.val (.int p1), .val (.int p2), .val (.ref b1), .val (.ref b32), .val (.int (9 : Int32)), .val (.ref s_UNSUBSCRIBE), .val (.int (162 : Int32)), .val (.ref s_V5)] []))
      refine OwnR.of (fun _ hr => XS.iconst X204.here hx rfl (hb hby at_272) hr) ?_
      show OwnR _ _ _ _ _ _ _ (T204.setTop (mkF m 273 #[.val (.int p1), .val (.int p2), .val (.ref b1), .val (.ref b32), .val (.int (9 : Int32)), .val (.ref s_UNSUBSCRIBE), .val (.int (162 : Int32)), .val (.ref s_V5)] [(.int (1 : Int32))]))
      refine OwnR.of (fun _ hr => XS.goto X204.here hx rfl (pc0 := 273) (pc' := 277) rfl (hb hby at_273) (by decide) (by decide) hr) ?_
      show OwnR _ _ _ _ _ _ _ (T204.setTop (mkF m 277 #[.val (.int p1), .val (.int p2), .val (.ref b1), .val (.ref b32), .val (.int (9 : Int32)), .val (.ref s_UNSUBSCRIBE), .val (.int (162 : Int32)), .val (.ref s_V5)] [(.int (1 : Int32))]))
      refine own_leafN X204 hx hlk (t := .boolean) Bd.returns (by simp) (hb hby at_277) (z' := (1 : Int32)) rfl (by decide) (by decide) ?_
      show Q0 Z  h0 n0 _ T204.heap _
      rw [show T204.heap = h47 from e204]
      refine ⟨?_, N204⟩
      show (some (.int (1 : Int32)) : Option Value) = some (.int (1 : Int32))
      rfl
  · skip
    show OwnR _ _ _ _ _ _ _ (T47.setTop (mkF m 211 #[.val (.int p1), .val (.int p2), .val (.ref b1), .val (.ref b32), .val (.int (10 : Int32)), .unset, .unset, .unset] []))
    refine OwnR.of (fun _ hr => XS.aloadN X47.here hx rfl (hb hby at_211) rfl rfl hr) ?_
    show OwnR _ _ _ _ _ _ _ (T47.setTop (mkF m 212 #[.val (.int p1), .val (.int p2), .val (.ref b1), .val (.ref b32), .val (.int (10 : Int32)), .unset, .unset, .unset] [(.ref b1)]))
    refine OwnR.of (fun _ hr => XS.iload X47.here hx rfl (hb hby at_212) rfl hr) ?_
    show OwnR _ _ _ _ _ _ _ (T47.setTop (mkF m 214 #[.val (.int p1), .val (.int p2), .val (.ref b1), .val (.ref b32), .val (.int (10 : Int32)), .unset, .unset, .unset] [(.int (10 : Int32)), (.ref b1)]))
    obtain ⟨cl205, Ar205, -, S205, N205, H205, G205⟩ := id R113
    have hin205 : ¬ ((10 : Int32) < 0 ∨ cl205.slots.size ≤ ((10 : Int32)).toNatClampNeg) := (inb_of S205 ⟨by decide, by decide⟩)
    refine OwnR.of (X47.aaload hx (j := (10 : Int32)) (v := (.ref s_UNSUBACK)) (by rw [e47]; exact Ar205.1) (State.isArrayOf_alike hZ.alike Ar205.2.1) rfl Ar205.2.2 hin205 (Has.at H205 hin205 rfl) (g := (mkF m 214 #[.val (.int p1), .val (.int p2), .val (.ref b1), .val (.ref b32), .val (.int (10 : Int32)), .unset, .unset, .unset] [(.int (10 : Int32)), (.ref b1)])) rfl rfl (hb hby at_214)) ?_
    show OwnR _ _ _ _ _ _ _ (T47.setTop (mkF m 215 #[.val (.int p1), .val (.int p2), .val (.ref b1), .val (.ref b32), .val (.int (10 : Int32)), .unset, .unset, .unset] [(.ref s_UNSUBACK)]))
    refine OwnR.of (fun _ hr => XS.astore X47.here hx rfl (hb hby at_215) rfl rfl (l' := #[.val (.int p1), .val (.int p2), .val (.ref b1), .val (.ref b32), .val (.int (10 : Int32)), .val (.ref s_UNSUBACK), .unset, .unset]) rfl hr) ?_
    show OwnR _ _ _ _ _ _ _ (T47.setTop (mkF m 217 #[.val (.int p1), .val (.int p2), .val (.ref b1), .val (.ref b32), .val (.int (10 : Int32)), .val (.ref s_UNSUBACK), .unset, .unset] []))
    refine OwnR.of (fun _ hr => XS.aload X47.here hx rfl (hb hby at_217) rfl rfl hr) ?_
    show OwnR _ _ _ _ _ _ _ (T47.setTop (mkF m 219 #[.val (.int p1), .val (.int p2), .val (.ref b1), .val (.ref b32), .val (.int (10 : Int32)), .val (.ref s_UNSUBACK), .unset, .unset] [(.ref s_UNSUBACK)]))
    obtain ⟨cq206, kq206, q206a, q206b, q206c⟩ := isOf hZ e47 R94
    obtain ⟨_, _, ⟨T206, L206, kc206, ns206⟩, -, X206, ⟨Lc206, hQ206, l206, y206, z206⟩, st206⟩ := X47.virtualBack hx (y := (⟨"com/example/kurir/kurir/codec/PacketType", "firstByte", "()I"⟩ : MethodName)) (z := (⟨"com/example/kurir/kurir/codec/PacketType", "firstByte", "()I"⟩ : MethodName)) hown (mvT hZ (hw _ (List.mem_of_getElem? (i := 36) rfl))) (mvT hZ (hw _ (List.mem_of_getElem? (i := 37) rfl))) (notFace_of_selects (args := #[]) (mvT hZ (hw _ (List.mem_of_getElem? (i := 39) rfl)))) (mvT hZ (hw _ (List.mem_of_getElem? (i := 39) rfl))) (mvT hZ (hw _ (List.mem_of_getElem? (i := 38) rfl))) (by decide) (backOf (W := 0) (rm1 l Z a0 hw [] s_UNSUBACK (11 : Int32) (0 : Int32) h47 n0 (Nat.le_trans Z0 K47.1) R94 R95 R96) hZ (hw _ (List.mem_of_getElem? (i := 40) rfl)) (hw _ (List.mem_of_getElem? (i := 3) rfl)) (by decide) (by decide)) q206a q206c (g := (mkF m 219 #[.val (.int p1), .val (.int p2), .val (.ref b1), .val (.ref b32), .val (.int (10 : Int32)), .val (.ref s_UNSUBACK), .unset, .unset] [(.ref s_UNSUBACK)])) rfl (by rw [hml]; rfl) (Steps.refl _) (argsL := []) (rest := []) (lenOf pd___I rfl) rfl (by show 2 * 0 + _ ≤ _; exact Nat.le_of_eq rfl) (hb hby at_219) (fun _ _ => ⟨rfl, e47, (by decide : 2 + 0 ≤ _), (by decide : 30 + 0 ≤ _)⟩)
    dsimp only [Pt.U, Pt.locs, Pt.cells, Pt.slots] at X206 l206 y206 z206 st206 hQ206
    rw [l206, y206, z206] at X206
    obtain ⟨rfl, N206q, e206⟩ := hQ206
    have N206 := Fr.app N47 N206q
    refine OwnR.of (fun _ hr => st206.trans hr) ?_
    show OwnR _ _ _ _ _ _ _ (T206.setTop (mkF m 222 #[.val (.int p1), .val (.int p2), .val (.ref b1), .val (.ref b32), .val (.int (10 : Int32)), .val (.ref s_UNSUBACK), .unset, .unset] [(.int (own_fb (11 : Int32) (0 : Int32)))]))
    rw [(by decide : (own_fb (11 : Int32) (0 : Int32)) = (176 : Int32))]
    show OwnR _ _ _ _ _ _ _ (T206.setTop (mkF m 222 #[.val (.int p1), .val (.int p2), .val (.ref b1), .val (.ref b32), .val (.int (10 : Int32)), .val (.ref s_UNSUBACK), .unset, .unset] [(.int (176 : Int32))]))
    refine OwnR.of (fun _ hr => XS.istore X206.here hx rfl (hb hby at_222) rfl (l' := #[.val (.int p1), .val (.int p2), .val (.ref b1), .val (.ref b32), .val (.int (10 : Int32)), .val (.ref s_UNSUBACK), .val (.int (176 : Int32)), .unset]) rfl hr) ?_
    show OwnR _ _ _ _ _ _ _ (T206.setTop (mkF m 224 #[.val (.int p1), .val (.int p2), .val (.ref b1), .val (.ref b32), .val (.int (10 : Int32)), .val (.ref s_UNSUBACK), .val (.int (176 : Int32)), .unset] []))
    refine OwnR.of (fun _ hr => XS.iload X206.here hx rfl (hb hby at_224) rfl hr) ?_
    show OwnR _ _ _ _ _ _ _ (T206.setTop (mkF m 226 #[.val (.int p1), .val (.int p2), .val (.ref b1), .val (.ref b32), .val (.int (10 : Int32)), .val (.ref s_UNSUBACK), .val (.int (176 : Int32)), .unset] [(.int (176 : Int32))]))
    refine OwnR.of (fun _ hr => XS.aloadN X206.here hx rfl (hb hby at_226) rfl rfl hr) ?_
    show OwnR _ _ _ _ _ _ _ (T206.setTop (mkF m 227 #[.val (.int p1), .val (.int p2), .val (.ref b1), .val (.ref b32), .val (.int (10 : Int32)), .val (.ref s_UNSUBACK), .val (.int (176 : Int32)), .unset] [(.ref b32), (.int (176 : Int32))]))
    refine OwnR.of (fun _ hr => XS.iload X206.here hx rfl (hb hby at_227) rfl hr) ?_
    show OwnR _ _ _ _ _ _ _ (T206.setTop (mkF m 229 #[.val (.int p1), .val (.int p2), .val (.ref b1), .val (.ref b32), .val (.int (10 : Int32)), .val (.ref s_UNSUBACK), .val (.int (176 : Int32)), .unset] [(.int (10 : Int32)), (.ref b32), (.int (176 : Int32))]))
    obtain ⟨cl207, Ar207, -, S207, N207, H207, G207⟩ := id V47
    have hin207 : ¬ ((10 : Int32) < 0 ∨ cl207.slots.size ≤ ((10 : Int32)).toNatClampNeg) := (inb_of S207 ⟨by decide, by decide⟩)
    refine OwnR.of (X206.iaload hx (j := (10 : Int32)) (v := (.int (176 : Int32))) (by rw [e206]; exact Ar207.1) (State.isArrayOf_alike hZ.alike Ar207.2.1) Ar207.2.2 hin207 (Has.at H207 hin207 rfl) (g := (mkF m 229 #[.val (.int p1), .val (.int p2), .val (.ref b1), .val (.ref b32), .val (.int (10 : Int32)), .val (.ref s_UNSUBACK), .val (.int (176 : Int32)), .unset] [(.int (10 : Int32)), (.ref b32), (.int (176 : Int32))])) rfl rfl (hb hby at_229)) ?_
    show OwnR _ _ _ _ _ _ _ (T206.setTop (mkF m 230 #[.val (.int p1), .val (.int p2), .val (.ref b1), .val (.ref b32), .val (.int (10 : Int32)), .val (.ref s_UNSUBACK), .val (.int (176 : Int32)), .unset] [(.int (176 : Int32)), (.int (176 : Int32))]))
    refine OwnR.of (fun _ hr => XS.icmpYes X206.here hx rfl (pc0 := 230) (pc' := 235) rfl (hb hby at_230) rfl (teq (by decide : (176 : Int32) = (176 : Int32))).1 (by decide) (by decide) hr) ?_
    show OwnR _ _ _ _ _ _ _ (T206.setTop (mkF m 235 #[.val (.int p1), .val (.int p2), .val (.ref b1), .val (.ref b32), .val (.int (10 : Int32)), .val (.ref s_UNSUBACK), .val (.int (176 : Int32)), .unset] []))
    refine OwnR.of (fun _ hr => XS.iloadN X206.here hx rfl (hb hby at_235) rfl hr) ?_
    show OwnR _ _ _ _ _ _ _ (T206.setTop (mkF m 236 #[.val (.int p1), .val (.int p2), .val (.ref b1), .val (.ref b32), .val (.int (10 : Int32)), .val (.ref s_UNSUBACK), .val (.int (176 : Int32)), .unset] [(.int p2)]))
    refine OwnR.of (fun _ hr => XS.iconst X206.here hx rfl (hb hby at_236) hr) ?_
    show OwnR _ _ _ _ _ _ _ (T206.setTop (mkF m 237 #[.val (.int p1), .val (.int p2), .val (.ref b1), .val (.ref b32), .val (.int (10 : Int32)), .val (.ref s_UNSUBACK), .val (.int (176 : Int32)), .unset] [(.int (1 : Int32)), (.int p2)]))
    refine OwnR.of (fun _ hr => XS.iand X206.here hx rfl (hb hby at_237) rfl hr) ?_
    show OwnR _ _ _ _ _ _ _ (T206.setTop (mkF m 238 #[.val (.int p1), .val (.int p2), .val (.ref b1), .val (.ref b32), .val (.int (10 : Int32)), .val (.ref s_UNSUBACK), .val (.int (176 : Int32)), .unset] [(.int (p2 &&& (1 : Int32)))]))
    by_cases hc238_208 : (p2 &&& (1 : Int32)) = (0 : Int32)
    · skip
      refine OwnR.of (fun _ hr => XS.ifNo X206.here hx rfl (hb hby at_238) rfl ((if0 _ _).trans (teq hc238_208).2) hr) ?_
      show OwnR _ _ _ _ _ _ _ (T206.setTop (mkF m 241 #[.val (.int p1), .val (.int p2), .val (.ref b1), .val (.ref b32), .val (.int (10 : Int32)), .val (.ref s_UNSUBACK), .val (.int (176 : Int32)), .unset] []))
      refine OwnR.of (fun _ hr => XS.aload X206.here hx rfl (hb hby at_241) rfl rfl hr) ?_
      show OwnR _ _ _ _ _ _ _ (T206.setTop (mkF m 243 #[.val (.int p1), .val (.int p2), .val (.ref b1), .val (.ref b32), .val (.int (10 : Int32)), .val (.ref s_UNSUBACK), .val (.int (176 : Int32)), .unset] [(.ref s_UNSUBACK)]))
      obtain ⟨T209, X209, e209, st209⟩ := getS2 X206 hx hZ hown (host := "") (Or.inl (hw _ (List.mem_of_getElem? (i := 32) rfl))) Via.refl e206 R50 (g := (mkF m 243 #[.val (.int p1), .val (.int p2), .val (.ref b1), .val (.ref b32), .val (.int (10 : Int32)), .val (.ref s_UNSUBACK), .val (.int (176 : Int32)), .unset] [(.ref s_UNSUBACK)])) rfl (hb hby at_243)
      refine OwnR.of (st209) ?_
      show OwnR _ _ _ _ _ _ _ (T209.setTop (mkF m 246 #[.val (.int p1), .val (.int p2), .val (.ref b1), .val (.ref b32), .val (.int (10 : Int32)), .val (.ref s_UNSUBACK), .val (.int (176 : Int32)), .unset] [(.ref s_AUTH), (.ref s_UNSUBACK)]))
      refine OwnR.of (fun _ hr => Jvm.RoadKit.acmp (g := (mkF m 246 #[.val (.int p1), .val (.int p2), .val (.ref b1), .val (.ref b32), .val (.int (10 : Int32)), .val (.ref s_UNSUBACK), .val (.int (176 : Int32)), .unset] [(.ref s_AUTH), (.ref s_UNSUBACK)])) X209 hx rfl rfl rfl (pc0 := 246) (pc' := 255) (same := false) rfl (hb hby at_246) rfl (decide_eq_false fun q => ne_UNSUBACK (Value.ref.inj q)) (by decide) (by decide) hr) ?_
      show OwnR _ _ _ _ _ _ _ (T209.setTop (mkF m 255 #[.val (.int p1), .val (.int p2), .val (.ref b1), .val (.ref b32), .val (.int (10 : Int32)), .val (.ref s_UNSUBACK), .val (.int (176 : Int32)), .unset] []))
      obtain ⟨T210, X210, e210, st210⟩ := getS2 X209 hx hZ hown (host := "") (Or.inl (hw _ (List.mem_of_getElem? (i := 56) rfl))) Via.refl e209 R51 (g := (mkF m 255 #[.val (.int p1), .val (.int p2), .val (.ref b1), .val (.ref b32), .val (.int (10 : Int32)), .val (.ref s_UNSUBACK), .val (.int (176 : Int32)), .unset] [])) rfl (hb hby at_255)
      refine OwnR.of (st210) ?_
      show OwnR _ _ _ _ _ _ _ (T210.setTop (mkF m 258 #[.val (.int p1), .val (.int p2), .val (.ref b1), .val (.ref b32), .val (.int (10 : Int32)), .val (.ref s_UNSUBACK), .val (.int (176 : Int32)), .unset] [(.ref s_V3)]))
      refine OwnR.of (fun _ hr => XS.astore X210.here hx rfl (hb hby at_258) rfl rfl (l' := #[.val (.int p1), .val (.int p2), .val (.ref b1), .val (.ref b32), .val (.int (10 : Int32)), .val (.ref s_UNSUBACK), .val (.int (176 : Int32)), .val (.ref s_V3)]) rfl hr) ?_
      show OwnR _ _ _ _ _ _ _ (T210.setTop (mkF m 260 #[.val (.int p1), .val (.int p2), .val (.ref b1), .val (.ref b32), .val (.int (10 : Int32)), .val (.ref s_UNSUBACK), .val (.int (176 : Int32)), .val (.ref s_V3)] []))
      refine OwnR.of (fun _ hr => XS.iload X210.here hx rfl (hb hby at_260) rfl hr) ?_
      show OwnR _ _ _ _ _ _ _ (T210.setTop (mkF m 262 #[.val (.int p1), .val (.int p2), .val (.ref b1), .val (.ref b32), .val (.int (10 : Int32)), .val (.ref s_UNSUBACK), .val (.int (176 : Int32)), .val (.ref s_V3)] [(.int (176 : Int32))]))
      refine OwnR.of (fun _ hr => XS.aload X210.here hx rfl (hb hby at_262) rfl rfl hr) ?_
      show OwnR _ _ _ _ _ _ _ (T210.setTop (mkF m 264 #[.val (.int p1), .val (.int p2), .val (.ref b1), .val (.ref b32), .val (.int (10 : Int32)), .val (.ref s_UNSUBACK), .val (.int (176 : Int32)), .val (.ref s_V3)] [(.ref s_V3), (.int (176 : Int32))]))
      obtain ⟨_, _, ⟨T211, L211, kc211, ns211⟩, -, X211, ⟨Lc211, hQ211, l211, y211, z211⟩, st211⟩ := Jvm.LawKit.callS X210 hx (y := (⟨"com/example/kurir/kurir/codec/PacketType", "of", "(ILcom/example/kurir/kurir/codec/ProtocolVersion;)Lcom/example/kurir/kurir/codec/PacketType;"⟩ : MethodName)) hown (mvT hZ (hw _ (List.mem_of_getElem? (i := 48) rfl))) (mvT hZ (hw _ (List.mem_of_getElem? (i := 49) rfl))) (mvT hZ (hw _ (List.mem_of_getElem? (i := 3) rfl))) (mvT hZ (hw _ (List.mem_of_getElem? (i := 50) rfl))) (by decide) (backOf (W := 0) (rm2_10 l Z a0 hw [] s_V3 sb kb s_CONNECT s_CONNACK s_PUBLISH s_PUBACK s_PUBREC s_PUBREL s_PUBCOMP s_SUBSCRIBE s_SUBACK s_UNSUBSCRIBE s_UNSUBACK s_PINGREQ s_PINGRESP s_DISCONNECT s_AUTH s_V3 h47 n0 (Nat.le_trans Z0 K47.1) R48 R49 R50 R51 ne_UNSUBACK) hZ (hw _ (List.mem_of_getElem? (i := 50) rfl)) (hw _ (List.mem_of_getElem? (i := 3) rfl)) (by decide) (by decide)) (g := (mkF m 264 #[.val (.int p1), .val (.int p2), .val (.ref b1), .val (.ref b32), .val (.int (10 : Int32)), .val (.ref s_UNSUBACK), .val (.int (176 : Int32)), .val (.ref s_V3)] [(.ref s_V3), (.int (176 : Int32))])) rfl (by rw [hml]; rfl) (argsL := [(.int (176 : Int32)), (.ref s_V3)]) (rest := []) (lenOf pd__ILcom_example_kurir_kurir_codec_ProtocolVersion__Lcom_example_kurir_kurir_codec_PacketType_ rfl) rfl (by show 2 * 0 + _ ≤ _; exact Nat.le_of_eq rfl) (hb hby at_264) (fun _ _ => ⟨rfl, e210, (by decide : 2 + 0 ≤ _), (by decide : 30 + 0 ≤ _)⟩)
      dsimp only [Pt.U, Pt.locs, Pt.cells, Pt.slots] at X211 l211 y211 z211 st211 hQ211
      rw [l211, y211, z211] at X211
      obtain ⟨rfl, N211q, e211⟩ := hQ211
      have N211 := Fr.app N206 N211q
      refine OwnR.of (st211) ?_
      show OwnR _ _ _ _ _ _ _ (T211.setTop (mkF m 267 #[.val (.int p1), .val (.int p2), .val (.ref b1), .val (.ref b32), .val (.int (10 : Int32)), .val (.ref s_UNSUBACK), .val (.int (176 : Int32)), .val (.ref s_V3)] [(.ref s_UNSUBACK)]))
      refine OwnR.of (fun _ hr => XS.aload X211.here hx rfl (hb hby at_267) rfl rfl hr) ?_
      show OwnR _ _ _ _ _ _ _ (T211.setTop (mkF m 269 #[.val (.int p1), .val (.int p2), .val (.ref b1), .val (.ref b32), .val (.int (10 : Int32)), .val (.ref s_UNSUBACK), .val (.int (176 : Int32)), .val (.ref s_V3)] [(.ref s_UNSUBACK), (.ref s_UNSUBACK)]))
      refine OwnR.of (fun _ hr => Jvm.RoadKit.acmp (g := (mkF m 269 #[.val (.int p1), .val (.int p2), .val (.ref b1), .val (.ref b32), .val (.int (10 : Int32)), .val (.ref s_UNSUBACK), .val (.int (176 : Int32)), .val (.ref s_V3)] [(.ref s_UNSUBACK), (.ref s_UNSUBACK)])) X211 hx rfl rfl rfl (pc0 := 269) (pc' := 272) (same := true) rfl (hb hby at_269) rfl (decide_eq_true rfl) (by decide) (by decide) hr) ?_
      show OwnR _ _ _ _ _ _ _ (T211.setTop (mkF m 272 #[.val (.int p1), .val (.int p2), .val (.ref b1), .val (.ref b32), .val (.int (10 : Int32)), .val (.ref s_UNSUBACK), .val (.int (176 : Int32)), .val (.ref s_V3)] []))
      refine OwnR.of (fun _ hr => XS.iconst X211.here hx rfl (hb hby at_272) hr) ?_
      show OwnR _ _ _ _ _ _ _ (T211.setTop (mkF m 273 #[.val (.int p1), .val (.int p2), .val (.ref b1), .val (.ref b32), .val (.int (10 : Int32)), .val (.ref s_UNSUBACK), .val (.int (176 : Int32)), .val (.ref s_V3)] [(.int (1 : Int32))]))
      refine OwnR.of (fun _ hr => XS.goto X211.here hx rfl (pc0 := 273) (pc' := 277) rfl (hb hby at_273) (by decide) (by decide) hr) ?_
      show OwnR _ _ _ _ _ _ _ (T211.setTop (mkF m 277 #[.val (.int p1), .val (.int p2), .val (.ref b1), .val (.ref b32), .val (.int (10 : Int32)), .val (.ref s_UNSUBACK), .val (.int (176 : Int32)), .val (.ref s_V3)] [(.int (1 : Int32))]))
      refine own_leafN X211 hx hlk (t := .boolean) Bd.returns (by simp) (hb hby at_277) (z' := (1 : Int32)) rfl (by decide) (by decide) ?_
      show Q0 Z  h0 n0 _ T211.heap _
      rw [show T211.heap = h47 from e211]
      refine ⟨?_, N211⟩
      show (some (.int (1 : Int32)) : Option Value) = some (.int (1 : Int32))
      rfl
    · skip
      refine OwnR.of (fun _ hr => XS.ifYes X206.here hx rfl (pc0 := 238) (pc' := 249) rfl (hb hby at_238) rfl ((if0 _ _).trans (feq hc238_208).2) (by decide) (by decide) hr) ?_
      show OwnR _ _ _ _ _ _ _ (T206.setTop (mkF m 249 #[.val (.int p1), .val (.int p2), .val (.ref b1), .val (.ref b32), .val (.int (10 : Int32)), .val (.ref s_UNSUBACK), .val (.int (176 : Int32)), .unset] []))
      obtain ⟨T212, X212, e212, st212⟩ := getS2 X206 hx hZ hown (host := "") (Or.inl (hw _ (List.mem_of_getElem? (i := 45) rfl))) Via.refl e206 R52 (g := (mkF m 249 #[.val (.int p1), .val (.int p2), .val (.ref b1), .val (.ref b32), .val (.int (10 : Int32)), .val (.ref s_UNSUBACK), .val (.int (176 : Int32)), .unset] [])) rfl (hb hby at_249)
      refine OwnR.of (st212) ?_
      show OwnR _ _ _ _ _ _ _ (T212.setTop (mkF m 252 #[.val (.int p1), .val (.int p2), .val (.ref b1), .val (.ref b32), .val (.int (10 : Int32)), .val (.ref s_UNSUBACK), .val (.int (176 : Int32)), .unset] [(.ref s_V5)]))
      refine OwnR.of (fun _ hr => XS.goto X212.here hx rfl (pc0 := 252) (pc' := 258) rfl (hb hby at_252) (by decide) (by decide) hr) ?_
      show OwnR _ _ _ _ _ _ _ (T212.setTop (mkF m 258 #[.val (.int p1), .val (.int p2), .val (.ref b1), .val (.ref b32), .val (.int (10 : Int32)), .val (.ref s_UNSUBACK), .val (.int (176 : Int32)), .unset] [(.ref s_V5)]))
      refine OwnR.of (fun _ hr => XS.astore X212.here hx rfl (hb hby at_258) rfl rfl (l' := #[.val (.int p1), .val (.int p2), .val (.ref b1), .val (.ref b32), .val (.int (10 : Int32)), .val (.ref s_UNSUBACK), .val (.int (176 : Int32)), .val (.ref s_V5)]) rfl hr) ?_
      show OwnR _ _ _ _ _ _ _ (T212.setTop (mkF m 260 #[.val (.int p1), .val (.int p2), .val (.ref b1), .val (.ref b32), .val (.int (10 : Int32)), .val (.ref s_UNSUBACK), .val (.int (176 : Int32)), .val (.ref s_V5)] []))
      refine OwnR.of (fun _ hr => XS.iload X212.here hx rfl (hb hby at_260) rfl hr) ?_
      show OwnR _ _ _ _ _ _ _ (T212.setTop (mkF m 262 #[.val (.int p1), .val (.int p2), .val (.ref b1), .val (.ref b32), .val (.int (10 : Int32)), .val (.ref s_UNSUBACK), .val (.int (176 : Int32)), .val (.ref s_V5)] [(.int (176 : Int32))]))
      refine OwnR.of (fun _ hr => XS.aload X212.here hx rfl (hb hby at_262) rfl rfl hr) ?_
      show OwnR _ _ _ _ _ _ _ (T212.setTop (mkF m 264 #[.val (.int p1), .val (.int p2), .val (.ref b1), .val (.ref b32), .val (.int (10 : Int32)), .val (.ref s_UNSUBACK), .val (.int (176 : Int32)), .val (.ref s_V5)] [(.ref s_V5), (.int (176 : Int32))]))
      obtain ⟨_, _, ⟨T213, L213, kc213, ns213⟩, -, X213, ⟨Lc213, hQ213, l213, y213, z213⟩, st213⟩ := Jvm.LawKit.callS X212 hx (y := (⟨"com/example/kurir/kurir/codec/PacketType", "of", "(ILcom/example/kurir/kurir/codec/ProtocolVersion;)Lcom/example/kurir/kurir/codec/PacketType;"⟩ : MethodName)) hown (mvT hZ (hw _ (List.mem_of_getElem? (i := 48) rfl))) (mvT hZ (hw _ (List.mem_of_getElem? (i := 49) rfl))) (mvT hZ (hw _ (List.mem_of_getElem? (i := 3) rfl))) (mvT hZ (hw _ (List.mem_of_getElem? (i := 50) rfl))) (by decide) (backOf (W := 0) (rm2_10 l Z a0 hw [] s_V5 sb kb s_CONNECT s_CONNACK s_PUBLISH s_PUBACK s_PUBREC s_PUBREL s_PUBCOMP s_SUBSCRIBE s_SUBACK s_UNSUBSCRIBE s_UNSUBACK s_PINGREQ s_PINGRESP s_DISCONNECT s_AUTH s_V3 h47 n0 (Nat.le_trans Z0 K47.1) R48 R49 R50 R51 ne_UNSUBACK) hZ (hw _ (List.mem_of_getElem? (i := 50) rfl)) (hw _ (List.mem_of_getElem? (i := 3) rfl)) (by decide) (by decide)) (g := (mkF m 264 #[.val (.int p1), .val (.int p2), .val (.ref b1), .val (.ref b32), .val (.int (10 : Int32)), .val (.ref s_UNSUBACK), .val (.int (176 : Int32)), .val (.ref s_V5)] [(.ref s_V5), (.int (176 : Int32))])) rfl (by rw [hml]; rfl) (argsL := [(.int (176 : Int32)), (.ref s_V5)]) (rest := []) (lenOf pd__ILcom_example_kurir_kurir_codec_ProtocolVersion__Lcom_example_kurir_kurir_codec_PacketType_ rfl) rfl (by show 2 * 0 + _ ≤ _; exact Nat.le_of_eq rfl) (hb hby at_264) (fun _ _ => ⟨rfl, e212, (by decide : 2 + 0 ≤ _), (by decide : 30 + 0 ≤ _)⟩)
      dsimp only [Pt.U, Pt.locs, Pt.cells, Pt.slots] at X213 l213 y213 z213 st213 hQ213
      rw [l213, y213, z213] at X213
      obtain ⟨rfl, N213q, e213⟩ := hQ213
      have N213 := Fr.app N206 N213q
      refine OwnR.of (st213) ?_
      show OwnR _ _ _ _ _ _ _ (T213.setTop (mkF m 267 #[.val (.int p1), .val (.int p2), .val (.ref b1), .val (.ref b32), .val (.int (10 : Int32)), .val (.ref s_UNSUBACK), .val (.int (176 : Int32)), .val (.ref s_V5)] [(.ref s_UNSUBACK)]))
      refine OwnR.of (fun _ hr => XS.aload X213.here hx rfl (hb hby at_267) rfl rfl hr) ?_
      show OwnR _ _ _ _ _ _ _ (T213.setTop (mkF m 269 #[.val (.int p1), .val (.int p2), .val (.ref b1), .val (.ref b32), .val (.int (10 : Int32)), .val (.ref s_UNSUBACK), .val (.int (176 : Int32)), .val (.ref s_V5)] [(.ref s_UNSUBACK), (.ref s_UNSUBACK)]))
      refine OwnR.of (fun _ hr => Jvm.RoadKit.acmp (g := (mkF m 269 #[.val (.int p1), .val (.int p2), .val (.ref b1), .val (.ref b32), .val (.int (10 : Int32)), .val (.ref s_UNSUBACK), .val (.int (176 : Int32)), .val (.ref s_V5)] [(.ref s_UNSUBACK), (.ref s_UNSUBACK)])) X213 hx rfl rfl rfl (pc0 := 269) (pc' := 272) (same := true) rfl (hb hby at_269) rfl (decide_eq_true rfl) (by decide) (by decide) hr) ?_
      show OwnR _ _ _ _ _ _ _ (T213.setTop (mkF m 272 #[.val (.int p1), .val (.int p2), .val (.ref b1), .val (.ref b32), .val (.int (10 : Int32)), .val (.ref s_UNSUBACK), .val (.int (176 : Int32)), .val (.ref s_V5)] []))
      refine OwnR.of (fun _ hr => XS.iconst X213.here hx rfl (hb hby at_272) hr) ?_
      show OwnR _ _ _ _ _ _ _ (T213.setTop (mkF m 273 #[.val (.int p1), .val (.int p2), .val (.ref b1), .val (.ref b32), .val (.int (10 : Int32)), .val (.ref s_UNSUBACK), .val (.int (176 : Int32)), .val (.ref s_V5)] [(.int (1 : Int32))]))
      refine OwnR.of (fun _ hr => XS.goto X213.here hx rfl (pc0 := 273) (pc' := 277) rfl (hb hby at_273) (by decide) (by decide) hr) ?_
      show OwnR _ _ _ _ _ _ _ (T213.setTop (mkF m 277 #[.val (.int p1), .val (.int p2), .val (.ref b1), .val (.ref b32), .val (.int (10 : Int32)), .val (.ref s_UNSUBACK), .val (.int (176 : Int32)), .val (.ref s_V5)] [(.int (1 : Int32))]))
      refine own_leafN X213 hx hlk (t := .boolean) Bd.returns (by simp) (hb hby at_277) (z' := (1 : Int32)) rfl (by decide) (by decide) ?_
      show Q0 Z  h0 n0 _ T213.heap _
      rw [show T213.heap = h47 from e213]
      refine ⟨?_, N213⟩
      show (some (.int (1 : Int32)) : Option Value) = some (.int (1 : Int32))
      rfl
  · skip
    show OwnR _ _ _ _ _ _ _ (T47.setTop (mkF m 211 #[.val (.int p1), .val (.int p2), .val (.ref b1), .val (.ref b32), .val (.int (11 : Int32)), .unset, .unset, .unset] []))
    refine OwnR.of (fun _ hr => XS.aloadN X47.here hx rfl (hb hby at_211) rfl rfl hr) ?_
    show OwnR _ _ _ _ _ _ _ (T47.setTop (mkF m 212 #[.val (.int p1), .val (.int p2), .val (.ref b1), .val (.ref b32), .val (.int (11 : Int32)), .unset, .unset, .unset] [(.ref b1)]))
    refine OwnR.of (fun _ hr => XS.iload X47.here hx rfl (hb hby at_212) rfl hr) ?_
    show OwnR _ _ _ _ _ _ _ (T47.setTop (mkF m 214 #[.val (.int p1), .val (.int p2), .val (.ref b1), .val (.ref b32), .val (.int (11 : Int32)), .unset, .unset, .unset] [(.int (11 : Int32)), (.ref b1)]))
    obtain ⟨cl214, Ar214, -, S214, N214, H214, G214⟩ := id R113
    have hin214 : ¬ ((11 : Int32) < 0 ∨ cl214.slots.size ≤ ((11 : Int32)).toNatClampNeg) := (inb_of S214 ⟨by decide, by decide⟩)
    refine OwnR.of (X47.aaload hx (j := (11 : Int32)) (v := (.ref s_PINGREQ)) (by rw [e47]; exact Ar214.1) (State.isArrayOf_alike hZ.alike Ar214.2.1) rfl Ar214.2.2 hin214 (Has.at H214 hin214 rfl) (g := (mkF m 214 #[.val (.int p1), .val (.int p2), .val (.ref b1), .val (.ref b32), .val (.int (11 : Int32)), .unset, .unset, .unset] [(.int (11 : Int32)), (.ref b1)])) rfl rfl (hb hby at_214)) ?_
    show OwnR _ _ _ _ _ _ _ (T47.setTop (mkF m 215 #[.val (.int p1), .val (.int p2), .val (.ref b1), .val (.ref b32), .val (.int (11 : Int32)), .unset, .unset, .unset] [(.ref s_PINGREQ)]))
    refine OwnR.of (fun _ hr => XS.astore X47.here hx rfl (hb hby at_215) rfl rfl (l' := #[.val (.int p1), .val (.int p2), .val (.ref b1), .val (.ref b32), .val (.int (11 : Int32)), .val (.ref s_PINGREQ), .unset, .unset]) rfl hr) ?_
    show OwnR _ _ _ _ _ _ _ (T47.setTop (mkF m 217 #[.val (.int p1), .val (.int p2), .val (.ref b1), .val (.ref b32), .val (.int (11 : Int32)), .val (.ref s_PINGREQ), .unset, .unset] []))
    refine OwnR.of (fun _ hr => XS.aload X47.here hx rfl (hb hby at_217) rfl rfl hr) ?_
    show OwnR _ _ _ _ _ _ _ (T47.setTop (mkF m 219 #[.val (.int p1), .val (.int p2), .val (.ref b1), .val (.ref b32), .val (.int (11 : Int32)), .val (.ref s_PINGREQ), .unset, .unset] [(.ref s_PINGREQ)]))
    obtain ⟨cq215, kq215, q215a, q215b, q215c⟩ := isOf hZ e47 R98
    obtain ⟨_, _, ⟨T215, L215, kc215, ns215⟩, -, X215, ⟨Lc215, hQ215, l215, y215, z215⟩, st215⟩ := X47.virtualBack hx (y := (⟨"com/example/kurir/kurir/codec/PacketType", "firstByte", "()I"⟩ : MethodName)) (z := (⟨"com/example/kurir/kurir/codec/PacketType", "firstByte", "()I"⟩ : MethodName)) hown (mvT hZ (hw _ (List.mem_of_getElem? (i := 36) rfl))) (mvT hZ (hw _ (List.mem_of_getElem? (i := 37) rfl))) (notFace_of_selects (args := #[]) (mvT hZ (hw _ (List.mem_of_getElem? (i := 39) rfl)))) (mvT hZ (hw _ (List.mem_of_getElem? (i := 39) rfl))) (mvT hZ (hw _ (List.mem_of_getElem? (i := 38) rfl))) (by decide) (backOf (W := 0) (rm1 l Z a0 hw [] s_PINGREQ (12 : Int32) (0 : Int32) h47 n0 (Nat.le_trans Z0 K47.1) R98 R99 R100) hZ (hw _ (List.mem_of_getElem? (i := 40) rfl)) (hw _ (List.mem_of_getElem? (i := 3) rfl)) (by decide) (by decide)) q215a q215c (g := (mkF m 219 #[.val (.int p1), .val (.int p2), .val (.ref b1), .val (.ref b32), .val (.int (11 : Int32)), .val (.ref s_PINGREQ), .unset, .unset] [(.ref s_PINGREQ)])) rfl (by rw [hml]; rfl) (Steps.refl _) (argsL := []) (rest := []) (lenOf pd___I rfl) rfl (by show 2 * 0 + _ ≤ _; exact Nat.le_of_eq rfl) (hb hby at_219) (fun _ _ => ⟨rfl, e47, (by decide : 2 + 0 ≤ _), (by decide : 30 + 0 ≤ _)⟩)
    dsimp only [Pt.U, Pt.locs, Pt.cells, Pt.slots] at X215 l215 y215 z215 st215 hQ215
    rw [l215, y215, z215] at X215
    obtain ⟨rfl, N215q, e215⟩ := hQ215
    have N215 := Fr.app N47 N215q
    refine OwnR.of (fun _ hr => st215.trans hr) ?_
    show OwnR _ _ _ _ _ _ _ (T215.setTop (mkF m 222 #[.val (.int p1), .val (.int p2), .val (.ref b1), .val (.ref b32), .val (.int (11 : Int32)), .val (.ref s_PINGREQ), .unset, .unset] [(.int (own_fb (12 : Int32) (0 : Int32)))]))
    rw [(by decide : (own_fb (12 : Int32) (0 : Int32)) = (192 : Int32))]
    show OwnR _ _ _ _ _ _ _ (T215.setTop (mkF m 222 #[.val (.int p1), .val (.int p2), .val (.ref b1), .val (.ref b32), .val (.int (11 : Int32)), .val (.ref s_PINGREQ), .unset, .unset] [(.int (192 : Int32))]))
    refine OwnR.of (fun _ hr => XS.istore X215.here hx rfl (hb hby at_222) rfl (l' := #[.val (.int p1), .val (.int p2), .val (.ref b1), .val (.ref b32), .val (.int (11 : Int32)), .val (.ref s_PINGREQ), .val (.int (192 : Int32)), .unset]) rfl hr) ?_
    show OwnR _ _ _ _ _ _ _ (T215.setTop (mkF m 224 #[.val (.int p1), .val (.int p2), .val (.ref b1), .val (.ref b32), .val (.int (11 : Int32)), .val (.ref s_PINGREQ), .val (.int (192 : Int32)), .unset] []))
    refine OwnR.of (fun _ hr => XS.iload X215.here hx rfl (hb hby at_224) rfl hr) ?_
    show OwnR _ _ _ _ _ _ _ (T215.setTop (mkF m 226 #[.val (.int p1), .val (.int p2), .val (.ref b1), .val (.ref b32), .val (.int (11 : Int32)), .val (.ref s_PINGREQ), .val (.int (192 : Int32)), .unset] [(.int (192 : Int32))]))
    refine OwnR.of (fun _ hr => XS.aloadN X215.here hx rfl (hb hby at_226) rfl rfl hr) ?_
    show OwnR _ _ _ _ _ _ _ (T215.setTop (mkF m 227 #[.val (.int p1), .val (.int p2), .val (.ref b1), .val (.ref b32), .val (.int (11 : Int32)), .val (.ref s_PINGREQ), .val (.int (192 : Int32)), .unset] [(.ref b32), (.int (192 : Int32))]))
    refine OwnR.of (fun _ hr => XS.iload X215.here hx rfl (hb hby at_227) rfl hr) ?_
    show OwnR _ _ _ _ _ _ _ (T215.setTop (mkF m 229 #[.val (.int p1), .val (.int p2), .val (.ref b1), .val (.ref b32), .val (.int (11 : Int32)), .val (.ref s_PINGREQ), .val (.int (192 : Int32)), .unset] [(.int (11 : Int32)), (.ref b32), (.int (192 : Int32))]))
    obtain ⟨cl216, Ar216, -, S216, N216, H216, G216⟩ := id V47
    have hin216 : ¬ ((11 : Int32) < 0 ∨ cl216.slots.size ≤ ((11 : Int32)).toNatClampNeg) := (inb_of S216 ⟨by decide, by decide⟩)
    refine OwnR.of (X215.iaload hx (j := (11 : Int32)) (v := (.int (192 : Int32))) (by rw [e215]; exact Ar216.1) (State.isArrayOf_alike hZ.alike Ar216.2.1) Ar216.2.2 hin216 (Has.at H216 hin216 rfl) (g := (mkF m 229 #[.val (.int p1), .val (.int p2), .val (.ref b1), .val (.ref b32), .val (.int (11 : Int32)), .val (.ref s_PINGREQ), .val (.int (192 : Int32)), .unset] [(.int (11 : Int32)), (.ref b32), (.int (192 : Int32))])) rfl rfl (hb hby at_229)) ?_
    show OwnR _ _ _ _ _ _ _ (T215.setTop (mkF m 230 #[.val (.int p1), .val (.int p2), .val (.ref b1), .val (.ref b32), .val (.int (11 : Int32)), .val (.ref s_PINGREQ), .val (.int (192 : Int32)), .unset] [(.int (192 : Int32)), (.int (192 : Int32))]))
    refine OwnR.of (fun _ hr => XS.icmpYes X215.here hx rfl (pc0 := 230) (pc' := 235) rfl (hb hby at_230) rfl (teq (by decide : (192 : Int32) = (192 : Int32))).1 (by decide) (by decide) hr) ?_
    show OwnR _ _ _ _ _ _ _ (T215.setTop (mkF m 235 #[.val (.int p1), .val (.int p2), .val (.ref b1), .val (.ref b32), .val (.int (11 : Int32)), .val (.ref s_PINGREQ), .val (.int (192 : Int32)), .unset] []))
    refine OwnR.of (fun _ hr => XS.iloadN X215.here hx rfl (hb hby at_235) rfl hr) ?_
    show OwnR _ _ _ _ _ _ _ (T215.setTop (mkF m 236 #[.val (.int p1), .val (.int p2), .val (.ref b1), .val (.ref b32), .val (.int (11 : Int32)), .val (.ref s_PINGREQ), .val (.int (192 : Int32)), .unset] [(.int p2)]))
    refine OwnR.of (fun _ hr => XS.iconst X215.here hx rfl (hb hby at_236) hr) ?_
    show OwnR _ _ _ _ _ _ _ (T215.setTop (mkF m 237 #[.val (.int p1), .val (.int p2), .val (.ref b1), .val (.ref b32), .val (.int (11 : Int32)), .val (.ref s_PINGREQ), .val (.int (192 : Int32)), .unset] [(.int (1 : Int32)), (.int p2)]))
    refine OwnR.of (fun _ hr => XS.iand X215.here hx rfl (hb hby at_237) rfl hr) ?_
    show OwnR _ _ _ _ _ _ _ (T215.setTop (mkF m 238 #[.val (.int p1), .val (.int p2), .val (.ref b1), .val (.ref b32), .val (.int (11 : Int32)), .val (.ref s_PINGREQ), .val (.int (192 : Int32)), .unset] [(.int (p2 &&& (1 : Int32)))]))
    by_cases hc238_217 : (p2 &&& (1 : Int32)) = (0 : Int32)
    · skip
      refine OwnR.of (fun _ hr => XS.ifNo X215.here hx rfl (hb hby at_238) rfl ((if0 _ _).trans (teq hc238_217).2) hr) ?_
      show OwnR _ _ _ _ _ _ _ (T215.setTop (mkF m 241 #[.val (.int p1), .val (.int p2), .val (.ref b1), .val (.ref b32), .val (.int (11 : Int32)), .val (.ref s_PINGREQ), .val (.int (192 : Int32)), .unset] []))
      refine OwnR.of (fun _ hr => XS.aload X215.here hx rfl (hb hby at_241) rfl rfl hr) ?_
      show OwnR _ _ _ _ _ _ _ (T215.setTop (mkF m 243 #[.val (.int p1), .val (.int p2), .val (.ref b1), .val (.ref b32), .val (.int (11 : Int32)), .val (.ref s_PINGREQ), .val (.int (192 : Int32)), .unset] [(.ref s_PINGREQ)]))
      obtain ⟨T218, X218, e218, st218⟩ := getS2 X215 hx hZ hown (host := "") (Or.inl (hw _ (List.mem_of_getElem? (i := 32) rfl))) Via.refl e215 R50 (g := (mkF m 243 #[.val (.int p1), .val (.int p2), .val (.ref b1), .val (.ref b32), .val (.int (11 : Int32)), .val (.ref s_PINGREQ), .val (.int (192 : Int32)), .unset] [(.ref s_PINGREQ)])) rfl (hb hby at_243)
      refine OwnR.of (st218) ?_
      show OwnR _ _ _ _ _ _ _ (T218.setTop (mkF m 246 #[.val (.int p1), .val (.int p2), .val (.ref b1), .val (.ref b32), .val (.int (11 : Int32)), .val (.ref s_PINGREQ), .val (.int (192 : Int32)), .unset] [(.ref s_AUTH), (.ref s_PINGREQ)]))
      refine OwnR.of (fun _ hr => Jvm.RoadKit.acmp (g := (mkF m 246 #[.val (.int p1), .val (.int p2), .val (.ref b1), .val (.ref b32), .val (.int (11 : Int32)), .val (.ref s_PINGREQ), .val (.int (192 : Int32)), .unset] [(.ref s_AUTH), (.ref s_PINGREQ)])) X218 hx rfl rfl rfl (pc0 := 246) (pc' := 255) (same := false) rfl (hb hby at_246) rfl (decide_eq_false fun q => ne_PINGREQ (Value.ref.inj q)) (by decide) (by decide) hr) ?_
      show OwnR _ _ _ _ _ _ _ (T218.setTop (mkF m 255 #[.val (.int p1), .val (.int p2), .val (.ref b1), .val (.ref b32), .val (.int (11 : Int32)), .val (.ref s_PINGREQ), .val (.int (192 : Int32)), .unset] []))
      obtain ⟨T219, X219, e219, st219⟩ := getS2 X218 hx hZ hown (host := "") (Or.inl (hw _ (List.mem_of_getElem? (i := 56) rfl))) Via.refl e218 R51 (g := (mkF m 255 #[.val (.int p1), .val (.int p2), .val (.ref b1), .val (.ref b32), .val (.int (11 : Int32)), .val (.ref s_PINGREQ), .val (.int (192 : Int32)), .unset] [])) rfl (hb hby at_255)
      refine OwnR.of (st219) ?_
      show OwnR _ _ _ _ _ _ _ (T219.setTop (mkF m 258 #[.val (.int p1), .val (.int p2), .val (.ref b1), .val (.ref b32), .val (.int (11 : Int32)), .val (.ref s_PINGREQ), .val (.int (192 : Int32)), .unset] [(.ref s_V3)]))
      refine OwnR.of (fun _ hr => XS.astore X219.here hx rfl (hb hby at_258) rfl rfl (l' := #[.val (.int p1), .val (.int p2), .val (.ref b1), .val (.ref b32), .val (.int (11 : Int32)), .val (.ref s_PINGREQ), .val (.int (192 : Int32)), .val (.ref s_V3)]) rfl hr) ?_
      show OwnR _ _ _ _ _ _ _ (T219.setTop (mkF m 260 #[.val (.int p1), .val (.int p2), .val (.ref b1), .val (.ref b32), .val (.int (11 : Int32)), .val (.ref s_PINGREQ), .val (.int (192 : Int32)), .val (.ref s_V3)] []))
      refine OwnR.of (fun _ hr => XS.iload X219.here hx rfl (hb hby at_260) rfl hr) ?_
      show OwnR _ _ _ _ _ _ _ (T219.setTop (mkF m 262 #[.val (.int p1), .val (.int p2), .val (.ref b1), .val (.ref b32), .val (.int (11 : Int32)), .val (.ref s_PINGREQ), .val (.int (192 : Int32)), .val (.ref s_V3)] [(.int (192 : Int32))]))
      refine OwnR.of (fun _ hr => XS.aload X219.here hx rfl (hb hby at_262) rfl rfl hr) ?_
      show OwnR _ _ _ _ _ _ _ (T219.setTop (mkF m 264 #[.val (.int p1), .val (.int p2), .val (.ref b1), .val (.ref b32), .val (.int (11 : Int32)), .val (.ref s_PINGREQ), .val (.int (192 : Int32)), .val (.ref s_V3)] [(.ref s_V3), (.int (192 : Int32))]))
      obtain ⟨_, _, ⟨T220, L220, kc220, ns220⟩, -, X220, ⟨Lc220, hQ220, l220, y220, z220⟩, st220⟩ := Jvm.LawKit.callS X219 hx (y := (⟨"com/example/kurir/kurir/codec/PacketType", "of", "(ILcom/example/kurir/kurir/codec/ProtocolVersion;)Lcom/example/kurir/kurir/codec/PacketType;"⟩ : MethodName)) hown (mvT hZ (hw _ (List.mem_of_getElem? (i := 48) rfl))) (mvT hZ (hw _ (List.mem_of_getElem? (i := 49) rfl))) (mvT hZ (hw _ (List.mem_of_getElem? (i := 3) rfl))) (mvT hZ (hw _ (List.mem_of_getElem? (i := 50) rfl))) (by decide) (backOf (W := 0) (rm2_11 l Z a0 hw [] s_V3 sb kb s_CONNECT s_CONNACK s_PUBLISH s_PUBACK s_PUBREC s_PUBREL s_PUBCOMP s_SUBSCRIBE s_SUBACK s_UNSUBSCRIBE s_UNSUBACK s_PINGREQ s_PINGRESP s_DISCONNECT s_AUTH s_V3 h47 n0 (Nat.le_trans Z0 K47.1) R48 R49 R50 R51 ne_PINGREQ) hZ (hw _ (List.mem_of_getElem? (i := 50) rfl)) (hw _ (List.mem_of_getElem? (i := 3) rfl)) (by decide) (by decide)) (g := (mkF m 264 #[.val (.int p1), .val (.int p2), .val (.ref b1), .val (.ref b32), .val (.int (11 : Int32)), .val (.ref s_PINGREQ), .val (.int (192 : Int32)), .val (.ref s_V3)] [(.ref s_V3), (.int (192 : Int32))])) rfl (by rw [hml]; rfl) (argsL := [(.int (192 : Int32)), (.ref s_V3)]) (rest := []) (lenOf pd__ILcom_example_kurir_kurir_codec_ProtocolVersion__Lcom_example_kurir_kurir_codec_PacketType_ rfl) rfl (by show 2 * 0 + _ ≤ _; exact Nat.le_of_eq rfl) (hb hby at_264) (fun _ _ => ⟨rfl, e219, (by decide : 2 + 0 ≤ _), (by decide : 30 + 0 ≤ _)⟩)
      dsimp only [Pt.U, Pt.locs, Pt.cells, Pt.slots] at X220 l220 y220 z220 st220 hQ220
      rw [l220, y220, z220] at X220
      obtain ⟨rfl, N220q, e220⟩ := hQ220
      have N220 := Fr.app N215 N220q
      refine OwnR.of (st220) ?_
      show OwnR _ _ _ _ _ _ _ (T220.setTop (mkF m 267 #[.val (.int p1), .val (.int p2), .val (.ref b1), .val (.ref b32), .val (.int (11 : Int32)), .val (.ref s_PINGREQ), .val (.int (192 : Int32)), .val (.ref s_V3)] [(.ref s_PINGREQ)]))
      refine OwnR.of (fun _ hr => XS.aload X220.here hx rfl (hb hby at_267) rfl rfl hr) ?_
      show OwnR _ _ _ _ _ _ _ (T220.setTop (mkF m 269 #[.val (.int p1), .val (.int p2), .val (.ref b1), .val (.ref b32), .val (.int (11 : Int32)), .val (.ref s_PINGREQ), .val (.int (192 : Int32)), .val (.ref s_V3)] [(.ref s_PINGREQ), (.ref s_PINGREQ)]))
      refine OwnR.of (fun _ hr => Jvm.RoadKit.acmp (g := (mkF m 269 #[.val (.int p1), .val (.int p2), .val (.ref b1), .val (.ref b32), .val (.int (11 : Int32)), .val (.ref s_PINGREQ), .val (.int (192 : Int32)), .val (.ref s_V3)] [(.ref s_PINGREQ), (.ref s_PINGREQ)])) X220 hx rfl rfl rfl (pc0 := 269) (pc' := 272) (same := true) rfl (hb hby at_269) rfl (decide_eq_true rfl) (by decide) (by decide) hr) ?_
      show OwnR _ _ _ _ _ _ _ (T220.setTop (mkF m 272 #[.val (.int p1), .val (.int p2), .val (.ref b1), .val (.ref b32), .val (.int (11 : Int32)), .val (.ref s_PINGREQ), .val (.int (192 : Int32)), .val (.ref s_V3)] []))
      refine OwnR.of (fun _ hr => XS.iconst X220.here hx rfl (hb hby at_272) hr) ?_
      show OwnR _ _ _ _ _ _ _ (T220.setTop (mkF m 273 #[.val (.int p1), .val (.int p2), .val (.ref b1), .val (.ref b32), .val (.int (11 : Int32)), .val (.ref s_PINGREQ), .val (.int (192 : Int32)), .val (.ref s_V3)] [(.int (1 : Int32))]))
      refine OwnR.of (fun _ hr => XS.goto X220.here hx rfl (pc0 := 273) (pc' := 277) rfl (hb hby at_273) (by decide) (by decide) hr) ?_
      show OwnR _ _ _ _ _ _ _ (T220.setTop (mkF m 277 #[.val (.int p1), .val (.int p2), .val (.ref b1), .val (.ref b32), .val (.int (11 : Int32)), .val (.ref s_PINGREQ), .val (.int (192 : Int32)), .val (.ref s_V3)] [(.int (1 : Int32))]))
      refine own_leafN X220 hx hlk (t := .boolean) Bd.returns (by simp) (hb hby at_277) (z' := (1 : Int32)) rfl (by decide) (by decide) ?_
      show Q0 Z  h0 n0 _ T220.heap _
      rw [show T220.heap = h47 from e220]
      refine ⟨?_, N220⟩
      show (some (.int (1 : Int32)) : Option Value) = some (.int (1 : Int32))
      rfl
    · skip
      refine OwnR.of (fun _ hr => XS.ifYes X215.here hx rfl (pc0 := 238) (pc' := 249) rfl (hb hby at_238) rfl ((if0 _ _).trans (feq hc238_217).2) (by decide) (by decide) hr) ?_
      show OwnR _ _ _ _ _ _ _ (T215.setTop (mkF m 249 #[.val (.int p1), .val (.int p2), .val (.ref b1), .val (.ref b32), .val (.int (11 : Int32)), .val (.ref s_PINGREQ), .val (.int (192 : Int32)), .unset] []))
      obtain ⟨T221, X221, e221, st221⟩ := getS2 X215 hx hZ hown (host := "") (Or.inl (hw _ (List.mem_of_getElem? (i := 45) rfl))) Via.refl e215 R52 (g := (mkF m 249 #[.val (.int p1), .val (.int p2), .val (.ref b1), .val (.ref b32), .val (.int (11 : Int32)), .val (.ref s_PINGREQ), .val (.int (192 : Int32)), .unset] [])) rfl (hb hby at_249)
      refine OwnR.of (st221) ?_
      show OwnR _ _ _ _ _ _ _ (T221.setTop (mkF m 252 #[.val (.int p1), .val (.int p2), .val (.ref b1), .val (.ref b32), .val (.int (11 : Int32)), .val (.ref s_PINGREQ), .val (.int (192 : Int32)), .unset] [(.ref s_V5)]))
      refine OwnR.of (fun _ hr => XS.goto X221.here hx rfl (pc0 := 252) (pc' := 258) rfl (hb hby at_252) (by decide) (by decide) hr) ?_
      show OwnR _ _ _ _ _ _ _ (T221.setTop (mkF m 258 #[.val (.int p1), .val (.int p2), .val (.ref b1), .val (.ref b32), .val (.int (11 : Int32)), .val (.ref s_PINGREQ), .val (.int (192 : Int32)), .unset] [(.ref s_V5)]))
      refine OwnR.of (fun _ hr => XS.astore X221.here hx rfl (hb hby at_258) rfl rfl (l' := #[.val (.int p1), .val (.int p2), .val (.ref b1), .val (.ref b32), .val (.int (11 : Int32)), .val (.ref s_PINGREQ), .val (.int (192 : Int32)), .val (.ref s_V5)]) rfl hr) ?_
      show OwnR _ _ _ _ _ _ _ (T221.setTop (mkF m 260 #[.val (.int p1), .val (.int p2), .val (.ref b1), .val (.ref b32), .val (.int (11 : Int32)), .val (.ref s_PINGREQ), .val (.int (192 : Int32)), .val (.ref s_V5)] []))
      refine OwnR.of (fun _ hr => XS.iload X221.here hx rfl (hb hby at_260) rfl hr) ?_
      show OwnR _ _ _ _ _ _ _ (T221.setTop (mkF m 262 #[.val (.int p1), .val (.int p2), .val (.ref b1), .val (.ref b32), .val (.int (11 : Int32)), .val (.ref s_PINGREQ), .val (.int (192 : Int32)), .val (.ref s_V5)] [(.int (192 : Int32))]))
      refine OwnR.of (fun _ hr => XS.aload X221.here hx rfl (hb hby at_262) rfl rfl hr) ?_
      show OwnR _ _ _ _ _ _ _ (T221.setTop (mkF m 264 #[.val (.int p1), .val (.int p2), .val (.ref b1), .val (.ref b32), .val (.int (11 : Int32)), .val (.ref s_PINGREQ), .val (.int (192 : Int32)), .val (.ref s_V5)] [(.ref s_V5), (.int (192 : Int32))]))
      obtain ⟨_, _, ⟨T222, L222, kc222, ns222⟩, -, X222, ⟨Lc222, hQ222, l222, y222, z222⟩, st222⟩ := Jvm.LawKit.callS X221 hx (y := (⟨"com/example/kurir/kurir/codec/PacketType", "of", "(ILcom/example/kurir/kurir/codec/ProtocolVersion;)Lcom/example/kurir/kurir/codec/PacketType;"⟩ : MethodName)) hown (mvT hZ (hw _ (List.mem_of_getElem? (i := 48) rfl))) (mvT hZ (hw _ (List.mem_of_getElem? (i := 49) rfl))) (mvT hZ (hw _ (List.mem_of_getElem? (i := 3) rfl))) (mvT hZ (hw _ (List.mem_of_getElem? (i := 50) rfl))) (by decide) (backOf (W := 0) (rm2_11 l Z a0 hw [] s_V5 sb kb s_CONNECT s_CONNACK s_PUBLISH s_PUBACK s_PUBREC s_PUBREL s_PUBCOMP s_SUBSCRIBE s_SUBACK s_UNSUBSCRIBE s_UNSUBACK s_PINGREQ s_PINGRESP s_DISCONNECT s_AUTH s_V3 h47 n0 (Nat.le_trans Z0 K47.1) R48 R49 R50 R51 ne_PINGREQ) hZ (hw _ (List.mem_of_getElem? (i := 50) rfl)) (hw _ (List.mem_of_getElem? (i := 3) rfl)) (by decide) (by decide)) (g := (mkF m 264 #[.val (.int p1), .val (.int p2), .val (.ref b1), .val (.ref b32), .val (.int (11 : Int32)), .val (.ref s_PINGREQ), .val (.int (192 : Int32)), .val (.ref s_V5)] [(.ref s_V5), (.int (192 : Int32))])) rfl (by rw [hml]; rfl) (argsL := [(.int (192 : Int32)), (.ref s_V5)]) (rest := []) (lenOf pd__ILcom_example_kurir_kurir_codec_ProtocolVersion__Lcom_example_kurir_kurir_codec_PacketType_ rfl) rfl (by show 2 * 0 + _ ≤ _; exact Nat.le_of_eq rfl) (hb hby at_264) (fun _ _ => ⟨rfl, e221, (by decide : 2 + 0 ≤ _), (by decide : 30 + 0 ≤ _)⟩)
      dsimp only [Pt.U, Pt.locs, Pt.cells, Pt.slots] at X222 l222 y222 z222 st222 hQ222
      rw [l222, y222, z222] at X222
      obtain ⟨rfl, N222q, e222⟩ := hQ222
      have N222 := Fr.app N215 N222q
      refine OwnR.of (st222) ?_
      show OwnR _ _ _ _ _ _ _ (T222.setTop (mkF m 267 #[.val (.int p1), .val (.int p2), .val (.ref b1), .val (.ref b32), .val (.int (11 : Int32)), .val (.ref s_PINGREQ), .val (.int (192 : Int32)), .val (.ref s_V5)] [(.ref s_PINGREQ)]))
      refine OwnR.of (fun _ hr => XS.aload X222.here hx rfl (hb hby at_267) rfl rfl hr) ?_
      show OwnR _ _ _ _ _ _ _ (T222.setTop (mkF m 269 #[.val (.int p1), .val (.int p2), .val (.ref b1), .val (.ref b32), .val (.int (11 : Int32)), .val (.ref s_PINGREQ), .val (.int (192 : Int32)), .val (.ref s_V5)] [(.ref s_PINGREQ), (.ref s_PINGREQ)]))
      refine OwnR.of (fun _ hr => Jvm.RoadKit.acmp (g := (mkF m 269 #[.val (.int p1), .val (.int p2), .val (.ref b1), .val (.ref b32), .val (.int (11 : Int32)), .val (.ref s_PINGREQ), .val (.int (192 : Int32)), .val (.ref s_V5)] [(.ref s_PINGREQ), (.ref s_PINGREQ)])) X222 hx rfl rfl rfl (pc0 := 269) (pc' := 272) (same := true) rfl (hb hby at_269) rfl (decide_eq_true rfl) (by decide) (by decide) hr) ?_
      show OwnR _ _ _ _ _ _ _ (T222.setTop (mkF m 272 #[.val (.int p1), .val (.int p2), .val (.ref b1), .val (.ref b32), .val (.int (11 : Int32)), .val (.ref s_PINGREQ), .val (.int (192 : Int32)), .val (.ref s_V5)] []))
      refine OwnR.of (fun _ hr => XS.iconst X222.here hx rfl (hb hby at_272) hr) ?_
      show OwnR _ _ _ _ _ _ _ (T222.setTop (mkF m 273 #[.val (.int p1), .val (.int p2), .val (.ref b1), .val (.ref b32), .val (.int (11 : Int32)), .val (.ref s_PINGREQ), .val (.int (192 : Int32)), .val (.ref s_V5)] [(.int (1 : Int32))]))
      refine OwnR.of (fun _ hr => XS.goto X222.here hx rfl (pc0 := 273) (pc' := 277) rfl (hb hby at_273) (by decide) (by decide) hr) ?_
      show OwnR _ _ _ _ _ _ _ (T222.setTop (mkF m 277 #[.val (.int p1), .val (.int p2), .val (.ref b1), .val (.ref b32), .val (.int (11 : Int32)), .val (.ref s_PINGREQ), .val (.int (192 : Int32)), .val (.ref s_V5)] [(.int (1 : Int32))]))
      refine own_leafN X222 hx hlk (t := .boolean) Bd.returns (by simp) (hb hby at_277) (z' := (1 : Int32)) rfl (by decide) (by decide) ?_
      show Q0 Z  h0 n0 _ T222.heap _
      rw [show T222.heap = h47 from e222]
      refine ⟨?_, N222⟩
      show (some (.int (1 : Int32)) : Option Value) = some (.int (1 : Int32))
      rfl
  · skip
    show OwnR _ _ _ _ _ _ _ (T47.setTop (mkF m 211 #[.val (.int p1), .val (.int p2), .val (.ref b1), .val (.ref b32), .val (.int (12 : Int32)), .unset, .unset, .unset] []))
    refine OwnR.of (fun _ hr => XS.aloadN X47.here hx rfl (hb hby at_211) rfl rfl hr) ?_
    show OwnR _ _ _ _ _ _ _ (T47.setTop (mkF m 212 #[.val (.int p1), .val (.int p2), .val (.ref b1), .val (.ref b32), .val (.int (12 : Int32)), .unset, .unset, .unset] [(.ref b1)]))
    refine OwnR.of (fun _ hr => XS.iload X47.here hx rfl (hb hby at_212) rfl hr) ?_
    show OwnR _ _ _ _ _ _ _ (T47.setTop (mkF m 214 #[.val (.int p1), .val (.int p2), .val (.ref b1), .val (.ref b32), .val (.int (12 : Int32)), .unset, .unset, .unset] [(.int (12 : Int32)), (.ref b1)]))
    obtain ⟨cl223, Ar223, -, S223, N223, H223, G223⟩ := id R113
    have hin223 : ¬ ((12 : Int32) < 0 ∨ cl223.slots.size ≤ ((12 : Int32)).toNatClampNeg) := (inb_of S223 ⟨by decide, by decide⟩)
    refine OwnR.of (X47.aaload hx (j := (12 : Int32)) (v := (.ref s_PINGRESP)) (by rw [e47]; exact Ar223.1) (State.isArrayOf_alike hZ.alike Ar223.2.1) rfl Ar223.2.2 hin223 (Has.at H223 hin223 rfl) (g := (mkF m 214 #[.val (.int p1), .val (.int p2), .val (.ref b1), .val (.ref b32), .val (.int (12 : Int32)), .unset, .unset, .unset] [(.int (12 : Int32)), (.ref b1)])) rfl rfl (hb hby at_214)) ?_
    show OwnR _ _ _ _ _ _ _ (T47.setTop (mkF m 215 #[.val (.int p1), .val (.int p2), .val (.ref b1), .val (.ref b32), .val (.int (12 : Int32)), .unset, .unset, .unset] [(.ref s_PINGRESP)]))
    refine OwnR.of (fun _ hr => XS.astore X47.here hx rfl (hb hby at_215) rfl rfl (l' := #[.val (.int p1), .val (.int p2), .val (.ref b1), .val (.ref b32), .val (.int (12 : Int32)), .val (.ref s_PINGRESP), .unset, .unset]) rfl hr) ?_
    show OwnR _ _ _ _ _ _ _ (T47.setTop (mkF m 217 #[.val (.int p1), .val (.int p2), .val (.ref b1), .val (.ref b32), .val (.int (12 : Int32)), .val (.ref s_PINGRESP), .unset, .unset] []))
    refine OwnR.of (fun _ hr => XS.aload X47.here hx rfl (hb hby at_217) rfl rfl hr) ?_
    show OwnR _ _ _ _ _ _ _ (T47.setTop (mkF m 219 #[.val (.int p1), .val (.int p2), .val (.ref b1), .val (.ref b32), .val (.int (12 : Int32)), .val (.ref s_PINGRESP), .unset, .unset] [(.ref s_PINGRESP)]))
    obtain ⟨cq224, kq224, q224a, q224b, q224c⟩ := isOf hZ e47 R102
    obtain ⟨_, _, ⟨T224, L224, kc224, ns224⟩, -, X224, ⟨Lc224, hQ224, l224, y224, z224⟩, st224⟩ := X47.virtualBack hx (y := (⟨"com/example/kurir/kurir/codec/PacketType", "firstByte", "()I"⟩ : MethodName)) (z := (⟨"com/example/kurir/kurir/codec/PacketType", "firstByte", "()I"⟩ : MethodName)) hown (mvT hZ (hw _ (List.mem_of_getElem? (i := 36) rfl))) (mvT hZ (hw _ (List.mem_of_getElem? (i := 37) rfl))) (notFace_of_selects (args := #[]) (mvT hZ (hw _ (List.mem_of_getElem? (i := 39) rfl)))) (mvT hZ (hw _ (List.mem_of_getElem? (i := 39) rfl))) (mvT hZ (hw _ (List.mem_of_getElem? (i := 38) rfl))) (by decide) (backOf (W := 0) (rm1 l Z a0 hw [] s_PINGRESP (13 : Int32) (0 : Int32) h47 n0 (Nat.le_trans Z0 K47.1) R102 R103 R104) hZ (hw _ (List.mem_of_getElem? (i := 40) rfl)) (hw _ (List.mem_of_getElem? (i := 3) rfl)) (by decide) (by decide)) q224a q224c (g := (mkF m 219 #[.val (.int p1), .val (.int p2), .val (.ref b1), .val (.ref b32), .val (.int (12 : Int32)), .val (.ref s_PINGRESP), .unset, .unset] [(.ref s_PINGRESP)])) rfl (by rw [hml]; rfl) (Steps.refl _) (argsL := []) (rest := []) (lenOf pd___I rfl) rfl (by show 2 * 0 + _ ≤ _; exact Nat.le_of_eq rfl) (hb hby at_219) (fun _ _ => ⟨rfl, e47, (by decide : 2 + 0 ≤ _), (by decide : 30 + 0 ≤ _)⟩)
    dsimp only [Pt.U, Pt.locs, Pt.cells, Pt.slots] at X224 l224 y224 z224 st224 hQ224
    rw [l224, y224, z224] at X224
    obtain ⟨rfl, N224q, e224⟩ := hQ224
    have N224 := Fr.app N47 N224q
    refine OwnR.of (fun _ hr => st224.trans hr) ?_
    show OwnR _ _ _ _ _ _ _ (T224.setTop (mkF m 222 #[.val (.int p1), .val (.int p2), .val (.ref b1), .val (.ref b32), .val (.int (12 : Int32)), .val (.ref s_PINGRESP), .unset, .unset] [(.int (own_fb (13 : Int32) (0 : Int32)))]))
    rw [(by decide : (own_fb (13 : Int32) (0 : Int32)) = (208 : Int32))]
    show OwnR _ _ _ _ _ _ _ (T224.setTop (mkF m 222 #[.val (.int p1), .val (.int p2), .val (.ref b1), .val (.ref b32), .val (.int (12 : Int32)), .val (.ref s_PINGRESP), .unset, .unset] [(.int (208 : Int32))]))
    refine OwnR.of (fun _ hr => XS.istore X224.here hx rfl (hb hby at_222) rfl (l' := #[.val (.int p1), .val (.int p2), .val (.ref b1), .val (.ref b32), .val (.int (12 : Int32)), .val (.ref s_PINGRESP), .val (.int (208 : Int32)), .unset]) rfl hr) ?_
    show OwnR _ _ _ _ _ _ _ (T224.setTop (mkF m 224 #[.val (.int p1), .val (.int p2), .val (.ref b1), .val (.ref b32), .val (.int (12 : Int32)), .val (.ref s_PINGRESP), .val (.int (208 : Int32)), .unset] []))
    refine OwnR.of (fun _ hr => XS.iload X224.here hx rfl (hb hby at_224) rfl hr) ?_
    show OwnR _ _ _ _ _ _ _ (T224.setTop (mkF m 226 #[.val (.int p1), .val (.int p2), .val (.ref b1), .val (.ref b32), .val (.int (12 : Int32)), .val (.ref s_PINGRESP), .val (.int (208 : Int32)), .unset] [(.int (208 : Int32))]))
    refine OwnR.of (fun _ hr => XS.aloadN X224.here hx rfl (hb hby at_226) rfl rfl hr) ?_
    show OwnR _ _ _ _ _ _ _ (T224.setTop (mkF m 227 #[.val (.int p1), .val (.int p2), .val (.ref b1), .val (.ref b32), .val (.int (12 : Int32)), .val (.ref s_PINGRESP), .val (.int (208 : Int32)), .unset] [(.ref b32), (.int (208 : Int32))]))
    refine OwnR.of (fun _ hr => XS.iload X224.here hx rfl (hb hby at_227) rfl hr) ?_
    show OwnR _ _ _ _ _ _ _ (T224.setTop (mkF m 229 #[.val (.int p1), .val (.int p2), .val (.ref b1), .val (.ref b32), .val (.int (12 : Int32)), .val (.ref s_PINGRESP), .val (.int (208 : Int32)), .unset] [(.int (12 : Int32)), (.ref b32), (.int (208 : Int32))]))
    obtain ⟨cl225, Ar225, -, S225, N225, H225, G225⟩ := id V47
    have hin225 : ¬ ((12 : Int32) < 0 ∨ cl225.slots.size ≤ ((12 : Int32)).toNatClampNeg) := (inb_of S225 ⟨by decide, by decide⟩)
    refine OwnR.of (X224.iaload hx (j := (12 : Int32)) (v := (.int (208 : Int32))) (by rw [e224]; exact Ar225.1) (State.isArrayOf_alike hZ.alike Ar225.2.1) Ar225.2.2 hin225 (Has.at H225 hin225 rfl) (g := (mkF m 229 #[.val (.int p1), .val (.int p2), .val (.ref b1), .val (.ref b32), .val (.int (12 : Int32)), .val (.ref s_PINGRESP), .val (.int (208 : Int32)), .unset] [(.int (12 : Int32)), (.ref b32), (.int (208 : Int32))])) rfl rfl (hb hby at_229)) ?_
    show OwnR _ _ _ _ _ _ _ (T224.setTop (mkF m 230 #[.val (.int p1), .val (.int p2), .val (.ref b1), .val (.ref b32), .val (.int (12 : Int32)), .val (.ref s_PINGRESP), .val (.int (208 : Int32)), .unset] [(.int (208 : Int32)), (.int (208 : Int32))]))
    refine OwnR.of (fun _ hr => XS.icmpYes X224.here hx rfl (pc0 := 230) (pc' := 235) rfl (hb hby at_230) rfl (teq (by decide : (208 : Int32) = (208 : Int32))).1 (by decide) (by decide) hr) ?_
    show OwnR _ _ _ _ _ _ _ (T224.setTop (mkF m 235 #[.val (.int p1), .val (.int p2), .val (.ref b1), .val (.ref b32), .val (.int (12 : Int32)), .val (.ref s_PINGRESP), .val (.int (208 : Int32)), .unset] []))
    refine OwnR.of (fun _ hr => XS.iloadN X224.here hx rfl (hb hby at_235) rfl hr) ?_
    show OwnR _ _ _ _ _ _ _ (T224.setTop (mkF m 236 #[.val (.int p1), .val (.int p2), .val (.ref b1), .val (.ref b32), .val (.int (12 : Int32)), .val (.ref s_PINGRESP), .val (.int (208 : Int32)), .unset] [(.int p2)]))
    refine OwnR.of (fun _ hr => XS.iconst X224.here hx rfl (hb hby at_236) hr) ?_
    show OwnR _ _ _ _ _ _ _ (T224.setTop (mkF m 237 #[.val (.int p1), .val (.int p2), .val (.ref b1), .val (.ref b32), .val (.int (12 : Int32)), .val (.ref s_PINGRESP), .val (.int (208 : Int32)), .unset] [(.int (1 : Int32)), (.int p2)]))
    refine OwnR.of (fun _ hr => XS.iand X224.here hx rfl (hb hby at_237) rfl hr) ?_
    show OwnR _ _ _ _ _ _ _ (T224.setTop (mkF m 238 #[.val (.int p1), .val (.int p2), .val (.ref b1), .val (.ref b32), .val (.int (12 : Int32)), .val (.ref s_PINGRESP), .val (.int (208 : Int32)), .unset] [(.int (p2 &&& (1 : Int32)))]))
    by_cases hc238_226 : (p2 &&& (1 : Int32)) = (0 : Int32)
    · skip
      refine OwnR.of (fun _ hr => XS.ifNo X224.here hx rfl (hb hby at_238) rfl ((if0 _ _).trans (teq hc238_226).2) hr) ?_
      show OwnR _ _ _ _ _ _ _ (T224.setTop (mkF m 241 #[.val (.int p1), .val (.int p2), .val (.ref b1), .val (.ref b32), .val (.int (12 : Int32)), .val (.ref s_PINGRESP), .val (.int (208 : Int32)), .unset] []))
      refine OwnR.of (fun _ hr => XS.aload X224.here hx rfl (hb hby at_241) rfl rfl hr) ?_
      show OwnR _ _ _ _ _ _ _ (T224.setTop (mkF m 243 #[.val (.int p1), .val (.int p2), .val (.ref b1), .val (.ref b32), .val (.int (12 : Int32)), .val (.ref s_PINGRESP), .val (.int (208 : Int32)), .unset] [(.ref s_PINGRESP)]))
      obtain ⟨T227, X227, e227, st227⟩ := getS2 X224 hx hZ hown (host := "") (Or.inl (hw _ (List.mem_of_getElem? (i := 32) rfl))) Via.refl e224 R50 (g := (mkF m 243 #[.val (.int p1), .val (.int p2), .val (.ref b1), .val (.ref b32), .val (.int (12 : Int32)), .val (.ref s_PINGRESP), .val (.int (208 : Int32)), .unset] [(.ref s_PINGRESP)])) rfl (hb hby at_243)
      refine OwnR.of (st227) ?_
      show OwnR _ _ _ _ _ _ _ (T227.setTop (mkF m 246 #[.val (.int p1), .val (.int p2), .val (.ref b1), .val (.ref b32), .val (.int (12 : Int32)), .val (.ref s_PINGRESP), .val (.int (208 : Int32)), .unset] [(.ref s_AUTH), (.ref s_PINGRESP)]))
      refine OwnR.of (fun _ hr => Jvm.RoadKit.acmp (g := (mkF m 246 #[.val (.int p1), .val (.int p2), .val (.ref b1), .val (.ref b32), .val (.int (12 : Int32)), .val (.ref s_PINGRESP), .val (.int (208 : Int32)), .unset] [(.ref s_AUTH), (.ref s_PINGRESP)])) X227 hx rfl rfl rfl (pc0 := 246) (pc' := 255) (same := false) rfl (hb hby at_246) rfl (decide_eq_false fun q => ne_PINGRESP (Value.ref.inj q)) (by decide) (by decide) hr) ?_
      show OwnR _ _ _ _ _ _ _ (T227.setTop (mkF m 255 #[.val (.int p1), .val (.int p2), .val (.ref b1), .val (.ref b32), .val (.int (12 : Int32)), .val (.ref s_PINGRESP), .val (.int (208 : Int32)), .unset] []))
      obtain ⟨T228, X228, e228, st228⟩ := getS2 X227 hx hZ hown (host := "") (Or.inl (hw _ (List.mem_of_getElem? (i := 56) rfl))) Via.refl e227 R51 (g := (mkF m 255 #[.val (.int p1), .val (.int p2), .val (.ref b1), .val (.ref b32), .val (.int (12 : Int32)), .val (.ref s_PINGRESP), .val (.int (208 : Int32)), .unset] [])) rfl (hb hby at_255)
      refine OwnR.of (st228) ?_
      show OwnR _ _ _ _ _ _ _ (T228.setTop (mkF m 258 #[.val (.int p1), .val (.int p2), .val (.ref b1), .val (.ref b32), .val (.int (12 : Int32)), .val (.ref s_PINGRESP), .val (.int (208 : Int32)), .unset] [(.ref s_V3)]))
      refine OwnR.of (fun _ hr => XS.astore X228.here hx rfl (hb hby at_258) rfl rfl (l' := #[.val (.int p1), .val (.int p2), .val (.ref b1), .val (.ref b32), .val (.int (12 : Int32)), .val (.ref s_PINGRESP), .val (.int (208 : Int32)), .val (.ref s_V3)]) rfl hr) ?_
      show OwnR _ _ _ _ _ _ _ (T228.setTop (mkF m 260 #[.val (.int p1), .val (.int p2), .val (.ref b1), .val (.ref b32), .val (.int (12 : Int32)), .val (.ref s_PINGRESP), .val (.int (208 : Int32)), .val (.ref s_V3)] []))
      refine OwnR.of (fun _ hr => XS.iload X228.here hx rfl (hb hby at_260) rfl hr) ?_
      show OwnR _ _ _ _ _ _ _ (T228.setTop (mkF m 262 #[.val (.int p1), .val (.int p2), .val (.ref b1), .val (.ref b32), .val (.int (12 : Int32)), .val (.ref s_PINGRESP), .val (.int (208 : Int32)), .val (.ref s_V3)] [(.int (208 : Int32))]))
      refine OwnR.of (fun _ hr => XS.aload X228.here hx rfl (hb hby at_262) rfl rfl hr) ?_
      show OwnR _ _ _ _ _ _ _ (T228.setTop (mkF m 264 #[.val (.int p1), .val (.int p2), .val (.ref b1), .val (.ref b32), .val (.int (12 : Int32)), .val (.ref s_PINGRESP), .val (.int (208 : Int32)), .val (.ref s_V3)] [(.ref s_V3), (.int (208 : Int32))]))
      obtain ⟨_, _, ⟨T229, L229, kc229, ns229⟩, -, X229, ⟨Lc229, hQ229, l229, y229, z229⟩, st229⟩ := Jvm.LawKit.callS X228 hx (y := (⟨"com/example/kurir/kurir/codec/PacketType", "of", "(ILcom/example/kurir/kurir/codec/ProtocolVersion;)Lcom/example/kurir/kurir/codec/PacketType;"⟩ : MethodName)) hown (mvT hZ (hw _ (List.mem_of_getElem? (i := 48) rfl))) (mvT hZ (hw _ (List.mem_of_getElem? (i := 49) rfl))) (mvT hZ (hw _ (List.mem_of_getElem? (i := 3) rfl))) (mvT hZ (hw _ (List.mem_of_getElem? (i := 50) rfl))) (by decide) (backOf (W := 0) (rm2_12 l Z a0 hw [] s_V3 sb kb s_CONNECT s_CONNACK s_PUBLISH s_PUBACK s_PUBREC s_PUBREL s_PUBCOMP s_SUBSCRIBE s_SUBACK s_UNSUBSCRIBE s_UNSUBACK s_PINGREQ s_PINGRESP s_DISCONNECT s_AUTH s_V3 h47 n0 (Nat.le_trans Z0 K47.1) R48 R49 R50 R51 ne_PINGRESP) hZ (hw _ (List.mem_of_getElem? (i := 50) rfl)) (hw _ (List.mem_of_getElem? (i := 3) rfl)) (by decide) (by decide)) (g := (mkF m 264 #[.val (.int p1), .val (.int p2), .val (.ref b1), .val (.ref b32), .val (.int (12 : Int32)), .val (.ref s_PINGRESP), .val (.int (208 : Int32)), .val (.ref s_V3)] [(.ref s_V3), (.int (208 : Int32))])) rfl (by rw [hml]; rfl) (argsL := [(.int (208 : Int32)), (.ref s_V3)]) (rest := []) (lenOf pd__ILcom_example_kurir_kurir_codec_ProtocolVersion__Lcom_example_kurir_kurir_codec_PacketType_ rfl) rfl (by show 2 * 0 + _ ≤ _; exact Nat.le_of_eq rfl) (hb hby at_264) (fun _ _ => ⟨rfl, e228, (by decide : 2 + 0 ≤ _), (by decide : 30 + 0 ≤ _)⟩)
      dsimp only [Pt.U, Pt.locs, Pt.cells, Pt.slots] at X229 l229 y229 z229 st229 hQ229
      rw [l229, y229, z229] at X229
      obtain ⟨rfl, N229q, e229⟩ := hQ229
      have N229 := Fr.app N224 N229q
      refine OwnR.of (st229) ?_
      show OwnR _ _ _ _ _ _ _ (T229.setTop (mkF m 267 #[.val (.int p1), .val (.int p2), .val (.ref b1), .val (.ref b32), .val (.int (12 : Int32)), .val (.ref s_PINGRESP), .val (.int (208 : Int32)), .val (.ref s_V3)] [(.ref s_PINGRESP)]))
      refine OwnR.of (fun _ hr => XS.aload X229.here hx rfl (hb hby at_267) rfl rfl hr) ?_
      show OwnR _ _ _ _ _ _ _ (T229.setTop (mkF m 269 #[.val (.int p1), .val (.int p2), .val (.ref b1), .val (.ref b32), .val (.int (12 : Int32)), .val (.ref s_PINGRESP), .val (.int (208 : Int32)), .val (.ref s_V3)] [(.ref s_PINGRESP), (.ref s_PINGRESP)]))
      refine OwnR.of (fun _ hr => Jvm.RoadKit.acmp (g := (mkF m 269 #[.val (.int p1), .val (.int p2), .val (.ref b1), .val (.ref b32), .val (.int (12 : Int32)), .val (.ref s_PINGRESP), .val (.int (208 : Int32)), .val (.ref s_V3)] [(.ref s_PINGRESP), (.ref s_PINGRESP)])) X229 hx rfl rfl rfl (pc0 := 269) (pc' := 272) (same := true) rfl (hb hby at_269) rfl (decide_eq_true rfl) (by decide) (by decide) hr) ?_
      show OwnR _ _ _ _ _ _ _ (T229.setTop (mkF m 272 #[.val (.int p1), .val (.int p2), .val (.ref b1), .val (.ref b32), .val (.int (12 : Int32)), .val (.ref s_PINGRESP), .val (.int (208 : Int32)), .val (.ref s_V3)] []))
      refine OwnR.of (fun _ hr => XS.iconst X229.here hx rfl (hb hby at_272) hr) ?_
      show OwnR _ _ _ _ _ _ _ (T229.setTop (mkF m 273 #[.val (.int p1), .val (.int p2), .val (.ref b1), .val (.ref b32), .val (.int (12 : Int32)), .val (.ref s_PINGRESP), .val (.int (208 : Int32)), .val (.ref s_V3)] [(.int (1 : Int32))]))
      refine OwnR.of (fun _ hr => XS.goto X229.here hx rfl (pc0 := 273) (pc' := 277) rfl (hb hby at_273) (by decide) (by decide) hr) ?_
      show OwnR _ _ _ _ _ _ _ (T229.setTop (mkF m 277 #[.val (.int p1), .val (.int p2), .val (.ref b1), .val (.ref b32), .val (.int (12 : Int32)), .val (.ref s_PINGRESP), .val (.int (208 : Int32)), .val (.ref s_V3)] [(.int (1 : Int32))]))
      refine own_leafN X229 hx hlk (t := .boolean) Bd.returns (by simp) (hb hby at_277) (z' := (1 : Int32)) rfl (by decide) (by decide) ?_
      show Q0 Z  h0 n0 _ T229.heap _
      rw [show T229.heap = h47 from e229]
      refine ⟨?_, N229⟩
      show (some (.int (1 : Int32)) : Option Value) = some (.int (1 : Int32))
      rfl
    · skip
      refine OwnR.of (fun _ hr => XS.ifYes X224.here hx rfl (pc0 := 238) (pc' := 249) rfl (hb hby at_238) rfl ((if0 _ _).trans (feq hc238_226).2) (by decide) (by decide) hr) ?_
      show OwnR _ _ _ _ _ _ _ (T224.setTop (mkF m 249 #[.val (.int p1), .val (.int p2), .val (.ref b1), .val (.ref b32), .val (.int (12 : Int32)), .val (.ref s_PINGRESP), .val (.int (208 : Int32)), .unset] []))
      obtain ⟨T230, X230, e230, st230⟩ := getS2 X224 hx hZ hown (host := "") (Or.inl (hw _ (List.mem_of_getElem? (i := 45) rfl))) Via.refl e224 R52 (g := (mkF m 249 #[.val (.int p1), .val (.int p2), .val (.ref b1), .val (.ref b32), .val (.int (12 : Int32)), .val (.ref s_PINGRESP), .val (.int (208 : Int32)), .unset] [])) rfl (hb hby at_249)
      refine OwnR.of (st230) ?_
      show OwnR _ _ _ _ _ _ _ (T230.setTop (mkF m 252 #[.val (.int p1), .val (.int p2), .val (.ref b1), .val (.ref b32), .val (.int (12 : Int32)), .val (.ref s_PINGRESP), .val (.int (208 : Int32)), .unset] [(.ref s_V5)]))
      refine OwnR.of (fun _ hr => XS.goto X230.here hx rfl (pc0 := 252) (pc' := 258) rfl (hb hby at_252) (by decide) (by decide) hr) ?_
      show OwnR _ _ _ _ _ _ _ (T230.setTop (mkF m 258 #[.val (.int p1), .val (.int p2), .val (.ref b1), .val (.ref b32), .val (.int (12 : Int32)), .val (.ref s_PINGRESP), .val (.int (208 : Int32)), .unset] [(.ref s_V5)]))
      refine OwnR.of (fun _ hr => XS.astore X230.here hx rfl (hb hby at_258) rfl rfl (l' := #[.val (.int p1), .val (.int p2), .val (.ref b1), .val (.ref b32), .val (.int (12 : Int32)), .val (.ref s_PINGRESP), .val (.int (208 : Int32)), .val (.ref s_V5)]) rfl hr) ?_
      show OwnR _ _ _ _ _ _ _ (T230.setTop (mkF m 260 #[.val (.int p1), .val (.int p2), .val (.ref b1), .val (.ref b32), .val (.int (12 : Int32)), .val (.ref s_PINGRESP), .val (.int (208 : Int32)), .val (.ref s_V5)] []))
      refine OwnR.of (fun _ hr => XS.iload X230.here hx rfl (hb hby at_260) rfl hr) ?_
      show OwnR _ _ _ _ _ _ _ (T230.setTop (mkF m 262 #[.val (.int p1), .val (.int p2), .val (.ref b1), .val (.ref b32), .val (.int (12 : Int32)), .val (.ref s_PINGRESP), .val (.int (208 : Int32)), .val (.ref s_V5)] [(.int (208 : Int32))]))
      refine OwnR.of (fun _ hr => XS.aload X230.here hx rfl (hb hby at_262) rfl rfl hr) ?_
      show OwnR _ _ _ _ _ _ _ (T230.setTop (mkF m 264 #[.val (.int p1), .val (.int p2), .val (.ref b1), .val (.ref b32), .val (.int (12 : Int32)), .val (.ref s_PINGRESP), .val (.int (208 : Int32)), .val (.ref s_V5)] [(.ref s_V5), (.int (208 : Int32))]))
      obtain ⟨_, _, ⟨T231, L231, kc231, ns231⟩, -, X231, ⟨Lc231, hQ231, l231, y231, z231⟩, st231⟩ := Jvm.LawKit.callS X230 hx (y := (⟨"com/example/kurir/kurir/codec/PacketType", "of", "(ILcom/example/kurir/kurir/codec/ProtocolVersion;)Lcom/example/kurir/kurir/codec/PacketType;"⟩ : MethodName)) hown (mvT hZ (hw _ (List.mem_of_getElem? (i := 48) rfl))) (mvT hZ (hw _ (List.mem_of_getElem? (i := 49) rfl))) (mvT hZ (hw _ (List.mem_of_getElem? (i := 3) rfl))) (mvT hZ (hw _ (List.mem_of_getElem? (i := 50) rfl))) (by decide) (backOf (W := 0) (rm2_12 l Z a0 hw [] s_V5 sb kb s_CONNECT s_CONNACK s_PUBLISH s_PUBACK s_PUBREC s_PUBREL s_PUBCOMP s_SUBSCRIBE s_SUBACK s_UNSUBSCRIBE s_UNSUBACK s_PINGREQ s_PINGRESP s_DISCONNECT s_AUTH s_V3 h47 n0 (Nat.le_trans Z0 K47.1) R48 R49 R50 R51 ne_PINGRESP) hZ (hw _ (List.mem_of_getElem? (i := 50) rfl)) (hw _ (List.mem_of_getElem? (i := 3) rfl)) (by decide) (by decide)) (g := (mkF m 264 #[.val (.int p1), .val (.int p2), .val (.ref b1), .val (.ref b32), .val (.int (12 : Int32)), .val (.ref s_PINGRESP), .val (.int (208 : Int32)), .val (.ref s_V5)] [(.ref s_V5), (.int (208 : Int32))])) rfl (by rw [hml]; rfl) (argsL := [(.int (208 : Int32)), (.ref s_V5)]) (rest := []) (lenOf pd__ILcom_example_kurir_kurir_codec_ProtocolVersion__Lcom_example_kurir_kurir_codec_PacketType_ rfl) rfl (by show 2 * 0 + _ ≤ _; exact Nat.le_of_eq rfl) (hb hby at_264) (fun _ _ => ⟨rfl, e230, (by decide : 2 + 0 ≤ _), (by decide : 30 + 0 ≤ _)⟩)
      dsimp only [Pt.U, Pt.locs, Pt.cells, Pt.slots] at X231 l231 y231 z231 st231 hQ231
      rw [l231, y231, z231] at X231
      obtain ⟨rfl, N231q, e231⟩ := hQ231
      have N231 := Fr.app N224 N231q
      refine OwnR.of (st231) ?_
      show OwnR _ _ _ _ _ _ _ (T231.setTop (mkF m 267 #[.val (.int p1), .val (.int p2), .val (.ref b1), .val (.ref b32), .val (.int (12 : Int32)), .val (.ref s_PINGRESP), .val (.int (208 : Int32)), .val (.ref s_V5)] [(.ref s_PINGRESP)]))
      refine OwnR.of (fun _ hr => XS.aload X231.here hx rfl (hb hby at_267) rfl rfl hr) ?_
      show OwnR _ _ _ _ _ _ _ (T231.setTop (mkF m 269 #[.val (.int p1), .val (.int p2), .val (.ref b1), .val (.ref b32), .val (.int (12 : Int32)), .val (.ref s_PINGRESP), .val (.int (208 : Int32)), .val (.ref s_V5)] [(.ref s_PINGRESP), (.ref s_PINGRESP)]))
      refine OwnR.of (fun _ hr => Jvm.RoadKit.acmp (g := (mkF m 269 #[.val (.int p1), .val (.int p2), .val (.ref b1), .val (.ref b32), .val (.int (12 : Int32)), .val (.ref s_PINGRESP), .val (.int (208 : Int32)), .val (.ref s_V5)] [(.ref s_PINGRESP), (.ref s_PINGRESP)])) X231 hx rfl rfl rfl (pc0 := 269) (pc' := 272) (same := true) rfl (hb hby at_269) rfl (decide_eq_true rfl) (by decide) (by decide) hr) ?_
      show OwnR _ _ _ _ _ _ _ (T231.setTop (mkF m 272 #[.val (.int p1), .val (.int p2), .val (.ref b1), .val (.ref b32), .val (.int (12 : Int32)), .val (.ref s_PINGRESP), .val (.int (208 : Int32)), .val (.ref s_V5)] []))
      refine OwnR.of (fun _ hr => XS.iconst X231.here hx rfl (hb hby at_272) hr) ?_
      show OwnR _ _ _ _ _ _ _ (T231.setTop (mkF m 273 #[.val (.int p1), .val (.int p2), .val (.ref b1), .val (.ref b32), .val (.int (12 : Int32)), .val (.ref s_PINGRESP), .val (.int (208 : Int32)), .val (.ref s_V5)] [(.int (1 : Int32))]))
      refine OwnR.of (fun _ hr => XS.goto X231.here hx rfl (pc0 := 273) (pc' := 277) rfl (hb hby at_273) (by decide) (by decide) hr) ?_
      show OwnR _ _ _ _ _ _ _ (T231.setTop (mkF m 277 #[.val (.int p1), .val (.int p2), .val (.ref b1), .val (.ref b32), .val (.int (12 : Int32)), .val (.ref s_PINGRESP), .val (.int (208 : Int32)), .val (.ref s_V5)] [(.int (1 : Int32))]))
      refine own_leafN X231 hx hlk (t := .boolean) Bd.returns (by simp) (hb hby at_277) (z' := (1 : Int32)) rfl (by decide) (by decide) ?_
      show Q0 Z  h0 n0 _ T231.heap _
      rw [show T231.heap = h47 from e231]
      refine ⟨?_, N231⟩
      show (some (.int (1 : Int32)) : Option Value) = some (.int (1 : Int32))
      rfl
  · skip
    show OwnR _ _ _ _ _ _ _ (T47.setTop (mkF m 211 #[.val (.int p1), .val (.int p2), .val (.ref b1), .val (.ref b32), .val (.int (13 : Int32)), .unset, .unset, .unset] []))
    refine OwnR.of (fun _ hr => XS.aloadN X47.here hx rfl (hb hby at_211) rfl rfl hr) ?_
    show OwnR _ _ _ _ _ _ _ (T47.setTop (mkF m 212 #[.val (.int p1), .val (.int p2), .val (.ref b1), .val (.ref b32), .val (.int (13 : Int32)), .unset, .unset, .unset] [(.ref b1)]))
    refine OwnR.of (fun _ hr => XS.iload X47.here hx rfl (hb hby at_212) rfl hr) ?_
    show OwnR _ _ _ _ _ _ _ (T47.setTop (mkF m 214 #[.val (.int p1), .val (.int p2), .val (.ref b1), .val (.ref b32), .val (.int (13 : Int32)), .unset, .unset, .unset] [(.int (13 : Int32)), (.ref b1)]))
    obtain ⟨cl232, Ar232, -, S232, N232, H232, G232⟩ := id R113
    have hin232 : ¬ ((13 : Int32) < 0 ∨ cl232.slots.size ≤ ((13 : Int32)).toNatClampNeg) := (inb_of S232 ⟨by decide, by decide⟩)
    refine OwnR.of (X47.aaload hx (j := (13 : Int32)) (v := (.ref s_DISCONNECT)) (by rw [e47]; exact Ar232.1) (State.isArrayOf_alike hZ.alike Ar232.2.1) rfl Ar232.2.2 hin232 (Has.at H232 hin232 rfl) (g := (mkF m 214 #[.val (.int p1), .val (.int p2), .val (.ref b1), .val (.ref b32), .val (.int (13 : Int32)), .unset, .unset, .unset] [(.int (13 : Int32)), (.ref b1)])) rfl rfl (hb hby at_214)) ?_
    show OwnR _ _ _ _ _ _ _ (T47.setTop (mkF m 215 #[.val (.int p1), .val (.int p2), .val (.ref b1), .val (.ref b32), .val (.int (13 : Int32)), .unset, .unset, .unset] [(.ref s_DISCONNECT)]))
    refine OwnR.of (fun _ hr => XS.astore X47.here hx rfl (hb hby at_215) rfl rfl (l' := #[.val (.int p1), .val (.int p2), .val (.ref b1), .val (.ref b32), .val (.int (13 : Int32)), .val (.ref s_DISCONNECT), .unset, .unset]) rfl hr) ?_
    show OwnR _ _ _ _ _ _ _ (T47.setTop (mkF m 217 #[.val (.int p1), .val (.int p2), .val (.ref b1), .val (.ref b32), .val (.int (13 : Int32)), .val (.ref s_DISCONNECT), .unset, .unset] []))
    refine OwnR.of (fun _ hr => XS.aload X47.here hx rfl (hb hby at_217) rfl rfl hr) ?_
    show OwnR _ _ _ _ _ _ _ (T47.setTop (mkF m 219 #[.val (.int p1), .val (.int p2), .val (.ref b1), .val (.ref b32), .val (.int (13 : Int32)), .val (.ref s_DISCONNECT), .unset, .unset] [(.ref s_DISCONNECT)]))
    obtain ⟨cq233, kq233, q233a, q233b, q233c⟩ := isOf hZ e47 R106
    obtain ⟨_, _, ⟨T233, L233, kc233, ns233⟩, -, X233, ⟨Lc233, hQ233, l233, y233, z233⟩, st233⟩ := X47.virtualBack hx (y := (⟨"com/example/kurir/kurir/codec/PacketType", "firstByte", "()I"⟩ : MethodName)) (z := (⟨"com/example/kurir/kurir/codec/PacketType", "firstByte", "()I"⟩ : MethodName)) hown (mvT hZ (hw _ (List.mem_of_getElem? (i := 36) rfl))) (mvT hZ (hw _ (List.mem_of_getElem? (i := 37) rfl))) (notFace_of_selects (args := #[]) (mvT hZ (hw _ (List.mem_of_getElem? (i := 39) rfl)))) (mvT hZ (hw _ (List.mem_of_getElem? (i := 39) rfl))) (mvT hZ (hw _ (List.mem_of_getElem? (i := 38) rfl))) (by decide) (backOf (W := 0) (rm1 l Z a0 hw [] s_DISCONNECT (14 : Int32) (0 : Int32) h47 n0 (Nat.le_trans Z0 K47.1) R106 R107 R108) hZ (hw _ (List.mem_of_getElem? (i := 40) rfl)) (hw _ (List.mem_of_getElem? (i := 3) rfl)) (by decide) (by decide)) q233a q233c (g := (mkF m 219 #[.val (.int p1), .val (.int p2), .val (.ref b1), .val (.ref b32), .val (.int (13 : Int32)), .val (.ref s_DISCONNECT), .unset, .unset] [(.ref s_DISCONNECT)])) rfl (by rw [hml]; rfl) (Steps.refl _) (argsL := []) (rest := []) (lenOf pd___I rfl) rfl (by show 2 * 0 + _ ≤ _; exact Nat.le_of_eq rfl) (hb hby at_219) (fun _ _ => ⟨rfl, e47, (by decide : 2 + 0 ≤ _), (by decide : 30 + 0 ≤ _)⟩)
    dsimp only [Pt.U, Pt.locs, Pt.cells, Pt.slots] at X233 l233 y233 z233 st233 hQ233
    rw [l233, y233, z233] at X233
    obtain ⟨rfl, N233q, e233⟩ := hQ233
    have N233 := Fr.app N47 N233q
    refine OwnR.of (fun _ hr => st233.trans hr) ?_
    show OwnR _ _ _ _ _ _ _ (T233.setTop (mkF m 222 #[.val (.int p1), .val (.int p2), .val (.ref b1), .val (.ref b32), .val (.int (13 : Int32)), .val (.ref s_DISCONNECT), .unset, .unset] [(.int (own_fb (14 : Int32) (0 : Int32)))]))
    rw [(by decide : (own_fb (14 : Int32) (0 : Int32)) = (224 : Int32))]
    show OwnR _ _ _ _ _ _ _ (T233.setTop (mkF m 222 #[.val (.int p1), .val (.int p2), .val (.ref b1), .val (.ref b32), .val (.int (13 : Int32)), .val (.ref s_DISCONNECT), .unset, .unset] [(.int (224 : Int32))]))
    refine OwnR.of (fun _ hr => XS.istore X233.here hx rfl (hb hby at_222) rfl (l' := #[.val (.int p1), .val (.int p2), .val (.ref b1), .val (.ref b32), .val (.int (13 : Int32)), .val (.ref s_DISCONNECT), .val (.int (224 : Int32)), .unset]) rfl hr) ?_
    show OwnR _ _ _ _ _ _ _ (T233.setTop (mkF m 224 #[.val (.int p1), .val (.int p2), .val (.ref b1), .val (.ref b32), .val (.int (13 : Int32)), .val (.ref s_DISCONNECT), .val (.int (224 : Int32)), .unset] []))
    refine OwnR.of (fun _ hr => XS.iload X233.here hx rfl (hb hby at_224) rfl hr) ?_
    show OwnR _ _ _ _ _ _ _ (T233.setTop (mkF m 226 #[.val (.int p1), .val (.int p2), .val (.ref b1), .val (.ref b32), .val (.int (13 : Int32)), .val (.ref s_DISCONNECT), .val (.int (224 : Int32)), .unset] [(.int (224 : Int32))]))
    refine OwnR.of (fun _ hr => XS.aloadN X233.here hx rfl (hb hby at_226) rfl rfl hr) ?_
    show OwnR _ _ _ _ _ _ _ (T233.setTop (mkF m 227 #[.val (.int p1), .val (.int p2), .val (.ref b1), .val (.ref b32), .val (.int (13 : Int32)), .val (.ref s_DISCONNECT), .val (.int (224 : Int32)), .unset] [(.ref b32), (.int (224 : Int32))]))
    refine OwnR.of (fun _ hr => XS.iload X233.here hx rfl (hb hby at_227) rfl hr) ?_
    show OwnR _ _ _ _ _ _ _ (T233.setTop (mkF m 229 #[.val (.int p1), .val (.int p2), .val (.ref b1), .val (.ref b32), .val (.int (13 : Int32)), .val (.ref s_DISCONNECT), .val (.int (224 : Int32)), .unset] [(.int (13 : Int32)), (.ref b32), (.int (224 : Int32))]))
    obtain ⟨cl234, Ar234, -, S234, N234, H234, G234⟩ := id V47
    have hin234 : ¬ ((13 : Int32) < 0 ∨ cl234.slots.size ≤ ((13 : Int32)).toNatClampNeg) := (inb_of S234 ⟨by decide, by decide⟩)
    refine OwnR.of (X233.iaload hx (j := (13 : Int32)) (v := (.int (224 : Int32))) (by rw [e233]; exact Ar234.1) (State.isArrayOf_alike hZ.alike Ar234.2.1) Ar234.2.2 hin234 (Has.at H234 hin234 rfl) (g := (mkF m 229 #[.val (.int p1), .val (.int p2), .val (.ref b1), .val (.ref b32), .val (.int (13 : Int32)), .val (.ref s_DISCONNECT), .val (.int (224 : Int32)), .unset] [(.int (13 : Int32)), (.ref b32), (.int (224 : Int32))])) rfl rfl (hb hby at_229)) ?_
    show OwnR _ _ _ _ _ _ _ (T233.setTop (mkF m 230 #[.val (.int p1), .val (.int p2), .val (.ref b1), .val (.ref b32), .val (.int (13 : Int32)), .val (.ref s_DISCONNECT), .val (.int (224 : Int32)), .unset] [(.int (224 : Int32)), (.int (224 : Int32))]))
    refine OwnR.of (fun _ hr => XS.icmpYes X233.here hx rfl (pc0 := 230) (pc' := 235) rfl (hb hby at_230) rfl (teq (by decide : (224 : Int32) = (224 : Int32))).1 (by decide) (by decide) hr) ?_
    show OwnR _ _ _ _ _ _ _ (T233.setTop (mkF m 235 #[.val (.int p1), .val (.int p2), .val (.ref b1), .val (.ref b32), .val (.int (13 : Int32)), .val (.ref s_DISCONNECT), .val (.int (224 : Int32)), .unset] []))
    refine OwnR.of (fun _ hr => XS.iloadN X233.here hx rfl (hb hby at_235) rfl hr) ?_
    show OwnR _ _ _ _ _ _ _ (T233.setTop (mkF m 236 #[.val (.int p1), .val (.int p2), .val (.ref b1), .val (.ref b32), .val (.int (13 : Int32)), .val (.ref s_DISCONNECT), .val (.int (224 : Int32)), .unset] [(.int p2)]))
    refine OwnR.of (fun _ hr => XS.iconst X233.here hx rfl (hb hby at_236) hr) ?_
    show OwnR _ _ _ _ _ _ _ (T233.setTop (mkF m 237 #[.val (.int p1), .val (.int p2), .val (.ref b1), .val (.ref b32), .val (.int (13 : Int32)), .val (.ref s_DISCONNECT), .val (.int (224 : Int32)), .unset] [(.int (1 : Int32)), (.int p2)]))
    refine OwnR.of (fun _ hr => XS.iand X233.here hx rfl (hb hby at_237) rfl hr) ?_
    show OwnR _ _ _ _ _ _ _ (T233.setTop (mkF m 238 #[.val (.int p1), .val (.int p2), .val (.ref b1), .val (.ref b32), .val (.int (13 : Int32)), .val (.ref s_DISCONNECT), .val (.int (224 : Int32)), .unset] [(.int (p2 &&& (1 : Int32)))]))
    by_cases hc238_235 : (p2 &&& (1 : Int32)) = (0 : Int32)
    · skip
      refine OwnR.of (fun _ hr => XS.ifNo X233.here hx rfl (hb hby at_238) rfl ((if0 _ _).trans (teq hc238_235).2) hr) ?_
      show OwnR _ _ _ _ _ _ _ (T233.setTop (mkF m 241 #[.val (.int p1), .val (.int p2), .val (.ref b1), .val (.ref b32), .val (.int (13 : Int32)), .val (.ref s_DISCONNECT), .val (.int (224 : Int32)), .unset] []))
      refine OwnR.of (fun _ hr => XS.aload X233.here hx rfl (hb hby at_241) rfl rfl hr) ?_
      show OwnR _ _ _ _ _ _ _ (T233.setTop (mkF m 243 #[.val (.int p1), .val (.int p2), .val (.ref b1), .val (.ref b32), .val (.int (13 : Int32)), .val (.ref s_DISCONNECT), .val (.int (224 : Int32)), .unset] [(.ref s_DISCONNECT)]))
      obtain ⟨T236, X236, e236, st236⟩ := getS2 X233 hx hZ hown (host := "") (Or.inl (hw _ (List.mem_of_getElem? (i := 32) rfl))) Via.refl e233 R50 (g := (mkF m 243 #[.val (.int p1), .val (.int p2), .val (.ref b1), .val (.ref b32), .val (.int (13 : Int32)), .val (.ref s_DISCONNECT), .val (.int (224 : Int32)), .unset] [(.ref s_DISCONNECT)])) rfl (hb hby at_243)
      refine OwnR.of (st236) ?_
      show OwnR _ _ _ _ _ _ _ (T236.setTop (mkF m 246 #[.val (.int p1), .val (.int p2), .val (.ref b1), .val (.ref b32), .val (.int (13 : Int32)), .val (.ref s_DISCONNECT), .val (.int (224 : Int32)), .unset] [(.ref s_AUTH), (.ref s_DISCONNECT)]))
      refine OwnR.of (fun _ hr => Jvm.RoadKit.acmp (g := (mkF m 246 #[.val (.int p1), .val (.int p2), .val (.ref b1), .val (.ref b32), .val (.int (13 : Int32)), .val (.ref s_DISCONNECT), .val (.int (224 : Int32)), .unset] [(.ref s_AUTH), (.ref s_DISCONNECT)])) X236 hx rfl rfl rfl (pc0 := 246) (pc' := 255) (same := false) rfl (hb hby at_246) rfl (decide_eq_false fun q => ne_DISCONNECT (Value.ref.inj q)) (by decide) (by decide) hr) ?_
      show OwnR _ _ _ _ _ _ _ (T236.setTop (mkF m 255 #[.val (.int p1), .val (.int p2), .val (.ref b1), .val (.ref b32), .val (.int (13 : Int32)), .val (.ref s_DISCONNECT), .val (.int (224 : Int32)), .unset] []))
      obtain ⟨T237, X237, e237, st237⟩ := getS2 X236 hx hZ hown (host := "") (Or.inl (hw _ (List.mem_of_getElem? (i := 56) rfl))) Via.refl e236 R51 (g := (mkF m 255 #[.val (.int p1), .val (.int p2), .val (.ref b1), .val (.ref b32), .val (.int (13 : Int32)), .val (.ref s_DISCONNECT), .val (.int (224 : Int32)), .unset] [])) rfl (hb hby at_255)
      refine OwnR.of (st237) ?_
      show OwnR _ _ _ _ _ _ _ (T237.setTop (mkF m 258 #[.val (.int p1), .val (.int p2), .val (.ref b1), .val (.ref b32), .val (.int (13 : Int32)), .val (.ref s_DISCONNECT), .val (.int (224 : Int32)), .unset] [(.ref s_V3)]))
      refine OwnR.of (fun _ hr => XS.astore X237.here hx rfl (hb hby at_258) rfl rfl (l' := #[.val (.int p1), .val (.int p2), .val (.ref b1), .val (.ref b32), .val (.int (13 : Int32)), .val (.ref s_DISCONNECT), .val (.int (224 : Int32)), .val (.ref s_V3)]) rfl hr) ?_
      show OwnR _ _ _ _ _ _ _ (T237.setTop (mkF m 260 #[.val (.int p1), .val (.int p2), .val (.ref b1), .val (.ref b32), .val (.int (13 : Int32)), .val (.ref s_DISCONNECT), .val (.int (224 : Int32)), .val (.ref s_V3)] []))
      refine OwnR.of (fun _ hr => XS.iload X237.here hx rfl (hb hby at_260) rfl hr) ?_
      show OwnR _ _ _ _ _ _ _ (T237.setTop (mkF m 262 #[.val (.int p1), .val (.int p2), .val (.ref b1), .val (.ref b32), .val (.int (13 : Int32)), .val (.ref s_DISCONNECT), .val (.int (224 : Int32)), .val (.ref s_V3)] [(.int (224 : Int32))]))
      refine OwnR.of (fun _ hr => XS.aload X237.here hx rfl (hb hby at_262) rfl rfl hr) ?_
      show OwnR _ _ _ _ _ _ _ (T237.setTop (mkF m 264 #[.val (.int p1), .val (.int p2), .val (.ref b1), .val (.ref b32), .val (.int (13 : Int32)), .val (.ref s_DISCONNECT), .val (.int (224 : Int32)), .val (.ref s_V3)] [(.ref s_V3), (.int (224 : Int32))]))
      obtain ⟨_, _, ⟨T238, L238, kc238, ns238⟩, -, X238, ⟨Lc238, hQ238, l238, y238, z238⟩, st238⟩ := Jvm.LawKit.callS X237 hx (y := (⟨"com/example/kurir/kurir/codec/PacketType", "of", "(ILcom/example/kurir/kurir/codec/ProtocolVersion;)Lcom/example/kurir/kurir/codec/PacketType;"⟩ : MethodName)) hown (mvT hZ (hw _ (List.mem_of_getElem? (i := 48) rfl))) (mvT hZ (hw _ (List.mem_of_getElem? (i := 49) rfl))) (mvT hZ (hw _ (List.mem_of_getElem? (i := 3) rfl))) (mvT hZ (hw _ (List.mem_of_getElem? (i := 50) rfl))) (by decide) (backOf (W := 0) (rm2_13 l Z a0 hw [] s_V3 sb kb s_CONNECT s_CONNACK s_PUBLISH s_PUBACK s_PUBREC s_PUBREL s_PUBCOMP s_SUBSCRIBE s_SUBACK s_UNSUBSCRIBE s_UNSUBACK s_PINGREQ s_PINGRESP s_DISCONNECT s_AUTH s_V3 h47 n0 (Nat.le_trans Z0 K47.1) R48 R49 R50 R51 ne_DISCONNECT) hZ (hw _ (List.mem_of_getElem? (i := 50) rfl)) (hw _ (List.mem_of_getElem? (i := 3) rfl)) (by decide) (by decide)) (g := (mkF m 264 #[.val (.int p1), .val (.int p2), .val (.ref b1), .val (.ref b32), .val (.int (13 : Int32)), .val (.ref s_DISCONNECT), .val (.int (224 : Int32)), .val (.ref s_V3)] [(.ref s_V3), (.int (224 : Int32))])) rfl (by rw [hml]; rfl) (argsL := [(.int (224 : Int32)), (.ref s_V3)]) (rest := []) (lenOf pd__ILcom_example_kurir_kurir_codec_ProtocolVersion__Lcom_example_kurir_kurir_codec_PacketType_ rfl) rfl (by show 2 * 0 + _ ≤ _; exact Nat.le_of_eq rfl) (hb hby at_264) (fun _ _ => ⟨rfl, e237, (by decide : 2 + 0 ≤ _), (by decide : 30 + 0 ≤ _)⟩)
      dsimp only [Pt.U, Pt.locs, Pt.cells, Pt.slots] at X238 l238 y238 z238 st238 hQ238
      rw [l238, y238, z238] at X238
      obtain ⟨rfl, N238q, e238⟩ := hQ238
      have N238 := Fr.app N233 N238q
      refine OwnR.of (st238) ?_
      show OwnR _ _ _ _ _ _ _ (T238.setTop (mkF m 267 #[.val (.int p1), .val (.int p2), .val (.ref b1), .val (.ref b32), .val (.int (13 : Int32)), .val (.ref s_DISCONNECT), .val (.int (224 : Int32)), .val (.ref s_V3)] [(.ref s_DISCONNECT)]))
      refine OwnR.of (fun _ hr => XS.aload X238.here hx rfl (hb hby at_267) rfl rfl hr) ?_
      show OwnR _ _ _ _ _ _ _ (T238.setTop (mkF m 269 #[.val (.int p1), .val (.int p2), .val (.ref b1), .val (.ref b32), .val (.int (13 : Int32)), .val (.ref s_DISCONNECT), .val (.int (224 : Int32)), .val (.ref s_V3)] [(.ref s_DISCONNECT), (.ref s_DISCONNECT)]))
      refine OwnR.of (fun _ hr => Jvm.RoadKit.acmp (g := (mkF m 269 #[.val (.int p1), .val (.int p2), .val (.ref b1), .val (.ref b32), .val (.int (13 : Int32)), .val (.ref s_DISCONNECT), .val (.int (224 : Int32)), .val (.ref s_V3)] [(.ref s_DISCONNECT), (.ref s_DISCONNECT)])) X238 hx rfl rfl rfl (pc0 := 269) (pc' := 272) (same := true) rfl (hb hby at_269) rfl (decide_eq_true rfl) (by decide) (by decide) hr) ?_
      show OwnR _ _ _ _ _ _ _ (T238.setTop (mkF m 272 #[.val (.int p1), .val (.int p2), .val (.ref b1), .val (.ref b32), .val (.int (13 : Int32)), .val (.ref s_DISCONNECT), .val (.int (224 : Int32)), .val (.ref s_V3)] []))
      refine OwnR.of (fun _ hr => XS.iconst X238.here hx rfl (hb hby at_272) hr) ?_
      show OwnR _ _ _ _ _ _ _ (T238.setTop (mkF m 273 #[.val (.int p1), .val (.int p2), .val (.ref b1), .val (.ref b32), .val (.int (13 : Int32)), .val (.ref s_DISCONNECT), .val (.int (224 : Int32)), .val (.ref s_V3)] [(.int (1 : Int32))]))
      refine OwnR.of (fun _ hr => XS.goto X238.here hx rfl (pc0 := 273) (pc' := 277) rfl (hb hby at_273) (by decide) (by decide) hr) ?_
      show OwnR _ _ _ _ _ _ _ (T238.setTop (mkF m 277 #[.val (.int p1), .val (.int p2), .val (.ref b1), .val (.ref b32), .val (.int (13 : Int32)), .val (.ref s_DISCONNECT), .val (.int (224 : Int32)), .val (.ref s_V3)] [(.int (1 : Int32))]))
      refine own_leafN X238 hx hlk (t := .boolean) Bd.returns (by simp) (hb hby at_277) (z' := (1 : Int32)) rfl (by decide) (by decide) ?_
      show Q0 Z  h0 n0 _ T238.heap _
      rw [show T238.heap = h47 from e238]
      refine ⟨?_, N238⟩
      show (some (.int (1 : Int32)) : Option Value) = some (.int (1 : Int32))
      rfl
    · skip
      refine OwnR.of (fun _ hr => XS.ifYes X233.here hx rfl (pc0 := 238) (pc' := 249) rfl (hb hby at_238) rfl ((if0 _ _).trans (feq hc238_235).2) (by decide) (by decide) hr) ?_
      show OwnR _ _ _ _ _ _ _ (T233.setTop (mkF m 249 #[.val (.int p1), .val (.int p2), .val (.ref b1), .val (.ref b32), .val (.int (13 : Int32)), .val (.ref s_DISCONNECT), .val (.int (224 : Int32)), .unset] []))
      obtain ⟨T239, X239, e239, st239⟩ := getS2 X233 hx hZ hown (host := "") (Or.inl (hw _ (List.mem_of_getElem? (i := 45) rfl))) Via.refl e233 R52 (g := (mkF m 249 #[.val (.int p1), .val (.int p2), .val (.ref b1), .val (.ref b32), .val (.int (13 : Int32)), .val (.ref s_DISCONNECT), .val (.int (224 : Int32)), .unset] [])) rfl (hb hby at_249)
      refine OwnR.of (st239) ?_
      show OwnR _ _ _ _ _ _ _ (T239.setTop (mkF m 252 #[.val (.int p1), .val (.int p2), .val (.ref b1), .val (.ref b32), .val (.int (13 : Int32)), .val (.ref s_DISCONNECT), .val (.int (224 : Int32)), .unset] [(.ref s_V5)]))
      refine OwnR.of (fun _ hr => XS.goto X239.here hx rfl (pc0 := 252) (pc' := 258) rfl (hb hby at_252) (by decide) (by decide) hr) ?_
      show OwnR _ _ _ _ _ _ _ (T239.setTop (mkF m 258 #[.val (.int p1), .val (.int p2), .val (.ref b1), .val (.ref b32), .val (.int (13 : Int32)), .val (.ref s_DISCONNECT), .val (.int (224 : Int32)), .unset] [(.ref s_V5)]))
      refine OwnR.of (fun _ hr => XS.astore X239.here hx rfl (hb hby at_258) rfl rfl (l' := #[.val (.int p1), .val (.int p2), .val (.ref b1), .val (.ref b32), .val (.int (13 : Int32)), .val (.ref s_DISCONNECT), .val (.int (224 : Int32)), .val (.ref s_V5)]) rfl hr) ?_
      show OwnR _ _ _ _ _ _ _ (T239.setTop (mkF m 260 #[.val (.int p1), .val (.int p2), .val (.ref b1), .val (.ref b32), .val (.int (13 : Int32)), .val (.ref s_DISCONNECT), .val (.int (224 : Int32)), .val (.ref s_V5)] []))
      refine OwnR.of (fun _ hr => XS.iload X239.here hx rfl (hb hby at_260) rfl hr) ?_
      show OwnR _ _ _ _ _ _ _ (T239.setTop (mkF m 262 #[.val (.int p1), .val (.int p2), .val (.ref b1), .val (.ref b32), .val (.int (13 : Int32)), .val (.ref s_DISCONNECT), .val (.int (224 : Int32)), .val (.ref s_V5)] [(.int (224 : Int32))]))
      refine OwnR.of (fun _ hr => XS.aload X239.here hx rfl (hb hby at_262) rfl rfl hr) ?_
      show OwnR _ _ _ _ _ _ _ (T239.setTop (mkF m 264 #[.val (.int p1), .val (.int p2), .val (.ref b1), .val (.ref b32), .val (.int (13 : Int32)), .val (.ref s_DISCONNECT), .val (.int (224 : Int32)), .val (.ref s_V5)] [(.ref s_V5), (.int (224 : Int32))]))
      obtain ⟨_, _, ⟨T240, L240, kc240, ns240⟩, -, X240, ⟨Lc240, hQ240, l240, y240, z240⟩, st240⟩ := Jvm.LawKit.callS X239 hx (y := (⟨"com/example/kurir/kurir/codec/PacketType", "of", "(ILcom/example/kurir/kurir/codec/ProtocolVersion;)Lcom/example/kurir/kurir/codec/PacketType;"⟩ : MethodName)) hown (mvT hZ (hw _ (List.mem_of_getElem? (i := 48) rfl))) (mvT hZ (hw _ (List.mem_of_getElem? (i := 49) rfl))) (mvT hZ (hw _ (List.mem_of_getElem? (i := 3) rfl))) (mvT hZ (hw _ (List.mem_of_getElem? (i := 50) rfl))) (by decide) (backOf (W := 0) (rm2_13 l Z a0 hw [] s_V5 sb kb s_CONNECT s_CONNACK s_PUBLISH s_PUBACK s_PUBREC s_PUBREL s_PUBCOMP s_SUBSCRIBE s_SUBACK s_UNSUBSCRIBE s_UNSUBACK s_PINGREQ s_PINGRESP s_DISCONNECT s_AUTH s_V3 h47 n0 (Nat.le_trans Z0 K47.1) R48 R49 R50 R51 ne_DISCONNECT) hZ (hw _ (List.mem_of_getElem? (i := 50) rfl)) (hw _ (List.mem_of_getElem? (i := 3) rfl)) (by decide) (by decide)) (g := (mkF m 264 #[.val (.int p1), .val (.int p2), .val (.ref b1), .val (.ref b32), .val (.int (13 : Int32)), .val (.ref s_DISCONNECT), .val (.int (224 : Int32)), .val (.ref s_V5)] [(.ref s_V5), (.int (224 : Int32))])) rfl (by rw [hml]; rfl) (argsL := [(.int (224 : Int32)), (.ref s_V5)]) (rest := []) (lenOf pd__ILcom_example_kurir_kurir_codec_ProtocolVersion__Lcom_example_kurir_kurir_codec_PacketType_ rfl) rfl (by show 2 * 0 + _ ≤ _; exact Nat.le_of_eq rfl) (hb hby at_264) (fun _ _ => ⟨rfl, e239, (by decide : 2 + 0 ≤ _), (by decide : 30 + 0 ≤ _)⟩)
      dsimp only [Pt.U, Pt.locs, Pt.cells, Pt.slots] at X240 l240 y240 z240 st240 hQ240
      rw [l240, y240, z240] at X240
      obtain ⟨rfl, N240q, e240⟩ := hQ240
      have N240 := Fr.app N233 N240q
      refine OwnR.of (st240) ?_
      show OwnR _ _ _ _ _ _ _ (T240.setTop (mkF m 267 #[.val (.int p1), .val (.int p2), .val (.ref b1), .val (.ref b32), .val (.int (13 : Int32)), .val (.ref s_DISCONNECT), .val (.int (224 : Int32)), .val (.ref s_V5)] [(.ref s_DISCONNECT)]))
      refine OwnR.of (fun _ hr => XS.aload X240.here hx rfl (hb hby at_267) rfl rfl hr) ?_
      show OwnR _ _ _ _ _ _ _ (T240.setTop (mkF m 269 #[.val (.int p1), .val (.int p2), .val (.ref b1), .val (.ref b32), .val (.int (13 : Int32)), .val (.ref s_DISCONNECT), .val (.int (224 : Int32)), .val (.ref s_V5)] [(.ref s_DISCONNECT), (.ref s_DISCONNECT)]))
      refine OwnR.of (fun _ hr => Jvm.RoadKit.acmp (g := (mkF m 269 #[.val (.int p1), .val (.int p2), .val (.ref b1), .val (.ref b32), .val (.int (13 : Int32)), .val (.ref s_DISCONNECT), .val (.int (224 : Int32)), .val (.ref s_V5)] [(.ref s_DISCONNECT), (.ref s_DISCONNECT)])) X240 hx rfl rfl rfl (pc0 := 269) (pc' := 272) (same := true) rfl (hb hby at_269) rfl (decide_eq_true rfl) (by decide) (by decide) hr) ?_
      show OwnR _ _ _ _ _ _ _ (T240.setTop (mkF m 272 #[.val (.int p1), .val (.int p2), .val (.ref b1), .val (.ref b32), .val (.int (13 : Int32)), .val (.ref s_DISCONNECT), .val (.int (224 : Int32)), .val (.ref s_V5)] []))
      refine OwnR.of (fun _ hr => XS.iconst X240.here hx rfl (hb hby at_272) hr) ?_
      show OwnR _ _ _ _ _ _ _ (T240.setTop (mkF m 273 #[.val (.int p1), .val (.int p2), .val (.ref b1), .val (.ref b32), .val (.int (13 : Int32)), .val (.ref s_DISCONNECT), .val (.int (224 : Int32)), .val (.ref s_V5)] [(.int (1 : Int32))]))
      refine OwnR.of (fun _ hr => XS.goto X240.here hx rfl (pc0 := 273) (pc' := 277) rfl (hb hby at_273) (by decide) (by decide) hr) ?_
      show OwnR _ _ _ _ _ _ _ (T240.setTop (mkF m 277 #[.val (.int p1), .val (.int p2), .val (.ref b1), .val (.ref b32), .val (.int (13 : Int32)), .val (.ref s_DISCONNECT), .val (.int (224 : Int32)), .val (.ref s_V5)] [(.int (1 : Int32))]))
      refine own_leafN X240 hx hlk (t := .boolean) Bd.returns (by simp) (hb hby at_277) (z' := (1 : Int32)) rfl (by decide) (by decide) ?_
      show Q0 Z  h0 n0 _ T240.heap _
      rw [show T240.heap = h47 from e240]
      refine ⟨?_, N240⟩
      show (some (.int (1 : Int32)) : Option Value) = some (.int (1 : Int32))
      rfl
  · skip
    show OwnR _ _ _ _ _ _ _ (T47.setTop (mkF m 211 #[.val (.int p1), .val (.int p2), .val (.ref b1), .val (.ref b32), .val (.int (14 : Int32)), .unset, .unset, .unset] []))
    refine OwnR.of (fun _ hr => XS.aloadN X47.here hx rfl (hb hby at_211) rfl rfl hr) ?_
    show OwnR _ _ _ _ _ _ _ (T47.setTop (mkF m 212 #[.val (.int p1), .val (.int p2), .val (.ref b1), .val (.ref b32), .val (.int (14 : Int32)), .unset, .unset, .unset] [(.ref b1)]))
    refine OwnR.of (fun _ hr => XS.iload X47.here hx rfl (hb hby at_212) rfl hr) ?_
    show OwnR _ _ _ _ _ _ _ (T47.setTop (mkF m 214 #[.val (.int p1), .val (.int p2), .val (.ref b1), .val (.ref b32), .val (.int (14 : Int32)), .unset, .unset, .unset] [(.int (14 : Int32)), (.ref b1)]))
    obtain ⟨cl241, Ar241, -, S241, N241, H241, G241⟩ := id R113
    have hin241 : ¬ ((14 : Int32) < 0 ∨ cl241.slots.size ≤ ((14 : Int32)).toNatClampNeg) := (inb_of S241 ⟨by decide, by decide⟩)
    refine OwnR.of (X47.aaload hx (j := (14 : Int32)) (v := (.ref s_AUTH)) (by rw [e47]; exact Ar241.1) (State.isArrayOf_alike hZ.alike Ar241.2.1) rfl Ar241.2.2 hin241 (Has.at H241 hin241 rfl) (g := (mkF m 214 #[.val (.int p1), .val (.int p2), .val (.ref b1), .val (.ref b32), .val (.int (14 : Int32)), .unset, .unset, .unset] [(.int (14 : Int32)), (.ref b1)])) rfl rfl (hb hby at_214)) ?_
    show OwnR _ _ _ _ _ _ _ (T47.setTop (mkF m 215 #[.val (.int p1), .val (.int p2), .val (.ref b1), .val (.ref b32), .val (.int (14 : Int32)), .unset, .unset, .unset] [(.ref s_AUTH)]))
    refine OwnR.of (fun _ hr => XS.astore X47.here hx rfl (hb hby at_215) rfl rfl (l' := #[.val (.int p1), .val (.int p2), .val (.ref b1), .val (.ref b32), .val (.int (14 : Int32)), .val (.ref s_AUTH), .unset, .unset]) rfl hr) ?_
    show OwnR _ _ _ _ _ _ _ (T47.setTop (mkF m 217 #[.val (.int p1), .val (.int p2), .val (.ref b1), .val (.ref b32), .val (.int (14 : Int32)), .val (.ref s_AUTH), .unset, .unset] []))
    refine OwnR.of (fun _ hr => XS.aload X47.here hx rfl (hb hby at_217) rfl rfl hr) ?_
    show OwnR _ _ _ _ _ _ _ (T47.setTop (mkF m 219 #[.val (.int p1), .val (.int p2), .val (.ref b1), .val (.ref b32), .val (.int (14 : Int32)), .val (.ref s_AUTH), .unset, .unset] [(.ref s_AUTH)]))
    obtain ⟨cq242, kq242, q242a, q242b, q242c⟩ := isOf hZ e47 R109
    obtain ⟨_, _, ⟨T242, L242, kc242, ns242⟩, -, X242, ⟨Lc242, hQ242, l242, y242, z242⟩, st242⟩ := X47.virtualBack hx (y := (⟨"com/example/kurir/kurir/codec/PacketType", "firstByte", "()I"⟩ : MethodName)) (z := (⟨"com/example/kurir/kurir/codec/PacketType", "firstByte", "()I"⟩ : MethodName)) hown (mvT hZ (hw _ (List.mem_of_getElem? (i := 36) rfl))) (mvT hZ (hw _ (List.mem_of_getElem? (i := 37) rfl))) (notFace_of_selects (args := #[]) (mvT hZ (hw _ (List.mem_of_getElem? (i := 39) rfl)))) (mvT hZ (hw _ (List.mem_of_getElem? (i := 39) rfl))) (mvT hZ (hw _ (List.mem_of_getElem? (i := 38) rfl))) (by decide) (backOf (W := 0) (rm1 l Z a0 hw [] s_AUTH (15 : Int32) (0 : Int32) h47 n0 (Nat.le_trans Z0 K47.1) R109 R110 R111) hZ (hw _ (List.mem_of_getElem? (i := 40) rfl)) (hw _ (List.mem_of_getElem? (i := 3) rfl)) (by decide) (by decide)) q242a q242c (g := (mkF m 219 #[.val (.int p1), .val (.int p2), .val (.ref b1), .val (.ref b32), .val (.int (14 : Int32)), .val (.ref s_AUTH), .unset, .unset] [(.ref s_AUTH)])) rfl (by rw [hml]; rfl) (Steps.refl _) (argsL := []) (rest := []) (lenOf pd___I rfl) rfl (by show 2 * 0 + _ ≤ _; exact Nat.le_of_eq rfl) (hb hby at_219) (fun _ _ => ⟨rfl, e47, (by decide : 2 + 0 ≤ _), (by decide : 30 + 0 ≤ _)⟩)
    dsimp only [Pt.U, Pt.locs, Pt.cells, Pt.slots] at X242 l242 y242 z242 st242 hQ242
    rw [l242, y242, z242] at X242
    obtain ⟨rfl, N242q, e242⟩ := hQ242
    have N242 := Fr.app N47 N242q
    refine OwnR.of (fun _ hr => st242.trans hr) ?_
    show OwnR _ _ _ _ _ _ _ (T242.setTop (mkF m 222 #[.val (.int p1), .val (.int p2), .val (.ref b1), .val (.ref b32), .val (.int (14 : Int32)), .val (.ref s_AUTH), .unset, .unset] [(.int (own_fb (15 : Int32) (0 : Int32)))]))
    rw [(by decide : (own_fb (15 : Int32) (0 : Int32)) = (240 : Int32))]
    show OwnR _ _ _ _ _ _ _ (T242.setTop (mkF m 222 #[.val (.int p1), .val (.int p2), .val (.ref b1), .val (.ref b32), .val (.int (14 : Int32)), .val (.ref s_AUTH), .unset, .unset] [(.int (240 : Int32))]))
    refine OwnR.of (fun _ hr => XS.istore X242.here hx rfl (hb hby at_222) rfl (l' := #[.val (.int p1), .val (.int p2), .val (.ref b1), .val (.ref b32), .val (.int (14 : Int32)), .val (.ref s_AUTH), .val (.int (240 : Int32)), .unset]) rfl hr) ?_
    show OwnR _ _ _ _ _ _ _ (T242.setTop (mkF m 224 #[.val (.int p1), .val (.int p2), .val (.ref b1), .val (.ref b32), .val (.int (14 : Int32)), .val (.ref s_AUTH), .val (.int (240 : Int32)), .unset] []))
    refine OwnR.of (fun _ hr => XS.iload X242.here hx rfl (hb hby at_224) rfl hr) ?_
    show OwnR _ _ _ _ _ _ _ (T242.setTop (mkF m 226 #[.val (.int p1), .val (.int p2), .val (.ref b1), .val (.ref b32), .val (.int (14 : Int32)), .val (.ref s_AUTH), .val (.int (240 : Int32)), .unset] [(.int (240 : Int32))]))
    refine OwnR.of (fun _ hr => XS.aloadN X242.here hx rfl (hb hby at_226) rfl rfl hr) ?_
    show OwnR _ _ _ _ _ _ _ (T242.setTop (mkF m 227 #[.val (.int p1), .val (.int p2), .val (.ref b1), .val (.ref b32), .val (.int (14 : Int32)), .val (.ref s_AUTH), .val (.int (240 : Int32)), .unset] [(.ref b32), (.int (240 : Int32))]))
    refine OwnR.of (fun _ hr => XS.iload X242.here hx rfl (hb hby at_227) rfl hr) ?_
    show OwnR _ _ _ _ _ _ _ (T242.setTop (mkF m 229 #[.val (.int p1), .val (.int p2), .val (.ref b1), .val (.ref b32), .val (.int (14 : Int32)), .val (.ref s_AUTH), .val (.int (240 : Int32)), .unset] [(.int (14 : Int32)), (.ref b32), (.int (240 : Int32))]))
    obtain ⟨cl243, Ar243, -, S243, N243, H243, G243⟩ := id V47
    have hin243 : ¬ ((14 : Int32) < 0 ∨ cl243.slots.size ≤ ((14 : Int32)).toNatClampNeg) := (inb_of S243 ⟨by decide, by decide⟩)
    refine OwnR.of (X242.iaload hx (j := (14 : Int32)) (v := (.int (240 : Int32))) (by rw [e242]; exact Ar243.1) (State.isArrayOf_alike hZ.alike Ar243.2.1) Ar243.2.2 hin243 (Has.at H243 hin243 rfl) (g := (mkF m 229 #[.val (.int p1), .val (.int p2), .val (.ref b1), .val (.ref b32), .val (.int (14 : Int32)), .val (.ref s_AUTH), .val (.int (240 : Int32)), .unset] [(.int (14 : Int32)), (.ref b32), (.int (240 : Int32))])) rfl rfl (hb hby at_229)) ?_
    show OwnR _ _ _ _ _ _ _ (T242.setTop (mkF m 230 #[.val (.int p1), .val (.int p2), .val (.ref b1), .val (.ref b32), .val (.int (14 : Int32)), .val (.ref s_AUTH), .val (.int (240 : Int32)), .unset] [(.int (240 : Int32)), (.int (240 : Int32))]))
    refine OwnR.of (fun _ hr => XS.icmpYes X242.here hx rfl (pc0 := 230) (pc' := 235) rfl (hb hby at_230) rfl (teq (by decide : (240 : Int32) = (240 : Int32))).1 (by decide) (by decide) hr) ?_
    show OwnR _ _ _ _ _ _ _ (T242.setTop (mkF m 235 #[.val (.int p1), .val (.int p2), .val (.ref b1), .val (.ref b32), .val (.int (14 : Int32)), .val (.ref s_AUTH), .val (.int (240 : Int32)), .unset] []))
    refine OwnR.of (fun _ hr => XS.iloadN X242.here hx rfl (hb hby at_235) rfl hr) ?_
    show OwnR _ _ _ _ _ _ _ (T242.setTop (mkF m 236 #[.val (.int p1), .val (.int p2), .val (.ref b1), .val (.ref b32), .val (.int (14 : Int32)), .val (.ref s_AUTH), .val (.int (240 : Int32)), .unset] [(.int p2)]))
    refine OwnR.of (fun _ hr => XS.iconst X242.here hx rfl (hb hby at_236) hr) ?_
    show OwnR _ _ _ _ _ _ _ (T242.setTop (mkF m 237 #[.val (.int p1), .val (.int p2), .val (.ref b1), .val (.ref b32), .val (.int (14 : Int32)), .val (.ref s_AUTH), .val (.int (240 : Int32)), .unset] [(.int (1 : Int32)), (.int p2)]))
    refine OwnR.of (fun _ hr => XS.iand X242.here hx rfl (hb hby at_237) rfl hr) ?_
    show OwnR _ _ _ _ _ _ _ (T242.setTop (mkF m 238 #[.val (.int p1), .val (.int p2), .val (.ref b1), .val (.ref b32), .val (.int (14 : Int32)), .val (.ref s_AUTH), .val (.int (240 : Int32)), .unset] [(.int (p2 &&& (1 : Int32)))]))
    by_cases hc238_244 : (p2 &&& (1 : Int32)) = (0 : Int32)
    · skip
      refine OwnR.of (fun _ hr => XS.ifNo X242.here hx rfl (hb hby at_238) rfl ((if0 _ _).trans (teq hc238_244).2) hr) ?_
      show OwnR _ _ _ _ _ _ _ (T242.setTop (mkF m 241 #[.val (.int p1), .val (.int p2), .val (.ref b1), .val (.ref b32), .val (.int (14 : Int32)), .val (.ref s_AUTH), .val (.int (240 : Int32)), .unset] []))
      refine OwnR.of (fun _ hr => XS.aload X242.here hx rfl (hb hby at_241) rfl rfl hr) ?_
      show OwnR _ _ _ _ _ _ _ (T242.setTop (mkF m 243 #[.val (.int p1), .val (.int p2), .val (.ref b1), .val (.ref b32), .val (.int (14 : Int32)), .val (.ref s_AUTH), .val (.int (240 : Int32)), .unset] [(.ref s_AUTH)]))
      obtain ⟨T245, X245, e245, st245⟩ := getS2 X242 hx hZ hown (host := "") (Or.inl (hw _ (List.mem_of_getElem? (i := 32) rfl))) Via.refl e242 R50 (g := (mkF m 243 #[.val (.int p1), .val (.int p2), .val (.ref b1), .val (.ref b32), .val (.int (14 : Int32)), .val (.ref s_AUTH), .val (.int (240 : Int32)), .unset] [(.ref s_AUTH)])) rfl (hb hby at_243)
      refine OwnR.of (st245) ?_
      show OwnR _ _ _ _ _ _ _ (T245.setTop (mkF m 246 #[.val (.int p1), .val (.int p2), .val (.ref b1), .val (.ref b32), .val (.int (14 : Int32)), .val (.ref s_AUTH), .val (.int (240 : Int32)), .unset] [(.ref s_AUTH), (.ref s_AUTH)]))
      refine OwnR.of (fun _ hr => Jvm.RoadKit.acmp (g := (mkF m 246 #[.val (.int p1), .val (.int p2), .val (.ref b1), .val (.ref b32), .val (.int (14 : Int32)), .val (.ref s_AUTH), .val (.int (240 : Int32)), .unset] [(.ref s_AUTH), (.ref s_AUTH)])) X245 hx rfl rfl rfl (pc0 := 246) (pc' := 249) (same := true) rfl (hb hby at_246) rfl (decide_eq_true rfl) (by decide) (by decide) hr) ?_
      show OwnR _ _ _ _ _ _ _ (T245.setTop (mkF m 249 #[.val (.int p1), .val (.int p2), .val (.ref b1), .val (.ref b32), .val (.int (14 : Int32)), .val (.ref s_AUTH), .val (.int (240 : Int32)), .unset] []))
      obtain ⟨T246, X246, e246, st246⟩ := getS2 X245 hx hZ hown (host := "") (Or.inl (hw _ (List.mem_of_getElem? (i := 45) rfl))) Via.refl e245 R52 (g := (mkF m 249 #[.val (.int p1), .val (.int p2), .val (.ref b1), .val (.ref b32), .val (.int (14 : Int32)), .val (.ref s_AUTH), .val (.int (240 : Int32)), .unset] [])) rfl (hb hby at_249)
      refine OwnR.of (st246) ?_
      show OwnR _ _ _ _ _ _ _ (T246.setTop (mkF m 252 #[.val (.int p1), .val (.int p2), .val (.ref b1), .val (.ref b32), .val (.int (14 : Int32)), .val (.ref s_AUTH), .val (.int (240 : Int32)), .unset] [(.ref s_V5)]))
      refine OwnR.of (fun _ hr => XS.goto X246.here hx rfl (pc0 := 252) (pc' := 258) rfl (hb hby at_252) (by decide) (by decide) hr) ?_
      show OwnR _ _ _ _ _ _ _ (T246.setTop (mkF m 258 #[.val (.int p1), .val (.int p2), .val (.ref b1), .val (.ref b32), .val (.int (14 : Int32)), .val (.ref s_AUTH), .val (.int (240 : Int32)), .unset] [(.ref s_V5)]))
      refine OwnR.of (fun _ hr => XS.astore X246.here hx rfl (hb hby at_258) rfl rfl (l' := #[.val (.int p1), .val (.int p2), .val (.ref b1), .val (.ref b32), .val (.int (14 : Int32)), .val (.ref s_AUTH), .val (.int (240 : Int32)), .val (.ref s_V5)]) rfl hr) ?_
      show OwnR _ _ _ _ _ _ _ (T246.setTop (mkF m 260 #[.val (.int p1), .val (.int p2), .val (.ref b1), .val (.ref b32), .val (.int (14 : Int32)), .val (.ref s_AUTH), .val (.int (240 : Int32)), .val (.ref s_V5)] []))
      refine OwnR.of (fun _ hr => XS.iload X246.here hx rfl (hb hby at_260) rfl hr) ?_
      show OwnR _ _ _ _ _ _ _ (T246.setTop (mkF m 262 #[.val (.int p1), .val (.int p2), .val (.ref b1), .val (.ref b32), .val (.int (14 : Int32)), .val (.ref s_AUTH), .val (.int (240 : Int32)), .val (.ref s_V5)] [(.int (240 : Int32))]))
      refine OwnR.of (fun _ hr => XS.aload X246.here hx rfl (hb hby at_262) rfl rfl hr) ?_
      show OwnR _ _ _ _ _ _ _ (T246.setTop (mkF m 264 #[.val (.int p1), .val (.int p2), .val (.ref b1), .val (.ref b32), .val (.int (14 : Int32)), .val (.ref s_AUTH), .val (.int (240 : Int32)), .val (.ref s_V5)] [(.ref s_V5), (.int (240 : Int32))]))
      obtain ⟨_, _, ⟨T247, L247, kc247, ns247⟩, -, X247, ⟨Lc247, hQ247, l247, y247, z247⟩, st247⟩ := Jvm.LawKit.callS X246 hx (y := (⟨"com/example/kurir/kurir/codec/PacketType", "of", "(ILcom/example/kurir/kurir/codec/ProtocolVersion;)Lcom/example/kurir/kurir/codec/PacketType;"⟩ : MethodName)) hown (mvT hZ (hw _ (List.mem_of_getElem? (i := 48) rfl))) (mvT hZ (hw _ (List.mem_of_getElem? (i := 49) rfl))) (mvT hZ (hw _ (List.mem_of_getElem? (i := 3) rfl))) (mvT hZ (hw _ (List.mem_of_getElem? (i := 50) rfl))) (by decide) (backOf (W := 0) (rm2_14 l Z a0 hw [] s_V5 sb kb s_CONNECT s_CONNACK s_PUBLISH s_PUBACK s_PUBREC s_PUBREL s_PUBCOMP s_SUBSCRIBE s_SUBACK s_UNSUBSCRIBE s_UNSUBACK s_PINGREQ s_PINGRESP s_DISCONNECT s_AUTH s_V3 h47 n0 (Nat.le_trans Z0 K47.1) R48 R49 R50 R51 ne_V) hZ (hw _ (List.mem_of_getElem? (i := 50) rfl)) (hw _ (List.mem_of_getElem? (i := 3) rfl)) (by decide) (by decide)) (g := (mkF m 264 #[.val (.int p1), .val (.int p2), .val (.ref b1), .val (.ref b32), .val (.int (14 : Int32)), .val (.ref s_AUTH), .val (.int (240 : Int32)), .val (.ref s_V5)] [(.ref s_V5), (.int (240 : Int32))])) rfl (by rw [hml]; rfl) (argsL := [(.int (240 : Int32)), (.ref s_V5)]) (rest := []) (lenOf pd__ILcom_example_kurir_kurir_codec_ProtocolVersion__Lcom_example_kurir_kurir_codec_PacketType_ rfl) rfl (by show 2 * 0 + _ ≤ _; exact Nat.le_of_eq rfl) (hb hby at_264) (fun _ _ => ⟨rfl, e246, (by decide : 2 + 0 ≤ _), (by decide : 30 + 0 ≤ _)⟩)
      dsimp only [Pt.U, Pt.locs, Pt.cells, Pt.slots] at X247 l247 y247 z247 st247 hQ247
      rw [l247, y247, z247] at X247
      obtain ⟨rfl, N247q, e247⟩ := hQ247
      have N247 := Fr.app N242 N247q
      refine OwnR.of (st247) ?_
      show OwnR _ _ _ _ _ _ _ (T247.setTop (mkF m 267 #[.val (.int p1), .val (.int p2), .val (.ref b1), .val (.ref b32), .val (.int (14 : Int32)), .val (.ref s_AUTH), .val (.int (240 : Int32)), .val (.ref s_V5)] [(.ref s_AUTH)]))
      refine OwnR.of (fun _ hr => XS.aload X247.here hx rfl (hb hby at_267) rfl rfl hr) ?_
      show OwnR _ _ _ _ _ _ _ (T247.setTop (mkF m 269 #[.val (.int p1), .val (.int p2), .val (.ref b1), .val (.ref b32), .val (.int (14 : Int32)), .val (.ref s_AUTH), .val (.int (240 : Int32)), .val (.ref s_V5)] [(.ref s_AUTH), (.ref s_AUTH)]))
      refine OwnR.of (fun _ hr => Jvm.RoadKit.acmp (g := (mkF m 269 #[.val (.int p1), .val (.int p2), .val (.ref b1), .val (.ref b32), .val (.int (14 : Int32)), .val (.ref s_AUTH), .val (.int (240 : Int32)), .val (.ref s_V5)] [(.ref s_AUTH), (.ref s_AUTH)])) X247 hx rfl rfl rfl (pc0 := 269) (pc' := 272) (same := true) rfl (hb hby at_269) rfl (decide_eq_true rfl) (by decide) (by decide) hr) ?_
      show OwnR _ _ _ _ _ _ _ (T247.setTop (mkF m 272 #[.val (.int p1), .val (.int p2), .val (.ref b1), .val (.ref b32), .val (.int (14 : Int32)), .val (.ref s_AUTH), .val (.int (240 : Int32)), .val (.ref s_V5)] []))
      refine OwnR.of (fun _ hr => XS.iconst X247.here hx rfl (hb hby at_272) hr) ?_
      show OwnR _ _ _ _ _ _ _ (T247.setTop (mkF m 273 #[.val (.int p1), .val (.int p2), .val (.ref b1), .val (.ref b32), .val (.int (14 : Int32)), .val (.ref s_AUTH), .val (.int (240 : Int32)), .val (.ref s_V5)] [(.int (1 : Int32))]))
      refine OwnR.of (fun _ hr => XS.goto X247.here hx rfl (pc0 := 273) (pc' := 277) rfl (hb hby at_273) (by decide) (by decide) hr) ?_
      show OwnR _ _ _ _ _ _ _ (T247.setTop (mkF m 277 #[.val (.int p1), .val (.int p2), .val (.ref b1), .val (.ref b32), .val (.int (14 : Int32)), .val (.ref s_AUTH), .val (.int (240 : Int32)), .val (.ref s_V5)] [(.int (1 : Int32))]))
      refine own_leafN X247 hx hlk (t := .boolean) Bd.returns (by simp) (hb hby at_277) (z' := (1 : Int32)) rfl (by decide) (by decide) ?_
      show Q0 Z  h0 n0 _ T247.heap _
      rw [show T247.heap = h47 from e247]
      refine ⟨?_, N247⟩
      show (some (.int (1 : Int32)) : Option Value) = some (.int (1 : Int32))
      rfl
    · skip
      refine OwnR.of (fun _ hr => XS.ifYes X242.here hx rfl (pc0 := 238) (pc' := 249) rfl (hb hby at_238) rfl ((if0 _ _).trans (feq hc238_244).2) (by decide) (by decide) hr) ?_
      show OwnR _ _ _ _ _ _ _ (T242.setTop (mkF m 249 #[.val (.int p1), .val (.int p2), .val (.ref b1), .val (.ref b32), .val (.int (14 : Int32)), .val (.ref s_AUTH), .val (.int (240 : Int32)), .unset] []))
      obtain ⟨T248, X248, e248, st248⟩ := getS2 X242 hx hZ hown (host := "") (Or.inl (hw _ (List.mem_of_getElem? (i := 45) rfl))) Via.refl e242 R52 (g := (mkF m 249 #[.val (.int p1), .val (.int p2), .val (.ref b1), .val (.ref b32), .val (.int (14 : Int32)), .val (.ref s_AUTH), .val (.int (240 : Int32)), .unset] [])) rfl (hb hby at_249)
      refine OwnR.of (st248) ?_
      show OwnR _ _ _ _ _ _ _ (T248.setTop (mkF m 252 #[.val (.int p1), .val (.int p2), .val (.ref b1), .val (.ref b32), .val (.int (14 : Int32)), .val (.ref s_AUTH), .val (.int (240 : Int32)), .unset] [(.ref s_V5)]))
      refine OwnR.of (fun _ hr => XS.goto X248.here hx rfl (pc0 := 252) (pc' := 258) rfl (hb hby at_252) (by decide) (by decide) hr) ?_
      show OwnR _ _ _ _ _ _ _ (T248.setTop (mkF m 258 #[.val (.int p1), .val (.int p2), .val (.ref b1), .val (.ref b32), .val (.int (14 : Int32)), .val (.ref s_AUTH), .val (.int (240 : Int32)), .unset] [(.ref s_V5)]))
      refine OwnR.of (fun _ hr => XS.astore X248.here hx rfl (hb hby at_258) rfl rfl (l' := #[.val (.int p1), .val (.int p2), .val (.ref b1), .val (.ref b32), .val (.int (14 : Int32)), .val (.ref s_AUTH), .val (.int (240 : Int32)), .val (.ref s_V5)]) rfl hr) ?_
      show OwnR _ _ _ _ _ _ _ (T248.setTop (mkF m 260 #[.val (.int p1), .val (.int p2), .val (.ref b1), .val (.ref b32), .val (.int (14 : Int32)), .val (.ref s_AUTH), .val (.int (240 : Int32)), .val (.ref s_V5)] []))
      refine OwnR.of (fun _ hr => XS.iload X248.here hx rfl (hb hby at_260) rfl hr) ?_
      show OwnR _ _ _ _ _ _ _ (T248.setTop (mkF m 262 #[.val (.int p1), .val (.int p2), .val (.ref b1), .val (.ref b32), .val (.int (14 : Int32)), .val (.ref s_AUTH), .val (.int (240 : Int32)), .val (.ref s_V5)] [(.int (240 : Int32))]))
      refine OwnR.of (fun _ hr => XS.aload X248.here hx rfl (hb hby at_262) rfl rfl hr) ?_
      show OwnR _ _ _ _ _ _ _ (T248.setTop (mkF m 264 #[.val (.int p1), .val (.int p2), .val (.ref b1), .val (.ref b32), .val (.int (14 : Int32)), .val (.ref s_AUTH), .val (.int (240 : Int32)), .val (.ref s_V5)] [(.ref s_V5), (.int (240 : Int32))]))
      obtain ⟨_, _, ⟨T249, L249, kc249, ns249⟩, -, X249, ⟨Lc249, hQ249, l249, y249, z249⟩, st249⟩ := Jvm.LawKit.callS X248 hx (y := (⟨"com/example/kurir/kurir/codec/PacketType", "of", "(ILcom/example/kurir/kurir/codec/ProtocolVersion;)Lcom/example/kurir/kurir/codec/PacketType;"⟩ : MethodName)) hown (mvT hZ (hw _ (List.mem_of_getElem? (i := 48) rfl))) (mvT hZ (hw _ (List.mem_of_getElem? (i := 49) rfl))) (mvT hZ (hw _ (List.mem_of_getElem? (i := 3) rfl))) (mvT hZ (hw _ (List.mem_of_getElem? (i := 50) rfl))) (by decide) (backOf (W := 0) (rm2_14 l Z a0 hw [] s_V5 sb kb s_CONNECT s_CONNACK s_PUBLISH s_PUBACK s_PUBREC s_PUBREL s_PUBCOMP s_SUBSCRIBE s_SUBACK s_UNSUBSCRIBE s_UNSUBACK s_PINGREQ s_PINGRESP s_DISCONNECT s_AUTH s_V3 h47 n0 (Nat.le_trans Z0 K47.1) R48 R49 R50 R51 ne_V) hZ (hw _ (List.mem_of_getElem? (i := 50) rfl)) (hw _ (List.mem_of_getElem? (i := 3) rfl)) (by decide) (by decide)) (g := (mkF m 264 #[.val (.int p1), .val (.int p2), .val (.ref b1), .val (.ref b32), .val (.int (14 : Int32)), .val (.ref s_AUTH), .val (.int (240 : Int32)), .val (.ref s_V5)] [(.ref s_V5), (.int (240 : Int32))])) rfl (by rw [hml]; rfl) (argsL := [(.int (240 : Int32)), (.ref s_V5)]) (rest := []) (lenOf pd__ILcom_example_kurir_kurir_codec_ProtocolVersion__Lcom_example_kurir_kurir_codec_PacketType_ rfl) rfl (by show 2 * 0 + _ ≤ _; exact Nat.le_of_eq rfl) (hb hby at_264) (fun _ _ => ⟨rfl, e248, (by decide : 2 + 0 ≤ _), (by decide : 30 + 0 ≤ _)⟩)
      dsimp only [Pt.U, Pt.locs, Pt.cells, Pt.slots] at X249 l249 y249 z249 st249 hQ249
      rw [l249, y249, z249] at X249
      obtain ⟨rfl, N249q, e249⟩ := hQ249
      have N249 := Fr.app N242 N249q
      refine OwnR.of (st249) ?_
      show OwnR _ _ _ _ _ _ _ (T249.setTop (mkF m 267 #[.val (.int p1), .val (.int p2), .val (.ref b1), .val (.ref b32), .val (.int (14 : Int32)), .val (.ref s_AUTH), .val (.int (240 : Int32)), .val (.ref s_V5)] [(.ref s_AUTH)]))
      refine OwnR.of (fun _ hr => XS.aload X249.here hx rfl (hb hby at_267) rfl rfl hr) ?_
      show OwnR _ _ _ _ _ _ _ (T249.setTop (mkF m 269 #[.val (.int p1), .val (.int p2), .val (.ref b1), .val (.ref b32), .val (.int (14 : Int32)), .val (.ref s_AUTH), .val (.int (240 : Int32)), .val (.ref s_V5)] [(.ref s_AUTH), (.ref s_AUTH)]))
      refine OwnR.of (fun _ hr => Jvm.RoadKit.acmp (g := (mkF m 269 #[.val (.int p1), .val (.int p2), .val (.ref b1), .val (.ref b32), .val (.int (14 : Int32)), .val (.ref s_AUTH), .val (.int (240 : Int32)), .val (.ref s_V5)] [(.ref s_AUTH), (.ref s_AUTH)])) X249 hx rfl rfl rfl (pc0 := 269) (pc' := 272) (same := true) rfl (hb hby at_269) rfl (decide_eq_true rfl) (by decide) (by decide) hr) ?_
      show OwnR _ _ _ _ _ _ _ (T249.setTop (mkF m 272 #[.val (.int p1), .val (.int p2), .val (.ref b1), .val (.ref b32), .val (.int (14 : Int32)), .val (.ref s_AUTH), .val (.int (240 : Int32)), .val (.ref s_V5)] []))
      refine OwnR.of (fun _ hr => XS.iconst X249.here hx rfl (hb hby at_272) hr) ?_
      show OwnR _ _ _ _ _ _ _ (T249.setTop (mkF m 273 #[.val (.int p1), .val (.int p2), .val (.ref b1), .val (.ref b32), .val (.int (14 : Int32)), .val (.ref s_AUTH), .val (.int (240 : Int32)), .val (.ref s_V5)] [(.int (1 : Int32))]))
      refine OwnR.of (fun _ hr => XS.goto X249.here hx rfl (pc0 := 273) (pc' := 277) rfl (hb hby at_273) (by decide) (by decide) hr) ?_
      show OwnR _ _ _ _ _ _ _ (T249.setTop (mkF m 277 #[.val (.int p1), .val (.int p2), .val (.ref b1), .val (.ref b32), .val (.int (14 : Int32)), .val (.ref s_AUTH), .val (.int (240 : Int32)), .val (.ref s_V5)] [(.int (1 : Int32))]))
      refine own_leafN X249 hx hlk (t := .boolean) Bd.returns (by simp) (hb hby at_277) (z' := (1 : Int32)) rfl (by decide) (by decide) ?_
      show Q0 Z  h0 n0 _ T249.heap _
      rw [show T249.heap = h47 from e249]
      refine ⟨?_, N249⟩
      show (some (.int (1 : Int32)) : Option Value) = some (.int (1 : Int32))
      rfl
set_option maxRecDepth 65536 in
set_option maxHeartbeats 40000000 in
theorem comes_1 {Post : Tables → Env → Array Value → State → Outcome → State → Prop} (hpost : ∀ tb e args s v u, (limb_1_1.after args s (.returned v) u = true ∧ limb_1_2.after args s (.returned v) u = true ∧ True) → FrameEnd s (.returned v) u (Jvm.fieldLocs frame_1_writes args s ++ Jvm.arrayLocs frame_1_arrays args s ++ Jvm.staticLocs frame_1_statics s) 16 128 → Post tb e args s (.returned v) u) :
    ArmFor flags0 classFile x code maxLocals ret World_1 tables_1 room_1 Calls_1 rest_1 Pre_1 Post := by
  intro l hfl _ _ p e ha hc hk s m args below hf hA hF happ hP
  obtain ⟨hcalls, hrest, hpre⟩ := hP
  obtain ⟨-, -, -, hnamed, -, -, -, hat⟩ := (Spec.applies_iff hf).mp happ
  obtain ⟨hg, hn⟩ := and_e (Cond.before_iff.mp (show (Jvm.Cond.and given_1 narrow_1).before args s = true from hpre))
  obtain ⟨ga1, gb1⟩ := and_e hg
  obtain ⟨ga2, gb2⟩ := and_e gb1
  obtain ⟨w0, w1, rfl⟩ : ∃ w0 w1 : Value, args = #[w0, w1] := by
    have hs : args.size = 2 := by simpa [Cond.value, given_1] using ga1
    obtain ⟨L⟩ := args
    match L, hs with
    | [w0, w1], _ => exact ⟨w0, w1, rfl⟩
  have hw := fun d (hd : d ∈ tables_1) => atoms_spec (ws := Jvm.Cond.code x code maxLocals ret :: tables_1) hat d (List.mem_cons_of_mem _ hd)
  have hfit : Fit s := fun {y c} hc i hi => by
    obtain ⟨ha, rfl⟩ := Array.getElem?_eq_some_iff.mp hc
    have q := List.all_eq_true.mp ((Array.all_eq_true_iff_forall_mem.mp hF) _ (Array.getElem_mem ha)) i (List.mem_range.mpr hi)
    simpa [Array.getElem?_eq_getElem hi] using q
  obtain ⟨i0, ei0⟩ := is_v ga2
  obtain rfl : w0 = (.int i0) := Option.some.inj ei0
  obtain ⟨i1, ei1⟩ := is_v gb2
  obtain rfl : w1 = (.int i1) := Option.some.inj ei1
  obtain ⟨na1, nb1⟩ := and_e hn
  obtain ⟨na2, nb2⟩ := and_e nb1
  obtain ⟨na3, nb3⟩ := and_e nb2
  obtain ⟨na4, nb4⟩ := and_e nb3
  obtain ⟨na5, nb5⟩ := and_e nb4
  obtain ⟨na6, nb6⟩ := and_e nb5
  obtain ⟨na7, nb7⟩ := and_e nb6
  obtain ⟨na8, nb8⟩ := and_e nb7
  obtain ⟨na9, nb9⟩ := and_e nb8
  obtain ⟨na10, nb10⟩ := and_e nb9
  obtain ⟨na11, nb11⟩ := and_e nb10
  obtain ⟨na12, nb12⟩ := and_e nb11
  obtain ⟨na13, nb13⟩ := and_e nb12
  obtain ⟨na14, nb14⟩ := and_e nb13
  obtain ⟨na15, nb15⟩ := and_e nb14
  obtain ⟨na16, nb16⟩ := and_e nb15
  obtain ⟨na17, nb17⟩ := and_e nb16
  obtain ⟨na18, nb18⟩ := and_e nb17
  obtain ⟨na19, nb19⟩ := and_e nb18
  obtain ⟨na20, nb20⟩ := and_e nb19
  obtain ⟨na21, nb21⟩ := and_e nb20
  obtain ⟨na22, nb22⟩ := and_e nb21
  obtain ⟨na23, nb23⟩ := and_e nb22
  obtain ⟨na24, nb24⟩ := and_e nb23
  obtain ⟨na25, nb25⟩ := and_e nb24
  obtain ⟨na26, nb26⟩ := and_e nb25
  obtain ⟨na27, nb27⟩ := and_e nb26
  obtain ⟨na28, nb28⟩ := and_e nb27
  obtain ⟨na29, nb29⟩ := and_e nb28
  obtain ⟨na30, nb30⟩ := and_e nb29
  obtain ⟨na31, nb31⟩ := and_e nb30
  obtain ⟨na32, nb32⟩ := and_e nb31
  obtain ⟨na33, nb33⟩ := and_e nb32
  obtain ⟨na34, nb34⟩ := and_e nb33
  obtain ⟨na35, nb35⟩ := and_e nb34
  obtain ⟨na36, nb36⟩ := and_e nb35
  obtain ⟨na37, nb37⟩ := and_e nb36
  obtain ⟨na38, nb38⟩ := and_e nb37
  obtain ⟨na39, nb39⟩ := and_e nb38
  obtain ⟨na40, nb40⟩ := and_e nb39
  obtain ⟨na41, nb41⟩ := and_e nb40
  obtain ⟨na42, nb42⟩ := and_e nb41
  obtain ⟨na43, nb43⟩ := and_e nb42
  obtain ⟨na44, nb44⟩ := and_e nb43
  obtain ⟨na45, nb45⟩ := and_e nb44
  obtain ⟨na46, nb46⟩ := and_e nb45
  obtain ⟨na47, nb47⟩ := and_e nb46
  obtain ⟨na48, nb48⟩ := and_e nb47
  obtain ⟨na49, nb49⟩ := and_e nb48
  obtain ⟨na50, nb50⟩ := and_e nb49
  obtain ⟨na51, nb51⟩ := and_e nb50
  obtain ⟨na52, nb52⟩ := and_e nb51
  obtain ⟨na53, nb53⟩ := and_e nb52
  obtain ⟨na54, nb54⟩ := and_e nb53
  obtain ⟨na55, nb55⟩ := and_e nb54
  obtain ⟨na56, nb56⟩ := and_e nb55
  obtain ⟨na57, nb57⟩ := and_e nb56
  obtain ⟨na58, nb58⟩ := and_e nb57
  obtain ⟨na59, nb59⟩ := and_e nb58
  obtain ⟨na60, nb60⟩ := and_e nb59
  obtain ⟨na61, nb61⟩ := and_e nb60
  obtain ⟨na62, nb62⟩ := and_e nb61
  obtain ⟨na63, nb63⟩ := and_e nb62
  obtain ⟨na64, nb64⟩ := and_e nb63
  obtain ⟨na65, nb65⟩ := and_e nb64
  obtain ⟨na66, nb66⟩ := and_e nb65
  obtain ⟨na67, nb67⟩ := and_e nb66
  obtain ⟨na68, nb68⟩ := and_e nb67
  obtain ⟨na69, nb69⟩ := and_e nb68
  obtain ⟨na70, nb70⟩ := and_e nb69
  obtain ⟨na71, nb71⟩ := and_e nb70
  obtain ⟨na72, nb72⟩ := and_e nb71
  obtain ⟨na73, nb73⟩ := and_e nb72
  obtain ⟨na74, nb74⟩ := and_e nb73
  obtain ⟨na75, nb75⟩ := and_e nb74
  obtain ⟨na76, nb76⟩ := and_e nb75
  obtain ⟨na77, nb77⟩ := and_e nb76
  obtain ⟨na78, nb78⟩ := and_e nb77
  obtain ⟨na79, nb79⟩ := and_e nb78
  obtain ⟨na80, nb80⟩ := and_e nb79
  obtain ⟨na81, nb81⟩ := and_e nb80
  obtain ⟨s_CONNECT, ev_CONNECT⟩ := exa_v na1
  have S_CONNECT := Sta.start ev_CONNECT (Or.inr ⟨hw _ (List.mem_of_getElem? (i := 3) rfl), hw _ (List.mem_of_getElem? (i := 4) rfl)⟩)
  have E_CONNECT := Exa.start ev_CONNECT na1
  obtain ⟨s_CONNACK, ev_CONNACK⟩ := exa_v na2
  have S_CONNACK := Sta.start ev_CONNACK (Or.inr ⟨hw _ (List.mem_of_getElem? (i := 3) rfl), hw _ (List.mem_of_getElem? (i := 7) rfl)⟩)
  have E_CONNACK := Exa.start ev_CONNACK na2
  obtain ⟨s_PUBLISH, ev_PUBLISH⟩ := exa_v na3
  have S_PUBLISH := Sta.start ev_PUBLISH (Or.inr ⟨hw _ (List.mem_of_getElem? (i := 3) rfl), hw _ (List.mem_of_getElem? (i := 9) rfl)⟩)
  have E_PUBLISH := Exa.start ev_PUBLISH na3
  obtain ⟨s_PUBACK, ev_PUBACK⟩ := exa_v na4
  have S_PUBACK := Sta.start ev_PUBACK (Or.inr ⟨hw _ (List.mem_of_getElem? (i := 3) rfl), hw _ (List.mem_of_getElem? (i := 11) rfl)⟩)
  have E_PUBACK := Exa.start ev_PUBACK na4
  obtain ⟨s_PUBREC, ev_PUBREC⟩ := exa_v na5
  have S_PUBREC := Sta.start ev_PUBREC (Or.inr ⟨hw _ (List.mem_of_getElem? (i := 3) rfl), hw _ (List.mem_of_getElem? (i := 13) rfl)⟩)
  have E_PUBREC := Exa.start ev_PUBREC na5
  obtain ⟨s_PUBREL, ev_PUBREL⟩ := exa_v na6
  have S_PUBREL := Sta.start ev_PUBREL (Or.inr ⟨hw _ (List.mem_of_getElem? (i := 3) rfl), hw _ (List.mem_of_getElem? (i := 15) rfl)⟩)
  have E_PUBREL := Exa.start ev_PUBREL na6
  obtain ⟨s_PUBCOMP, ev_PUBCOMP⟩ := exa_v na7
  have S_PUBCOMP := Sta.start ev_PUBCOMP (Or.inr ⟨hw _ (List.mem_of_getElem? (i := 3) rfl), hw _ (List.mem_of_getElem? (i := 17) rfl)⟩)
  have E_PUBCOMP := Exa.start ev_PUBCOMP na7
  obtain ⟨s_SUBSCRIBE, ev_SUBSCRIBE⟩ := exa_v na8
  have S_SUBSCRIBE := Sta.start ev_SUBSCRIBE (Or.inr ⟨hw _ (List.mem_of_getElem? (i := 3) rfl), hw _ (List.mem_of_getElem? (i := 19) rfl)⟩)
  have E_SUBSCRIBE := Exa.start ev_SUBSCRIBE na8
  obtain ⟨s_SUBACK, ev_SUBACK⟩ := exa_v na9
  have S_SUBACK := Sta.start ev_SUBACK (Or.inr ⟨hw _ (List.mem_of_getElem? (i := 3) rfl), hw _ (List.mem_of_getElem? (i := 21) rfl)⟩)
  have E_SUBACK := Exa.start ev_SUBACK na9
  obtain ⟨s_UNSUBSCRIBE, ev_UNSUBSCRIBE⟩ := exa_v na10
  have S_UNSUBSCRIBE := Sta.start ev_UNSUBSCRIBE (Or.inr ⟨hw _ (List.mem_of_getElem? (i := 3) rfl), hw _ (List.mem_of_getElem? (i := 23) rfl)⟩)
  have E_UNSUBSCRIBE := Exa.start ev_UNSUBSCRIBE na10
  obtain ⟨s_UNSUBACK, ev_UNSUBACK⟩ := exa_v na11
  have S_UNSUBACK := Sta.start ev_UNSUBACK (Or.inr ⟨hw _ (List.mem_of_getElem? (i := 3) rfl), hw _ (List.mem_of_getElem? (i := 25) rfl)⟩)
  have E_UNSUBACK := Exa.start ev_UNSUBACK na11
  obtain ⟨s_PINGREQ, ev_PINGREQ⟩ := exa_v na12
  have S_PINGREQ := Sta.start ev_PINGREQ (Or.inr ⟨hw _ (List.mem_of_getElem? (i := 3) rfl), hw _ (List.mem_of_getElem? (i := 27) rfl)⟩)
  have E_PINGREQ := Exa.start ev_PINGREQ na12
  obtain ⟨s_PINGRESP, ev_PINGRESP⟩ := exa_v na13
  have S_PINGRESP := Sta.start ev_PINGRESP (Or.inr ⟨hw _ (List.mem_of_getElem? (i := 3) rfl), hw _ (List.mem_of_getElem? (i := 29) rfl)⟩)
  have E_PINGRESP := Exa.start ev_PINGRESP na13
  obtain ⟨s_DISCONNECT, ev_DISCONNECT⟩ := exa_v na14
  have S_DISCONNECT := Sta.start ev_DISCONNECT (Or.inr ⟨hw _ (List.mem_of_getElem? (i := 3) rfl), hw _ (List.mem_of_getElem? (i := 31) rfl)⟩)
  have E_DISCONNECT := Exa.start ev_DISCONNECT na14
  obtain ⟨s_AUTH, ev_AUTH⟩ := exa_v na15
  have S_AUTH := Sta.start ev_AUTH (Or.inr ⟨hw _ (List.mem_of_getElem? (i := 3) rfl), hw _ (List.mem_of_getElem? (i := 33) rfl)⟩)
  have E_AUTH := Exa.start ev_AUTH na15
  obtain ⟨s_MQTT_5, ev_MQTT_5⟩ := exa_v na18
  have S_MQTT_5 := Sta.start ev_MQTT_5 (Or.inr ⟨hw _ (List.mem_of_getElem? (i := 46) rfl), hw _ (List.mem_of_getElem? (i := 47) rfl)⟩)
  have E_MQTT_5 := Exa.start ev_MQTT_5 na18
  obtain ⟨s_MQTT_3_1_1, ev_MQTT_3_1_1⟩ := exa_v na27
  have S_MQTT_3_1_1 := Sta.start ev_MQTT_3_1_1 (Or.inr ⟨hw _ (List.mem_of_getElem? (i := 46) rfl), hw _ (List.mem_of_getElem? (i := 55) rfl)⟩)
  have E_MQTT_3_1_1 := Exa.start ev_MQTT_3_1_1 na27
  have F_CONNECT_code := Fld.start ((fld_at ev_CONNECT).symm.trans (own_eqi na16))
  have F_CONNECT_flags := Fld.start ((fld_at ev_CONNECT).symm.trans (own_eqi na17))
  have F_CONNECT_ordinal := Fld.start ((fld_at ev_CONNECT).symm.trans (own_eqi na22))
  have F_AUTH_ordinal := Fld.start ((fld_at ev_AUTH).symm.trans (own_eqi na23))
  have F_AUTH_code := Fld.start ((fld_at ev_AUTH).symm.trans (own_eqi na24))
  have F_AUTH_flags := Fld.start ((fld_at ev_AUTH).symm.trans (own_eqi na25))
  have F_MQTT_5_ordinal := Fld.start ((fld_at ev_MQTT_5).symm.trans (own_eqi na28))
  have F_MQTT_3_1_1_ordinal := Fld.start ((fld_at ev_MQTT_3_1_1).symm.trans (own_eqi na29))
  have F_PUBACK_code := Fld.start ((fld_at ev_PUBACK).symm.trans (own_eqi na30))
  have F_PUBACK_flags := Fld.start ((fld_at ev_PUBACK).symm.trans (own_eqi na31))
  have F_PUBACK_ordinal := Fld.start ((fld_at ev_PUBACK).symm.trans (own_eqi na33))
  have F_PINGREQ_code := Fld.start ((fld_at ev_PINGREQ).symm.trans (own_eqi na34))
  have F_PINGREQ_flags := Fld.start ((fld_at ev_PINGREQ).symm.trans (own_eqi na35))
  have F_PINGREQ_ordinal := Fld.start ((fld_at ev_PINGREQ).symm.trans (own_eqi na36))
  have F_CONNACK_code := Fld.start ((fld_at ev_CONNACK).symm.trans (own_eqi na38))
  have F_CONNACK_flags := Fld.start ((fld_at ev_CONNACK).symm.trans (own_eqi na39))
  have F_CONNACK_ordinal := Fld.start ((fld_at ev_CONNACK).symm.trans (own_eqi na40))
  have F_PUBREC_code := Fld.start ((fld_at ev_PUBREC).symm.trans (own_eqi na42))
  have F_PUBREC_flags := Fld.start ((fld_at ev_PUBREC).symm.trans (own_eqi na43))
  have F_PUBREC_ordinal := Fld.start ((fld_at ev_PUBREC).symm.trans (own_eqi na45))
  have F_PUBCOMP_code := Fld.start ((fld_at ev_PUBCOMP).symm.trans (own_eqi na46))
  have F_PUBCOMP_flags := Fld.start ((fld_at ev_PUBCOMP).symm.trans (own_eqi na47))
  have F_PUBCOMP_ordinal := Fld.start ((fld_at ev_PUBCOMP).symm.trans (own_eqi na48))
  have F_SUBACK_code := Fld.start ((fld_at ev_SUBACK).symm.trans (own_eqi na50))
  have F_SUBACK_flags := Fld.start ((fld_at ev_SUBACK).symm.trans (own_eqi na51))
  have F_SUBACK_ordinal := Fld.start ((fld_at ev_SUBACK).symm.trans (own_eqi na53))
  have F_PINGRESP_code := Fld.start ((fld_at ev_PINGRESP).symm.trans (own_eqi na54))
  have F_PINGRESP_flags := Fld.start ((fld_at ev_PINGRESP).symm.trans (own_eqi na55))
  have F_PINGRESP_ordinal := Fld.start ((fld_at ev_PINGRESP).symm.trans (own_eqi na57))
  have F_UNSUBSCRIBE_code := Fld.start ((fld_at ev_UNSUBSCRIBE).symm.trans (own_eqi na58))
  have F_UNSUBSCRIBE_flags := Fld.start ((fld_at ev_UNSUBSCRIBE).symm.trans (own_eqi na59))
  have F_UNSUBSCRIBE_ordinal := Fld.start ((fld_at ev_UNSUBSCRIBE).symm.trans (own_eqi na61))
  have F_SUBSCRIBE_code := Fld.start ((fld_at ev_SUBSCRIBE).symm.trans (own_eqi na62))
  have F_SUBSCRIBE_flags := Fld.start ((fld_at ev_SUBSCRIBE).symm.trans (own_eqi na63))
  have F_SUBSCRIBE_ordinal := Fld.start ((fld_at ev_SUBSCRIBE).symm.trans (own_eqi na65))
  have F_PUBLISH_code := Fld.start ((fld_at ev_PUBLISH).symm.trans (own_eqi na66))
  have F_PUBLISH_flags := Fld.start ((fld_at ev_PUBLISH).symm.trans (own_eqi na67))
  have F_PUBLISH_ordinal := Fld.start ((fld_at ev_PUBLISH).symm.trans (own_eqi na68))
  have F_UNSUBACK_code := Fld.start ((fld_at ev_UNSUBACK).symm.trans (own_eqi na70))
  have F_UNSUBACK_flags := Fld.start ((fld_at ev_UNSUBACK).symm.trans (own_eqi na71))
  have F_UNSUBACK_ordinal := Fld.start ((fld_at ev_UNSUBACK).symm.trans (own_eqi na72))
  have F_PUBREL_code := Fld.start ((fld_at ev_PUBREL).symm.trans (own_eqi na74))
  have F_PUBREL_flags := Fld.start ((fld_at ev_PUBREL).symm.trans (own_eqi na75))
  have F_PUBREL_ordinal := Fld.start ((fld_at ev_PUBREL).symm.trans (own_eqi na76))
  have F_DISCONNECT_code := Fld.start ((fld_at ev_DISCONNECT).symm.trans (own_eqi na78))
  have F_DISCONNECT_flags := Fld.start ((fld_at ev_DISCONNECT).symm.trans (own_eqi na79))
  have F_DISCONNECT_ordinal := Fld.start ((fld_at ev_DISCONNECT).symm.trans (own_eqi na80))
  obtain ⟨sb, ev_BY⟩ := arr_v na19
  obtain ⟨cb, Ab⟩ := Arr.start ev_BY na19
  have S_BY := Sta.start ev_BY (Or.inr ⟨(hw _ (List.mem_of_getElem? (i := 3) rfl)), (hw _ (List.mem_of_getElem? (i := 52) rfl))⟩)
  obtain ⟨lb1, lb2⟩ := own_len ev_BY Ab na20
  have el0 := (elem_in (null_v nb81) ev_BY (Term.int_eval 0) Ab.1).2
  have el1 := (elem_in (own_eqr na21 ev_CONNECT) ev_BY (Term.int_eval 1) Ab.1).2
  have el2 := (elem_in (own_eqr na41 ev_CONNACK) ev_BY (Term.int_eval 2) Ab.1).2
  have el3 := (elem_in (own_eqr na69 ev_PUBLISH) ev_BY (Term.int_eval 3) Ab.1).2
  have el4 := (elem_in (own_eqr na32 ev_PUBACK) ev_BY (Term.int_eval 4) Ab.1).2
  have el5 := (elem_in (own_eqr na44 ev_PUBREC) ev_BY (Term.int_eval 5) Ab.1).2
  have el6 := (elem_in (own_eqr na77 ev_PUBREL) ev_BY (Term.int_eval 6) Ab.1).2
  have el7 := (elem_in (own_eqr na49 ev_PUBCOMP) ev_BY (Term.int_eval 7) Ab.1).2
  have el8 := (elem_in (own_eqr na64 ev_SUBSCRIBE) ev_BY (Term.int_eval 8) Ab.1).2
  have el9 := (elem_in (own_eqr na52 ev_SUBACK) ev_BY (Term.int_eval 9) Ab.1).2
  have el10 := (elem_in (own_eqr na60 ev_UNSUBSCRIBE) ev_BY (Term.int_eval 10) Ab.1).2
  have el11 := (elem_in (own_eqr na73 ev_UNSUBACK) ev_BY (Term.int_eval 11) Ab.1).2
  have el12 := (elem_in (own_eqr na37 ev_PINGREQ) ev_BY (Term.int_eval 12) Ab.1).2
  have el13 := (elem_in (own_eqr na56 ev_PINGRESP) ev_BY (Term.int_eval 13) Ab.1).2
  have el14 := (elem_in (own_eqr na81 ev_DISCONNECT) ev_BY (Term.int_eval 14) Ab.1).2
  have el15 := (elem_in (own_eqr na26 ev_AUTH) ev_BY (Term.int_eval 15) Ab.1).2
  have Vb : Arv s s.heap sb cb.cls (.object "com/example/kurir/kurir/codec/PacketType") (16 : Int32) [.null, (.ref s_CONNECT), (.ref s_CONNACK), (.ref s_PUBLISH), (.ref s_PUBACK), (.ref s_PUBREC), (.ref s_PUBREL), (.ref s_PUBCOMP), (.ref s_SUBSCRIBE), (.ref s_SUBACK), (.ref s_UNSUBSCRIBE), (.ref s_UNSUBACK), (.ref s_PINGREQ), (.ref s_PINGRESP), (.ref s_DISCONNECT), (.ref s_AUTH)] .null := Arv.start hfit Ab lb1 lb2 (by decide) rfl ⟨el0, el1, el2, el3, el4, el5, el6, el7, el8, el9, el10, el11, el12, el13, el14, el15, trivial⟩
  have n_CONNECT := Fld.ne F_CONNECT_ordinal F_AUTH_ordinal (by decide)
  have n_CONNACK := Fld.ne F_CONNACK_ordinal F_AUTH_ordinal (by decide)
  have n_PUBLISH := Fld.ne F_PUBLISH_ordinal F_AUTH_ordinal (by decide)
  have n_PUBACK := Fld.ne F_PUBACK_ordinal F_AUTH_ordinal (by decide)
  have n_PUBREC := Fld.ne F_PUBREC_ordinal F_AUTH_ordinal (by decide)
  have n_PUBREL := Fld.ne F_PUBREL_ordinal F_AUTH_ordinal (by decide)
  have n_PUBCOMP := Fld.ne F_PUBCOMP_ordinal F_AUTH_ordinal (by decide)
  have n_SUBSCRIBE := Fld.ne F_SUBSCRIBE_ordinal F_AUTH_ordinal (by decide)
  have n_SUBACK := Fld.ne F_SUBACK_ordinal F_AUTH_ordinal (by decide)
  have n_UNSUBSCRIBE := Fld.ne F_UNSUBSCRIBE_ordinal F_AUTH_ordinal (by decide)
  have n_UNSUBACK := Fld.ne F_UNSUBACK_ordinal F_AUTH_ordinal (by decide)
  have n_PINGREQ := Fld.ne F_PINGREQ_ordinal F_AUTH_ordinal (by decide)
  have n_PINGRESP := Fld.ne F_PINGRESP_ordinal F_AUTH_ordinal (by decide)
  have n_DISCONNECT := Fld.ne F_DISCONNECT_ordinal F_AUTH_ordinal (by decide)
  have n_V := Fld.ne F_MQTT_5_ordinal F_MQTT_3_1_1_ordinal (by decide)
  obtain ⟨n, o, h1, h2, h3, _, L, rfl, ⟨rfl, N⟩, hq⟩ := rm0 l s _ hw tables_1 i0 i1 sb cb.cls s_CONNECT s_CONNACK s_PUBLISH s_PUBACK s_PUBREC s_PUBREL s_PUBCOMP s_SUBSCRIBE s_SUBACK s_UNSUBSCRIBE s_UNSUBACK s_PINGREQ s_PINGRESP s_DISCONNECT s_AUTH s_MQTT_3_1_1 s_MQTT_5 s.heap s.heap.size (Nat.le_refl _) S_BY Vb S_AUTH S_MQTT_3_1_1 S_MQTT_5 S_CONNECT E_CONNECT F_CONNECT_code F_CONNECT_flags S_CONNACK E_CONNACK F_CONNACK_code F_CONNACK_flags S_PUBLISH E_PUBLISH F_PUBLISH_code F_PUBLISH_flags S_PUBACK E_PUBACK F_PUBACK_code F_PUBACK_flags S_PUBREC E_PUBREC F_PUBREC_code F_PUBREC_flags S_PUBREL E_PUBREL F_PUBREL_code F_PUBREL_flags S_PUBCOMP E_PUBCOMP F_PUBCOMP_code F_PUBCOMP_flags S_SUBSCRIBE E_SUBSCRIBE F_SUBSCRIBE_code F_SUBSCRIBE_flags S_SUBACK E_SUBACK F_SUBACK_code F_SUBACK_flags S_UNSUBSCRIBE E_UNSUBSCRIBE F_UNSUBSCRIBE_code F_UNSUBSCRIBE_flags S_UNSUBACK E_UNSUBACK F_UNSUBACK_code F_UNSUBACK_flags S_PINGREQ E_PINGREQ F_PINGREQ_code F_PINGREQ_flags S_PINGRESP E_PINGRESP F_PINGRESP_code F_PINGRESP_flags S_DISCONNECT E_DISCONNECT F_DISCONNECT_code F_DISCONNECT_flags E_AUTH F_AUTH_code F_AUTH_flags n_CONNECT n_CONNACK n_PUBLISH n_PUBACK n_PUBREC n_PUBREL n_PUBCOMP n_SUBSCRIBE n_SUBACK n_UNSUBSCRIBE n_UNSUBACK n_PINGREQ n_PINGRESP n_DISCONNECT n_V p e ha hc hk s m _ below hf ((Spec.applies_iff_loose hf).mp happ).1 ⟨rfl, State.Warmed39.refl s, rfl⟩ trivial
  refine ⟨n, _, h1, h2, h3, hpost _ _ _ _ _ _ ⟨Cond.after_iff.mpr rfl, Cond.after_iff.mpr (eq_i res_at (Term.int_eval (1)) rfl), trivial⟩ ⟨hq.1, hq.2.1, (hq.2.2.sift fun y hy => Or.inr (N y hy)).mono (by decide) (by decide)⟩⟩
theorem main_1_1 : Claimed_1_1 := comes_1 fun _ _ _ _ _ _ h hF => ⟨h.1, hF⟩
theorem main_1_2 : Claimed_1_2 := comes_1 fun _ _ _ _ _ _ h hF => ⟨h.2.1, hF⟩
end Jvm.Pilot.@@N@@
namespace Jvm.Pilot.@@N@@
open Jvm Jvm.ClassFile Sem Op Lib Jvm.Free Jvm.Stand Jvm.Pilot.@@N@@.Jvm.D
/-! MADE BY PROGRAM (witnessworld.py) out of the Statement's table words and the real class files: 14 classes; the members and pool entries that the words name. The judged class is class 1, her method 1. -/
namespace start1
open Jvm.ClassFile
def u (s : String) : CpInfo := .utf8 (stringToUtf16 s)
/-- a pool by its gaps: so many unusable entries, then the entry; so many at the end -/
def gap : Nat → List CpInfo → List CpInfo
  | 0, r => r
  | n + 1, r => .unusable :: gap n r
def poolList (es : List (Nat × CpInfo)) (last : Nat) : List CpInfo := es.foldr (fun e r => gap e.1 (e.2 :: r)) (gap last [])
def pool (es : List (Nat × CpInfo)) (last : Nat) : Array CpInfo := ⟨poolList es last⟩
def fileOf (pool : Array CpInfo) (this : Nat) (attrs : Array Attribute := #[]) (ms : Array MethodInfo := #[]) (fl : Nat := 33) (sup : Nat := 0) (ifs : Array Nat := #[]) (fds : Array FieldInfo := #[]) : ClassFile where
  minorVersion := 0
  majorVersion := 65
  constantPool := pool
  accessFlags := fl
  thisClass := this
  superClass := sup
  interfaces := ifs
  fields := fds
  methods := ms
  attributes := attrs
def plain (name : String) (sup : Option ClassId) : Class where
  name := name
  kind := .ordinary
  loader := none
  accessFlags := 33
  super := sup
  interfaces := #[]
  cf := none
  fields := #[]
  methods := #[]
  instanceTypes := #[]
  staticTypes := #[]
  resolved := #[]
  callSites := []
  init := .initialized
  statics := none
  mirror := none

def pool0 : Array CpInfo := pool [(5, u "<init>"), (0, u "()V"), (1, .class_ 10), (1, u "java/lang/Object")] 113

def k0m0 : Method := { name := "<init>", desc := "()V", sig := { parameters := [], returnType := none }, accessFlags := 1, code := none }
/-- java/lang/Object -/
def k0 : Class := { plain "java/lang/Object" none with
  accessFlags := 33
  interfaces := #[]
  cf := some (fileOf pool0 8 #[] #[{ accessFlags := 1, nameIndex := 5, descriptorIndex := 6, attributes := #[] }] 33 0 #[] #[])
  fields := #[]
  methods := #[k0m0]
  instanceTypes := #[]
  staticTypes := #[]
  resolved := Array.replicate 124 none
  statics := none }

def pool1 : Array CpInfo := pool [(2, .class_ 4), (1, u "java/lang/Object"), (0, u "<init>"), (0, u "()V"), (0, .class_ 8), (0, u "com/example/kurir/kurir/codec/PacketType"), (0, .fieldref 7 10), (0, .nameAndType 11 12), (0, u "CONNECT"), (0, u "Lcom/example/kurir/kurir/codec/PacketType;"), (0, .fieldref 7 14), (0, .nameAndType 15 12), (0, u "CONNACK"), (0, .fieldref 7 17), (0, .nameAndType 18 12), (0, u "PUBLISH"), (0, .fieldref 7 20), (0, .nameAndType 21 12), (0, u "PUBACK"), (0, .fieldref 7 23), (0, .nameAndType 24 12), (0, u "PUBREC"), (0, .fieldref 7 26), (0, .nameAndType 27 12), (0, u "PUBREL"), (0, .fieldref 7 29), (0, .nameAndType 30 12), (0, u "PUBCOMP"), (0, .fieldref 7 32), (0, .nameAndType 33 12), (0, u "SUBSCRIBE"), (0, .fieldref 7 35), (0, .nameAndType 36 12), (0, u "SUBACK"), (0, .fieldref 7 38), (0, .nameAndType 39 12), (0, u "UNSUBSCRIBE"), (0, .fieldref 7 41), (0, .nameAndType 42 12), (0, u "UNSUBACK"), (0, .fieldref 7 44), (0, .nameAndType 45 12), (0, u "PINGREQ"), (0, .fieldref 7 47), (0, .nameAndType 48 12), (0, u "PINGRESP"), (0, .fieldref 7 50), (0, .nameAndType 51 12), (0, u "DISCONNECT"), (0, .fieldref 7 53), (0, .nameAndType 54 12), (0, u "AUTH"), (0, .integer 2147483647), (0, .methodref 7 57), (0, .nameAndType 58 59), (0, u "firstByte"), (0, u "()I"), (0, .fieldref 61 62), (0, .class_ 63), (0, .nameAndType 64 65), (0, u "com/example/kurir/kurir/codec/ProtocolVersion"), (0, u "MQTT_5"), (0, u "Lcom/example/kurir/kurir/codec/ProtocolVersion;"), (0, .fieldref 61 67), (0, .nameAndType 68 65), (0, u "MQTT_3_1_1"), (0, .methodref 7 70), (0, .nameAndType 71 72), (0, u "of"), (0, u "(ILcom/example/kurir/kurir/codec/ProtocolVersion;)Lcom/example/kurir/kurir/codec/PacketType;"), (0, .class_ 74), (0, u "com/example/kurir/kurir/codec/PacketTypeFirstBytePinLaw"), (2, u "law"), (0, u "(II)Z")] 10

def k1m0 : Method := { name := "<init>", desc := "()V", sig := { parameters := [], returnType := none }, accessFlags := 1, code := none }
def k1c1 : Code := { maxStack := 4, maxLocals := 8, code := code, exceptionTable := #[], attributes := #[] }
def k1m1 : Method := { name := "law", desc := "(II)Z", sig := { parameters := [.int, .int], returnType := some .boolean }, accessFlags := 9, code := some k1c1 }
/-- com/example/kurir/kurir/codec/PacketTypeFirstBytePinLaw -/
def k1 : Class := { plain "com/example/kurir/kurir/codec/PacketTypeFirstBytePinLaw" (some 0) with
  accessFlags := 49
  interfaces := #[]
  cf := some (fileOf pool1 73 #[] #[{ accessFlags := 1, nameIndex := 5, descriptorIndex := 6, attributes := #[] }, { accessFlags := 9, nameIndex := 77, descriptorIndex := 78, attributes := #[] }] 49 2 #[] #[])
  fields := #[]
  methods := #[k1m0, k1m1]
  instanceTypes := #[]
  staticTypes := #[]
  resolved := Array.replicate 89 none
  statics := none }

def pool2 : Array CpInfo := pool [(1, .class_ 2), (0, u "java/lang/constant/Constable"), (0, .class_ 4), (0, u "java/lang/Object")] 6

/-- java/lang/constant/Constable -/
def k2 : Class := { plain "java/lang/constant/Constable" (some 0) with
  accessFlags := 1537
  interfaces := #[]
  cf := some (fileOf pool2 1 #[] #[] 1537 3 #[] #[])
  fields := #[]
  methods := #[]
  instanceTypes := #[]
  staticTypes := #[]
  resolved := Array.replicate 11 none
  statics := none }

def pool3 : Array CpInfo := pool [(1, .class_ 2), (0, u "java/lang/Comparable"), (0, .class_ 4), (0, u "java/lang/Object")] 7

/-- java/lang/Comparable -/
def k3 : Class := { plain "java/lang/Comparable" (some 0) with
  accessFlags := 1537
  interfaces := #[]
  cf := some (fileOf pool3 1 #[] #[] 1537 3 #[] #[])
  fields := #[]
  methods := #[]
  instanceTypes := #[]
  staticTypes := #[]
  resolved := Array.replicate 12 none
  statics := none }

def pool4 : Array CpInfo := pool [(1, .class_ 2), (0, u "java/io/Serializable"), (0, .class_ 4), (0, u "java/lang/Object")] 2

/-- java/io/Serializable -/
def k4 : Class := { plain "java/io/Serializable" (some 0) with
  accessFlags := 1537
  interfaces := #[]
  cf := some (fileOf pool4 1 #[] #[] 1537 3 #[] #[])
  fields := #[]
  methods := #[]
  instanceTypes := #[]
  staticTypes := #[]
  resolved := Array.replicate 7 none
  statics := none }

def pool5 : Array CpInfo := pool [(2, .class_ 4), (1, u "java/lang/Enum"), (0, u "name"), (0, u "Ljava/lang/String;"), (2, u "ordinal"), (0, u "I"), (1, .class_ 14), (1, u "java/lang/Object"), (4, u "hash"), (86, .class_ 108), (1, u "java/lang/Enum$EnumDesc"), (2, .class_ 112), (0, u "java/lang/constant/Constable"), (0, .class_ 114), (0, u "java/lang/Comparable"), (0, .class_ 116), (0, u "java/io/Serializable")] 87

/-- java/lang/Enum -/
def k5 : Class := { plain "java/lang/Enum" (some 0) with
  accessFlags := 1057
  interfaces := #[2, 3, 4]
  cf := some (fileOf pool5 2 #[.nestMembers #[106]] #[] 1057 12 #[111, 113, 115] #[{ accessFlags := 18, nameIndex := 5, descriptorIndex := 6, attributes := #[] }, { accessFlags := 18, nameIndex := 9, descriptorIndex := 10, attributes := #[] }, { accessFlags := 2, nameIndex := 19, descriptorIndex := 10, attributes := #[] }])
  fields := #[{ name := "name", type := (.object "java/lang/String"), accessFlags := 18, slot := 0, constantValue := 0 }, { name := "ordinal", type := .int, accessFlags := 18, slot := 1, constantValue := 0 }, { name := "hash", type := .int, accessFlags := 2, slot := 2, constantValue := 0 }]
  methods := #[]
  instanceTypes := #[(.object "java/lang/String"), .int, .int]
  staticTypes := #[]
  resolved := Array.replicate 204 none
  statics := none }

def pool6 : Array CpInfo := pool [(1, .class_ 2), (0, u "com/example/kurir/kurir/codec/PacketType"), (2, u "CONNECT"), (0, u "Lcom/example/kurir/kurir/codec/PacketType;"), (2, u "CONNACK"), (2, u "PUBLISH"), (2, u "PUBACK"), (2, u "PUBREC"), (2, u "PUBREL"), (2, u "PUBCOMP"), (2, u "SUBSCRIBE"), (2, u "SUBACK"), (2, u "UNSUBSCRIBE"), (2, u "UNSUBACK"), (2, u "PINGREQ"), (2, u "PINGRESP"), (2, u "DISCONNECT"), (0, .fieldref 1 47), (0, .nameAndType 48 6), (0, u "AUTH"), (2, u "$VALUES"), (0, u "[Lcom/example/kurir/kurir/codec/PacketType;"), (6, .class_ 61), (1, u "java/lang/Enum"), (6, .fieldref 1 69), (0, .nameAndType 70 71), (0, u "code"), (0, u "I"), (0, .fieldref 1 73), (0, .nameAndType 74 71), (0, u "flags"), (0, .fieldref 1 76), (0, .nameAndType 77 52), (0, u "BY_CODE"), (0, .fieldref 79 80), (0, .class_ 81), (0, .nameAndType 82 83), (0, u "com/example/kurir/kurir/codec/ProtocolVersion"), (0, u "MQTT_3_1_1"), (0, u "Lcom/example/kurir/kurir/codec/ProtocolVersion;"), (12, u "()I"), (42, u "OWN_FLAGS"), (2, u "PUBLISH_RETAIN"), (1, u "PUBLISH_QOS_SHIFT"), (0, u "PUBLISH_DUP"), (1, u "PROTOCOL_NAME"), (0, u "Ljava/lang/String;"), (2, u "CONNECT_RESERVED"), (0, u "CONNECT_CLEAN_SESSION"), (1, u "CONNECT_WILL"), (1, u "CONNECT_WILL_QOS_SHIFT"), (1, u "CONNECT_WILL_RETAIN"), (1, u "CONNECT_PASSWORD"), (1, u "CONNECT_USER_NAME"), (1, u "CONNACK_SESSION_PRESENT"), (6, u "of"), (0, u "(ILcom/example/kurir/kurir/codec/ProtocolVersion;)Lcom/example/kurir/kurir/codec/PacketType;"), (4, u "firstByte")] 20

def k6c0 : Code := { maxStack := 4, maxLocals := 3, code := prog_56_method_4_code, exceptionTable := #[], attributes := #[] }
def k6m0 : Method := { name := "of", desc := "(ILcom/example/kurir/kurir/codec/ProtocolVersion;)Lcom/example/kurir/kurir/codec/PacketType;", sig := { parameters := [.int, (.object "com/example/kurir/kurir/codec/ProtocolVersion")], returnType := some (.object "com/example/kurir/kurir/codec/PacketType") }, accessFlags := 8, code := some k6c0 }
def k6c1 : Code := { maxStack := 3, maxLocals := 1, code := prog_56_method_7_code, exceptionTable := #[], attributes := #[] }
def k6m1 : Method := { name := "firstByte", desc := "()I", sig := { parameters := [], returnType := some .int }, accessFlags := 0, code := some k6c1 }
/-- com/example/kurir/kurir/codec/PacketType -/
def k6 : Class := { plain "com/example/kurir/kurir/codec/PacketType" (some 5) with
  accessFlags := 16432
  interfaces := #[]
  cf := some (fileOf pool6 1 #[] #[{ accessFlags := 8, nameIndex := 171, descriptorIndex := 172, attributes := #[] }, { accessFlags := 0, nameIndex := 177, descriptorIndex := 96, attributes := #[] }] 16432 59 #[] #[{ accessFlags := 16409, nameIndex := 5, descriptorIndex := 6, attributes := #[] }, { accessFlags := 16409, nameIndex := 9, descriptorIndex := 6, attributes := #[] }, { accessFlags := 16409, nameIndex := 12, descriptorIndex := 6, attributes := #[] }, { accessFlags := 16409, nameIndex := 15, descriptorIndex := 6, attributes := #[] }, { accessFlags := 16409, nameIndex := 18, descriptorIndex := 6, attributes := #[] }, { accessFlags := 16409, nameIndex := 21, descriptorIndex := 6, attributes := #[] }, { accessFlags := 16409, nameIndex := 24, descriptorIndex := 6, attributes := #[] }, { accessFlags := 16409, nameIndex := 27, descriptorIndex := 6, attributes := #[] }, { accessFlags := 16409, nameIndex := 30, descriptorIndex := 6, attributes := #[] }, { accessFlags := 16409, nameIndex := 33, descriptorIndex := 6, attributes := #[] }, { accessFlags := 16409, nameIndex := 36, descriptorIndex := 6, attributes := #[] }, { accessFlags := 16409, nameIndex := 39, descriptorIndex := 6, attributes := #[] }, { accessFlags := 16409, nameIndex := 42, descriptorIndex := 6, attributes := #[] }, { accessFlags := 16409, nameIndex := 45, descriptorIndex := 6, attributes := #[] }, { accessFlags := 16409, nameIndex := 48, descriptorIndex := 6, attributes := #[] }, { accessFlags := 24, nameIndex := 139, descriptorIndex := 71, attributes := #[] }, { accessFlags := 24, nameIndex := 142, descriptorIndex := 71, attributes := #[] }, { accessFlags := 24, nameIndex := 144, descriptorIndex := 71, attributes := #[] }, { accessFlags := 24, nameIndex := 145, descriptorIndex := 71, attributes := #[] }, { accessFlags := 24, nameIndex := 147, descriptorIndex := 148, attributes := #[] }, { accessFlags := 24, nameIndex := 151, descriptorIndex := 71, attributes := #[] }, { accessFlags := 24, nameIndex := 152, descriptorIndex := 71, attributes := #[] }, { accessFlags := 24, nameIndex := 154, descriptorIndex := 71, attributes := #[] }, { accessFlags := 24, nameIndex := 156, descriptorIndex := 71, attributes := #[] }, { accessFlags := 24, nameIndex := 158, descriptorIndex := 71, attributes := #[] }, { accessFlags := 24, nameIndex := 160, descriptorIndex := 71, attributes := #[] }, { accessFlags := 24, nameIndex := 162, descriptorIndex := 71, attributes := #[] }, { accessFlags := 24, nameIndex := 164, descriptorIndex := 71, attributes := #[] }, { accessFlags := 26, nameIndex := 77, descriptorIndex := 52, attributes := #[] }, { accessFlags := 18, nameIndex := 70, descriptorIndex := 71, attributes := #[] }, { accessFlags := 18, nameIndex := 74, descriptorIndex := 71, attributes := #[] }, { accessFlags := 4122, nameIndex := 51, descriptorIndex := 52, attributes := #[] }])
  fields := #[{ name := "CONNECT", type := (.object "com/example/kurir/kurir/codec/PacketType"), accessFlags := 16409, slot := 0, constantValue := 0 }, { name := "CONNACK", type := (.object "com/example/kurir/kurir/codec/PacketType"), accessFlags := 16409, slot := 1, constantValue := 0 }, { name := "PUBLISH", type := (.object "com/example/kurir/kurir/codec/PacketType"), accessFlags := 16409, slot := 2, constantValue := 0 }, { name := "PUBACK", type := (.object "com/example/kurir/kurir/codec/PacketType"), accessFlags := 16409, slot := 3, constantValue := 0 }, { name := "PUBREC", type := (.object "com/example/kurir/kurir/codec/PacketType"), accessFlags := 16409, slot := 4, constantValue := 0 }, { name := "PUBREL", type := (.object "com/example/kurir/kurir/codec/PacketType"), accessFlags := 16409, slot := 5, constantValue := 0 }, { name := "PUBCOMP", type := (.object "com/example/kurir/kurir/codec/PacketType"), accessFlags := 16409, slot := 6, constantValue := 0 }, { name := "SUBSCRIBE", type := (.object "com/example/kurir/kurir/codec/PacketType"), accessFlags := 16409, slot := 7, constantValue := 0 }, { name := "SUBACK", type := (.object "com/example/kurir/kurir/codec/PacketType"), accessFlags := 16409, slot := 8, constantValue := 0 }, { name := "UNSUBSCRIBE", type := (.object "com/example/kurir/kurir/codec/PacketType"), accessFlags := 16409, slot := 9, constantValue := 0 }, { name := "UNSUBACK", type := (.object "com/example/kurir/kurir/codec/PacketType"), accessFlags := 16409, slot := 10, constantValue := 0 }, { name := "PINGREQ", type := (.object "com/example/kurir/kurir/codec/PacketType"), accessFlags := 16409, slot := 11, constantValue := 0 }, { name := "PINGRESP", type := (.object "com/example/kurir/kurir/codec/PacketType"), accessFlags := 16409, slot := 12, constantValue := 0 }, { name := "DISCONNECT", type := (.object "com/example/kurir/kurir/codec/PacketType"), accessFlags := 16409, slot := 13, constantValue := 0 }, { name := "AUTH", type := (.object "com/example/kurir/kurir/codec/PacketType"), accessFlags := 16409, slot := 14, constantValue := 0 }, { name := "OWN_FLAGS", type := .int, accessFlags := 24, slot := 15, constantValue := 0 }, { name := "PUBLISH_RETAIN", type := .int, accessFlags := 24, slot := 16, constantValue := 0 }, { name := "PUBLISH_QOS_SHIFT", type := .int, accessFlags := 24, slot := 17, constantValue := 0 }, { name := "PUBLISH_DUP", type := .int, accessFlags := 24, slot := 18, constantValue := 0 }, { name := "PROTOCOL_NAME", type := (.object "java/lang/String"), accessFlags := 24, slot := 19, constantValue := 0 }, { name := "CONNECT_RESERVED", type := .int, accessFlags := 24, slot := 20, constantValue := 0 }, { name := "CONNECT_CLEAN_SESSION", type := .int, accessFlags := 24, slot := 21, constantValue := 0 }, { name := "CONNECT_WILL", type := .int, accessFlags := 24, slot := 22, constantValue := 0 }, { name := "CONNECT_WILL_QOS_SHIFT", type := .int, accessFlags := 24, slot := 23, constantValue := 0 }, { name := "CONNECT_WILL_RETAIN", type := .int, accessFlags := 24, slot := 24, constantValue := 0 }, { name := "CONNECT_PASSWORD", type := .int, accessFlags := 24, slot := 25, constantValue := 0 }, { name := "CONNECT_USER_NAME", type := .int, accessFlags := 24, slot := 26, constantValue := 0 }, { name := "CONNACK_SESSION_PRESENT", type := .int, accessFlags := 24, slot := 27, constantValue := 0 }, { name := "BY_CODE", type := (.array (.object "com/example/kurir/kurir/codec/PacketType")), accessFlags := 26, slot := 28, constantValue := 0 }, { name := "code", type := .int, accessFlags := 18, slot := 3, constantValue := 0 }, { name := "flags", type := .int, accessFlags := 18, slot := 4, constantValue := 0 }, { name := "$VALUES", type := (.array (.object "com/example/kurir/kurir/codec/PacketType")), accessFlags := 4122, slot := 29, constantValue := 0 }]
  methods := #[k6m0, k6m1]
  instanceTypes := #[(.object "java/lang/String"), .int, .int, .int, .int]
  staticTypes := #[(.object "com/example/kurir/kurir/codec/PacketType"), (.object "com/example/kurir/kurir/codec/PacketType"), (.object "com/example/kurir/kurir/codec/PacketType"), (.object "com/example/kurir/kurir/codec/PacketType"), (.object "com/example/kurir/kurir/codec/PacketType"), (.object "com/example/kurir/kurir/codec/PacketType"), (.object "com/example/kurir/kurir/codec/PacketType"), (.object "com/example/kurir/kurir/codec/PacketType"), (.object "com/example/kurir/kurir/codec/PacketType"), (.object "com/example/kurir/kurir/codec/PacketType"), (.object "com/example/kurir/kurir/codec/PacketType"), (.object "com/example/kurir/kurir/codec/PacketType"), (.object "com/example/kurir/kurir/codec/PacketType"), (.object "com/example/kurir/kurir/codec/PacketType"), (.object "com/example/kurir/kurir/codec/PacketType"), .int, .int, .int, .int, (.object "java/lang/String"), .int, .int, .int, .int, .int, .int, .int, .int, (.array (.object "com/example/kurir/kurir/codec/PacketType")), (.array (.object "com/example/kurir/kurir/codec/PacketType"))]
  resolved := Array.replicate 198 none
  statics := some 0 }

def pool7 : Array CpInfo := pool [(1, .class_ 2), (0, u "com/example/kurir/kurir/codec/ProtocolVersion"), (2, u "MQTT_3_1_1"), (0, u "Lcom/example/kurir/kurir/codec/ProtocolVersion;"), (2, u "MQTT_5"), (2, u "$VALUES"), (0, u "[Lcom/example/kurir/kurir/codec/ProtocolVersion;"), (6, .class_ 22), (1, u "java/lang/Enum"), (8, u "level"), (0, u "I")] 27

/-- com/example/kurir/kurir/codec/ProtocolVersion -/
def k7 : Class := { plain "com/example/kurir/kurir/codec/ProtocolVersion" (some 5) with
  accessFlags := 16433
  interfaces := #[]
  cf := some (fileOf pool7 1 #[] #[] 16433 20 #[] #[{ accessFlags := 16409, nameIndex := 5, descriptorIndex := 6, attributes := #[] }, { accessFlags := 16409, nameIndex := 9, descriptorIndex := 6, attributes := #[] }, { accessFlags := 18, nameIndex := 31, descriptorIndex := 32, attributes := #[] }, { accessFlags := 4122, nameIndex := 12, descriptorIndex := 13, attributes := #[] }])
  fields := #[{ name := "MQTT_3_1_1", type := (.object "com/example/kurir/kurir/codec/ProtocolVersion"), accessFlags := 16409, slot := 0, constantValue := 0 }, { name := "MQTT_5", type := (.object "com/example/kurir/kurir/codec/ProtocolVersion"), accessFlags := 16409, slot := 1, constantValue := 0 }, { name := "level", type := .int, accessFlags := 18, slot := 3, constantValue := 0 }, { name := "$VALUES", type := (.array (.object "com/example/kurir/kurir/codec/ProtocolVersion")), accessFlags := 4122, slot := 2, constantValue := 0 }]
  methods := #[]
  instanceTypes := #[(.object "java/lang/String"), .int, .int, .int]
  staticTypes := #[(.object "com/example/kurir/kurir/codec/ProtocolVersion"), (.object "com/example/kurir/kurir/codec/ProtocolVersion"), (.array (.object "com/example/kurir/kurir/codec/ProtocolVersion"))]
  resolved := Array.replicate 60 none
  statics := some 1 }

def pool8 : Array CpInfo := pool [(1, u "java/lang/Cloneable"), (0, .class_ 1), (0, u "java/lang/Object"), (0, .class_ 3)] 3

/-- java/lang/Cloneable -/
def k8 : Class := { plain "java/lang/Cloneable" (some 0) with
  accessFlags := 1537
  interfaces := #[]
  cf := some (fileOf pool8 2 #[] #[] 1537 4 #[] #[])
  fields := #[]
  methods := #[]
  instanceTypes := #[]
  staticTypes := #[]
  resolved := Array.replicate 8 none
  statics := none }

/-- the primitive byte -/
def k9 : Class := { plain "byte" none with kind := .primitive 'B', accessFlags := 0x411 }
/-- [B -/
def k10 : Class := { plain "[B" (some 0) with kind := .array 9 .byte, interfaces := #[8, 4], accessFlags := 1041 }

/-- the primitive int -/
def k11 : Class := { plain "int" none with kind := .primitive 'I', accessFlags := 0x411 }
/-- [I -/
def k12 : Class := { plain "[I" (some 0) with kind := .array 11 .int, interfaces := #[8, 4], accessFlags := 1041 }

/-- [Lcom/example/kurir/kurir/codec/PacketType; -/
def k13 : Class := { plain "[Lcom/example/kurir/kurir/codec/PacketType;" (some 0) with kind := .array 6 (.object "com/example/kurir/kurir/codec/PacketType"), interfaces := #[8, 4], accessFlags := 1041 }

def heap : Heap := #[{ cls := 6, slots := #[.ref 3, .ref 4, .ref 5, .ref 6, .ref 7, .ref 8, .ref 9, .ref 10, .ref 11, .ref 12, .ref 13, .ref 14, .ref 15, .ref 16, .ref 17, .int 0, .int 0, .int 0, .int 0, .null, .int 0, .int 0, .int 0, .int 0, .int 0, .int 0, .int 0, .int 0, .ref 2, .null], vm := .statics 6 },
  { cls := 7, slots := #[.ref 19, .ref 18, .null], vm := .statics 7 },
  { cls := 13, slots := #[.null, .ref 3, .ref 4, .ref 5, .ref 6, .ref 7, .ref 8, .ref 9, .ref 10, .ref 11, .ref 12, .ref 13, .ref 14, .ref 15, .ref 16, .ref 17], vm := .none },
  { cls := 6, slots := #[.null, .int 0, .int 0, .int 1, .int (0)], vm := .none },
  { cls := 6, slots := #[.null, .int 1, .int 0, .int 2, .int (0)], vm := .none },
  { cls := 6, slots := #[.null, .int 2, .int 0, .int 3, .int (-1)], vm := .none },
  { cls := 6, slots := #[.null, .int 3, .int 0, .int 4, .int (0)], vm := .none },
  { cls := 6, slots := #[.null, .int 4, .int 0, .int 5, .int (0)], vm := .none },
  { cls := 6, slots := #[.null, .int 5, .int 0, .int 6, .int (2)], vm := .none },
  { cls := 6, slots := #[.null, .int 6, .int 0, .int 7, .int (0)], vm := .none },
  { cls := 6, slots := #[.null, .int 7, .int 0, .int 8, .int (2)], vm := .none },
  { cls := 6, slots := #[.null, .int 8, .int 0, .int 9, .int (0)], vm := .none },
  { cls := 6, slots := #[.null, .int 9, .int 0, .int 10, .int (2)], vm := .none },
  { cls := 6, slots := #[.null, .int 10, .int 0, .int 11, .int (0)], vm := .none },
  { cls := 6, slots := #[.null, .int 11, .int 0, .int 12, .int (0)], vm := .none },
  { cls := 6, slots := #[.null, .int 12, .int 0, .int 13, .int (0)], vm := .none },
  { cls := 6, slots := #[.null, .int 13, .int 0, .int 14, .int (0)], vm := .none },
  { cls := 6, slots := #[.null, .int 14, .int 0, .int 15, .int (0)], vm := .none },
  { cls := 7, slots := #[.null, .int 1, .int 0, .int 4], vm := .none },
  { cls := 7, slots := #[.null, .int 0, .int 0, .int 4], vm := .none }]
def classes : Array Class := #[k0, k1, k2, k3, k4, k5, k6, k7, k8, k9, k10, k11, k12, k13]
def interned : List (Array UInt16 × Addr) := []
def slotsUsed : Nat := 132
def theMethod : MethodId := ⟨1, 1⟩
def args0 : Array Value := #[.int 5, .int 7]
def aboutOver (below : List Frame) : State where
  vm := { classes := classes, interned := interned.toArray }
  heap := heap
  slotsUsed := slotsUsed
  threads := #[{ frames := .invoking theMethod args0 :: below }]
def below0 : List Frame := [.native { method := ⟨0, 0⟩, args := #[] }]
def about1 : State := aboutOver below0
def p0 : Program := .bare "" "" ""
def e0 : Env := launch0.env 0 0 0
theorem w_frames : about1.frames = Frame.invoking theMethod args0 :: below0 := rfl
set_option maxRecDepth 65536 in
theorem w_args : argsFit about1.vm theMethod args0 = true := by decide +kernel
set_option maxRecDepth 65536 in
theorem w_heap : heapFits about1 = true := by decide +kernel
set_option maxRecDepth 65536 in
theorem w_runnable : about1.curStatus? = some .runnable := by decide +kernel
set_option maxRecDepth 65536 in
theorem w_alone : about1.alone = true := by decide +kernel
set_option maxRecDepth 65536 in
theorem w_named : about1.methodNamed? x = some theMethod := by decide +kernel
set_option maxRecDepth 65536 in
theorem w_hears : about1.hears theMethod below0 = true := by decide +kernel
set_option maxRecDepth 65536 in
theorem w_ripe : about1.ripe theMethod args0 below0 = true := by decide +kernel
theorem w_running : about1.status = .running := rfl
set_option maxRecDepth 65536 in
theorem w_room : about1.hasRoom e0.platform room_1 = true :=
  launch0.hasRoom_least _ room_1 (by decide +kernel) (by decide +kernel) (by decide +kernel) (by decide +kernel) (by decide +kernel) (by decide +kernel)
theorem allAtoms_all (ts : List Jvm.Cond) (a : Array Jvm.Value) (st : Jvm.State) : (allAtoms ts).before a st = ts.all (fun c => c.before a st) := by
  induction ts with
  | nil => rfl
  | cons c t ih =>
    show (Jvm.Cond.and c (allAtoms t)).before a st = _
    rw [Jvm.Cond.before_and, ih, List.all_cons]
def words1 : List Jvm.Cond := Jvm.Cond.code x code maxLocals ret :: tables_1
/-- a 'code' word, met by the world's own term for the bytes: nothing is compared byte by byte -/
theorem code_word {y : MethodName} {bytes : ByteArray} {mx : Nat} {rt : Option FieldType} {a : Array Value} {s : State} {m : MethodId} {meth : Method} {c : Code} (h1 : s.methodNamed? y = some m) (h2 : s.vm.method? m = some meth) (h3 : meth.code = some c) (h4 : c.code = bytes)
    (h5 : (c.maxLocals == mx && c.exceptionTable.isEmpty && decide (c.maxStack ≤ mostOperands) && decide (meth.sig.returnType = rt) && !meth.locks && decide (parseMethodDescriptor y.desc = some meth.sig)) = true) : (Jvm.Cond.code y bytes mx rt).before a s = true := by
  simp only [Bool.and_eq_true, beq_iff_eq, Bool.not_eq_true', decide_eq_true_eq] at h5
  obtain ⟨⟨⟨⟨⟨g1, g2⟩, g3⟩, g4⟩, g5⟩, g6⟩ := h5
  simp [Cond.before, Cond.holds, Cond.value, h1, h2, h3, h4, g1, g2, g3, g4, g5, g6]
def isCode : Jvm.Cond → Bool
  | .code _ _ _ _ => true
  | _ => false
theorem all_split {L : List Jvm.Cond} {P : Jvm.Cond → Bool} (h1 : L.all (fun c => isCode c || P c) = true) (h2 : ∀ c ∈ L.filter isCode, P c = true) : L.all P = true := by
  refine List.all_eq_true.mpr fun c hc => ?_
  have h := List.all_eq_true.mp h1 c hc
  rcases Bool.eq_false_or_eq_true (isCode c) with hi | hi
  · exact h2 c (List.mem_filter.mpr ⟨hc, hi⟩)
  · simpa [hi] using h
set_option maxRecDepth 65536 in
theorem w_c0 : (Jvm.Cond.code x code maxLocals ret).before args0 about1 = true := code_word (m := ⟨1, 1⟩) (meth := k1m1) (c := k1c1) (by decide +kernel) rfl rfl rfl (by decide +kernel)
set_option maxRecDepth 65536 in
theorem w_c1 : (Jvm.Cond.code ({ cls := "com/example/kurir/kurir/codec/PacketType", name := "firstByte", desc := "()I" } : Jvm.MethodName) prog_56_method_7_code (1 : Nat) (Option.some Jvm.ClassFile.FieldType.int)).before args0 about1 = true := code_word (m := ⟨6, 1⟩) (meth := k6m1) (c := k6c1) (by decide +kernel) rfl rfl rfl (by decide +kernel)
set_option maxRecDepth 65536 in
theorem w_c2 : (Jvm.Cond.code ({ cls := "com/example/kurir/kurir/codec/PacketType", name := "of", desc := "(ILcom/example/kurir/kurir/codec/ProtocolVersion;)Lcom/example/kurir/kurir/codec/PacketType;" } : Jvm.MethodName) prog_56_method_4_code (3 : Nat) (Option.some (Jvm.ClassFile.FieldType.object "com/example/kurir/kurir/codec/PacketType"))).before args0 about1 = true := code_word (m := ⟨6, 0⟩) (meth := k6m0) (c := k6c0) (by decide +kernel) rfl rfl rfl (by decide +kernel)
def codes1 : List Jvm.Cond := [Jvm.Cond.code x code maxLocals ret, Jvm.Cond.code ({ cls := "com/example/kurir/kurir/codec/PacketType", name := "firstByte", desc := "()I" } : Jvm.MethodName) prog_56_method_7_code (1 : Nat) (Option.some Jvm.ClassFile.FieldType.int), Jvm.Cond.code ({ cls := "com/example/kurir/kurir/codec/PacketType", name := "of", desc := "(ILcom/example/kurir/kurir/codec/ProtocolVersion;)Lcom/example/kurir/kurir/codec/PacketType;" } : Jvm.MethodName) prog_56_method_4_code (3 : Nat) (Option.some (Jvm.ClassFile.FieldType.object "com/example/kurir/kurir/codec/PacketType"))]
set_option maxRecDepth 65536 in
theorem codes_eq : words1.filter isCode = codes1 := rfl
theorem w_codes : ∀ c ∈ words1.filter isCode, c.before args0 about1 = true := by
  rw [codes_eq]
  intro c hc
  simp only [codes1, List.mem_cons, List.not_mem_nil, or_false] at hc
  rcases hc with rfl | rfl | rfl
  · exact w_c0
  · exact w_c1
  · exact w_c2
set_option maxRecDepth 65536 in
theorem w_t1 : (words1.take 24).all (fun c => isCode c || c.before args0 about1) = true := by decide +kernel
set_option maxRecDepth 65536 in
theorem w_t2 : ((words1.drop 24).take 24).all (fun c => isCode c || c.before args0 about1) = true := by decide +kernel
set_option maxRecDepth 65536 in
theorem w_t3 : ((words1.drop 24).drop 24).all (fun c => isCode c || c.before args0 about1) = true := by decide +kernel
theorem w_tables : (allAtoms (Jvm.Cond.code x code maxLocals ret :: tables_1)).before args0 about1 = true := by
  rw [allAtoms_all]
  show words1.all (fun c => c.before args0 about1) = true
  refine all_split ?_ w_codes
  rw [← List.take_append_drop 24 words1, List.all_append, w_t1, ← List.take_append_drop 24 (words1.drop 24), List.all_append, w_t2, w_t3]
  rfl
set_option maxRecDepth 65536 in
theorem w_case : (Jvm.Cond.and given_1 narrow_1).before args0 about1 = true := by decide +kernel
theorem w_applies : (headSpec (Jvm.Cond.code x code maxLocals ret :: tables_1) room_1).applies x e0.platform about1 = true :=
  (Spec.applies_iff w_frames).mpr ⟨w_running, w_runnable, w_alone, w_named, w_hears, w_ripe, w_room, w_tables⟩
theorem atStart : AtStart classFile x code maxLocals ret World_1 tables_1 room_1 Calls_1 rest_1 Pre_1 launch0 p0 e0 about1 theMethod args0 below0 :=
  ⟨lists_1, trivial, launch0.admits_env _ _ _, launch0.least_env, fairChoices_fair.cas, fairChoices_fair.clock, w_frames, w_args, w_heap, w_applies, trivial, trivial, w_case⟩
end start1
theorem witness_1 : WitnessClaimed_1 := ⟨start1.p0, start1.e0, start1.about1, start1.theMethod, start1.args0, start1.below0, start1.atStart⟩
end Jvm.Pilot.@@N@@
