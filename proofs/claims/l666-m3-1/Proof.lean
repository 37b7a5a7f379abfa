import JvmDerived
import JvmDerived.Pilot.@@N@@Statement
import JvmDerived.Pilot.@@N@@Code
set_option linter.unusedVariables false
set_option linter.unusedSimpArgs false
namespace Jvm.Pilot.@@N@@
open Jvm Jvm.ClassFile Sem Op Lib Jvm.Free Jvm.Stand Jvm.LawKit Jvm.RoadKit Bundle Jvm.Pilot.@@N@@.Jvm.D
section OwnKit
variable {p : Program} {l : Launch} {e : Env} {R : Room} {s : State} {m : MethodId} {args : Array Value} {below : List Frame} {meth : Method} {c : Code} {T : State} {locs : List Loc} {cells slots : Nat}
theorem own_retI (X : Stand p l e R s m args below meth c T locs cells slots) (hx : p.tables.exec = Jvm.exec) {pc : Nat} {Ls : Array Slot} {z : Int32} {rest : List Value} (hret : meth.sig.returnType = some .int) (hd : decode c.code pc = .ok (.ireturn, 1)) {fs : List Frame}
    (hl : ∀ (f : JFrame) (acts : List Action), f.method = m → f.locked = none → f.entered = [] → (doReturn e (T.setTop f) acts (some (.int z))).1 = T.setFrames fs) : Steps p.tables e below (T.setTop (mkF m pc Ls (.int z :: rest))) (T.setFrames fs) := by
  have hm' : T.vm.method? m = some meth := X.method'
  have hn : narrow .int (.int z) = .int z := rfl
  show Steps p.tables e below (T.setTop { method := m, pc := pc, locals := Ls, stack := _ :: rest, locked := none }) _
  jvm_step X.here [X.here.top, hx, hd, hm', hret, hn]
  first | (intro acts; rw [hl _ acts rfl rfl rfl]) | rw [hl _ _ rfl rfl rfl]
  exact Steps.refl _
theorem own_retJ (X : Stand p l e R s m args below meth c T locs cells slots) (hx : p.tables.exec = Jvm.exec) {pc : Nat} {Ls : Array Slot} {z : Int64} {rest : List Value} (hret : meth.sig.returnType = some .long) (hd : decode c.code pc = .ok (.lreturn, 1)) {fs : List Frame}
    (hl : ∀ (f : JFrame) (acts : List Action), f.method = m → f.locked = none → f.entered = [] → (doReturn e (T.setTop f) acts (some (.long z))).1 = T.setFrames fs) : Steps p.tables e below (T.setTop (mkF m pc Ls (.long z :: rest))) (T.setFrames fs) := by
  have hm' : T.vm.method? m = some meth := X.method'
  have hn : narrow .long (.long z) = .long z := rfl
  show Steps p.tables e below (T.setTop { method := m, pc := pc, locals := Ls, stack := _ :: rest, locked := none }) _
  jvm_step X.here [X.here.top, hx, hd, hm', hret, hn]
  first | (intro acts; rw [hl _ acts rfl rfl rfl]) | rw [hl _ _ rfl rfl rfl]
  exact Steps.refl _
theorem own_retA (X : Stand p l e R s m args below meth c T locs cells slots) (hx : p.tables.exec = Jvm.exec) {pc : Nat} {Ls : Array Slot} {w : Value} {t : FieldType} {rest : List Value} (hret : meth.sig.returnType = some t) (ht : t.isReference = true) (hw : w.isRef = true) (hd : decode c.code pc = .ok (.areturn, 1)) {fs : List Frame}
    (hl : ∀ (f : JFrame) (acts : List Action), f.method = m → f.locked = none → f.entered = [] → (doReturn e (T.setTop f) acts (some w)).1 = T.setFrames fs) : Steps p.tables e below (T.setTop (mkF m pc Ls (w :: rest))) (T.setFrames fs) :=
  retOut X hx hret (by cases t <;> first | (cases ht; done) | (cases w <;> first | rfl | (cases hw; done))) (Or.inr (Or.inr (Or.inr (Or.inr ⟨rfl, ht, hw⟩)))) hd hl
/-- the run from S ends, returned, as Q says -/
def OwnR (p : Program) (e : Env) (below : List Frame) (s : State) (Q : Option Value → Heap → List Loc → Prop) (kc ks : Nat) (S : State) : Prop :=
  ∃ s₂ o, Steps p.tables e below S s₂ ∧ s₂.status = .running ∧ Ended s₂ below o ∧ ∃ v L, o = .returned v ∧ Q v s₂.heap L ∧ FrameEnd s o s₂ L kc ks
theorem OwnR.of {Q : Option Value → Heap → List Loc → Prop} {kc ks : Nat} {S S' : State} (k : ∀ t, Steps p.tables e below S' t → Steps p.tables e below S t) (h : OwnR p e below s Q kc ks S') : OwnR p e below s Q kc ks S := by
  obtain ⟨a, o, h1, h2⟩ := h
  exact ⟨a, o, k a h1, h2⟩
theorem own_leafI (X : Stand p l e R s m args below meth c T locs cells slots) (hx : p.tables.exec = Jvm.exec) (hlk : meth.locks = false) (hret : meth.sig.returnType = some .int) {Q : Option Value → Heap → List Loc → Prop} {kc ks pc : Nat} {Ls : Array Slot} {z : Int32} {rest : List Value} (hd : decode c.code pc = .ok (.ireturn, 1)) (hk : cells ≤ kc) (hs : slots ≤ ks) (hQ : Q (some (.int z)) T.heap locs) :
    OwnR p e below s Q kc ks (T.setTop (mkF m pc Ls (.int z :: rest))) := by
  obtain ⟨fs, hr, hrun, hended, hW, hsame⟩ := X.leave (v := some (.int z)) (fun h => by rw [hret] at h; cases h) hlk
  exact ⟨_, _, own_retI X hx hret hd hr, hrun, hended, _, _, rfl, hQ, ⟨_, rfl⟩, hW, hsame.mono hk hs⟩
theorem own_leafN (X : Stand p l e R s m args below meth c T locs cells slots) (hx : p.tables.exec = Jvm.exec) (hlk : meth.locks = false) {t : FieldType} (hret : meth.sig.returnType = some t) (ht : t = .boolean ∨ t = .byte ∨ t = .char ∨ t = .short) {Q : Option Value → Heap → List Loc → Prop} {kc ks pc : Nat} {Ls : Array Slot} {z z' : Int32} {rest : List Value} (hd : decode c.code pc = .ok (.ireturn, 1)) (hz : nar t z = z') (hk : cells ≤ kc) (hs : slots ≤ ks) (hQ : Q (some (.int z')) T.heap locs) :
    OwnR p e below s Q kc ks (T.setTop (mkF m pc Ls (.int z :: rest))) := by
  subst hz
  obtain ⟨fs, hr, hrun, hended, hW, hsame⟩ := X.leave (v := some (.int (nar t z))) (fun h => by rw [hret] at h; cases h) hlk
  exact ⟨_, _, retN X hx hret ht hd hr, hrun, hended, _, _, rfl, hQ, ⟨_, rfl⟩, hW, hsame.mono hk hs⟩
theorem own_leafJ (X : Stand p l e R s m args below meth c T locs cells slots) (hx : p.tables.exec = Jvm.exec) (hlk : meth.locks = false) (hret : meth.sig.returnType = some .long) {Q : Option Value → Heap → List Loc → Prop} {kc ks pc : Nat} {Ls : Array Slot} {z : Int64} {rest : List Value} (hd : decode c.code pc = .ok (.lreturn, 1)) (hk : cells ≤ kc) (hs : slots ≤ ks) (hQ : Q (some (.long z)) T.heap locs) :
    OwnR p e below s Q kc ks (T.setTop (mkF m pc Ls (.long z :: rest))) := by
  obtain ⟨fs, hr, hrun, hended, hW, hsame⟩ := X.leave (v := some (.long z)) (fun h => by rw [hret] at h; cases h) hlk
  exact ⟨_, _, own_retJ X hx hret hd hr, hrun, hended, _, _, rfl, hQ, ⟨_, rfl⟩, hW, hsame.mono hk hs⟩
theorem own_leafA (X : Stand p l e R s m args below meth c T locs cells slots) (hx : p.tables.exec = Jvm.exec) (hlk : meth.locks = false) {t : FieldType} (hret : meth.sig.returnType = some t) (ht : t.isReference = true) {Q : Option Value → Heap → List Loc → Prop} {kc ks pc : Nat} {Ls : Array Slot} {w : Value} (hw : w.isRef = true) {rest : List Value} (hd : decode c.code pc = .ok (.areturn, 1)) (hk : cells ≤ kc) (hs : slots ≤ ks) (hQ : Q (some w) T.heap locs) :
    OwnR p e below s Q kc ks (T.setTop (mkF m pc Ls (w :: rest))) := by
  obtain ⟨fs, hr, hrun, hended, hW, hsame⟩ := X.leave (v := some w) (fun h => by rw [hret] at h; cases h) hlk
  exact ⟨_, _, own_retA X hx hret ht hw hd hr, hrun, hended, _, _, rfl, hQ, ⟨_, rfl⟩, hW, hsame.mono hk hs⟩
theorem own_leafV (X : Stand p l e R s m args below meth c T locs cells slots) (hx : p.tables.exec = Jvm.exec) (hlk : meth.locks = false) (hret : meth.sig.returnType = none) {Q : Option Value → Heap → List Loc → Prop} {kc ks pc : Nat} {Ls : Array Slot} (hd : decode c.code pc = .ok (.return_, 1)) (hk : cells ≤ kc) (hs : slots ≤ ks) (hQ : Q none T.heap locs) :
    OwnR p e below s Q kc ks (T.setTop (mkF m pc Ls [])) := by
  obtain ⟨fs, hr, hrun, hended, hW, hsame⟩ := X.leave (v := none) (fun _ => rfl) hlk
  exact ⟨_, _, X.returnOut hx hret hd hr, hrun, hended, _, _, rfl, hQ, ⟨_, rfl⟩, hW, hsame.mono hk hs⟩
theorem own_sta {Z : State} {h h' : Heap} {C n d : String} {v : Value} (F : Sta Z h C n d v) (K : Keep h h' []) : Sta Z h' C n d v := by
  obtain ⟨cf, i, k, f, st, cell, h1, h2, h3, h4, h5, r⟩ := F
  exact ⟨cf, i, k, f, st, cell, h1, h2, h3, h4, K.2.1 _ _ h5 nin0, r⟩
theorem own_arr {Z : State} {h h' : Heap} {a : Addr} {c : Cell} {ty : FieldType} {ws : List Addr} (A : Arr Z h a c ty) (K : Keep h h' ws) (q : a ∉ ws) : Arr Z h' a c ty := ⟨K.2.1 _ _ A.1 q, A.2⟩
theorem own_lclt (a b : Int64) : lcmpW a b < 0 ↔ a < b := by
  obtain ⟨h1, h2, h3⟩ := c_lcmp a b
  have e1 := @Int64.lt_iff_toInt_lt a b
  have e2 := @Int32.lt_iff_toInt_lt (lcmpW a b) 0
  have e0 : (0 : Int32).toInt = 0 := by decide
  rw [e1, e2, e0]; omega
theorem own_lcgt (a b : Int64) : 0 < lcmpW a b ↔ b < a := by
  obtain ⟨h1, h2, h3⟩ := c_lcmp a b
  have e1 := @Int64.lt_iff_toInt_lt b a
  have e2 := @Int32.lt_iff_toInt_lt 0 (lcmpW a b)
  have e0 : (0 : Int32).toInt = 0 := by decide
  rw [e1, e2, e0]; omega
theorem own_lceq (a b : Int64) : lcmpW a b = 0 ↔ a = b := by
  obtain ⟨h1, h2, h3⟩ := c_lcmp a b
  have e0 : (0 : Int32).toInt = 0 := by decide
  rw [← Int64.toInt_inj, ← Int32.toInt_inj, e0]; omega
end OwnKit
theorem own_eqi {args : Array Value} {Z : State} {t : Jvm.Term} {k : Int32} (h : (Jvm.Cond.eq t (Jvm.Term.int k)).value args Z none Z [] = some true) : t.eval args Z none [] Z = some (.int k) := by
  cases ht : t.eval args Z none [] Z with
  | none => simp [Jvm.Cond.value, ht] at h
  | some v => cases v <;> simp [Jvm.Cond.value, ht, Jvm.Term.eval] at h ⊢ <;> first | exact h | exact h.symm
theorem own_eql {args : Array Value} {Z : State} {t : Jvm.Term} {k : Int64} (h : (Jvm.Cond.eq t (Jvm.Term.long k)).value args Z none Z [] = some true) : t.eval args Z none [] Z = some (.long k) := by
  cases ht : t.eval args Z none [] Z with
  | none => simp [Jvm.Cond.value, ht] at h
  | some v => cases v <;> simp [Jvm.Cond.value, ht, Jvm.Term.eval] at h ⊢ <;> first | exact h | exact h.symm
def own_of (q : Int64) (s1 s2 s3 : Addr) : Addr := if q < 4085 then s1 else if q < 65525 then s2 else s3
def own_rank (a s1 s2 s3 : Addr) : Int32 := if a = s1 then 0 else if a = s2 then 1 else if a = s3 then 2 else -1
def own_ex (q : Int64) : Int32 := (if q < 4085 then 0 else 1) + (if q < 65525 then 0 else 1)
theorem own_e1 : (4085 : Int64).toInt = 4085 := by decide
theorem own_e2 : (65525 : Int64).toInt = 65525 := by decide
theorem own_law (q : Int64) (s1 s2 s3 : Addr) (h12 : s1 ≠ s2) (h13 : s1 ≠ s3) (h23 : s2 ≠ s3) : own_rank (own_of q s1 s2 s3) s1 s2 s3 = own_ex q := by
  by_cases h1 : q < 4085
  · have h2 : q < 65525 := by rw [Int64.lt_iff_toInt_lt, own_e1] at h1; rw [Int64.lt_iff_toInt_lt, own_e2]; omega
    simp only [own_of, own_ex, own_rank, if_pos h1, if_pos h2, if_true]; decide
  · by_cases h2 : q < 65525
    · simp only [own_of, own_ex, own_rank, if_neg h1, if_pos h2, if_neg h12.symm, if_true]; decide
    · simp only [own_of, own_ex, own_rank, if_neg h1, if_neg h2, if_neg h13.symm, if_neg h23.symm, if_true]; decide
theorem own_mono (a b : Int64) (h : ¬ b < a) : ¬ own_ex b < own_ex a := by
  rw [Int64.lt_iff_toInt_lt] at h
  simp only [own_ex, Int64.lt_iff_toInt_lt, own_e1, own_e2]
  by_cases a1 : a.toInt < 4085 <;> by_cases a2 : a.toInt < 65525 <;> by_cases b1 : b.toInt < 4085 <;> by_cases b2 : b.toInt < 65525 <;> simp only [a1, a2, b1, b2, if_true, if_false] <;> first | decide | (exfalso; omega)
theorem pn_com_example_bittern_bittern_volume_FatType : plainName "com/example/bittern/bittern/volume/FatType" = true := by first | (simp [plainName, overriddenIn]; done) | decide +kernel
theorem ef_rm1 (m : MethodId) (x0 : Int64) : entryFrame m #[(.long x0)] 3 = mkF m 0 #[.val (.long x0), .second, .unset] [] := by first | (simp [entryFrame, mkF, argsToLocals, Value.category]; done) | rfl
theorem d1_0 : decode prog_21_method_4_code 0 = .ok (.lload_n 0, 1) := by decide +kernel
theorem d1_1 : decode prog_21_method_4_code 1 = .ok (.ldc2_w 40, 3) := by decide +kernel
theorem d1_4 : decode prog_21_method_4_code 4 = .ok (.lcmp, 1) := by decide +kernel
theorem d1_5 : decode prog_21_method_4_code 5 = .ok (.ifCond .ge 10, 3) := by decide +kernel
theorem d1_8 : decode prog_21_method_4_code 8 = .ok (.getstatic 3, 3) := by decide +kernel
theorem d1_11 : decode prog_21_method_4_code 11 = .ok (.astore_n 2, 1) := by decide +kernel
theorem d1_12 : decode prog_21_method_4_code 12 = .ok (.goto 22, 3) := by decide +kernel
theorem d1_34 : decode prog_21_method_4_code 34 = .ok (.aload_n 2, 1) := by decide +kernel
theorem d1_35 : decode prog_21_method_4_code 35 = .ok (.areturn, 1) := by decide +kernel
theorem d1_15 : decode prog_21_method_4_code 15 = .ok (.lload_n 0, 1) := by decide +kernel
theorem d1_16 : decode prog_21_method_4_code 16 = .ok (.ldc2_w 42, 3) := by decide +kernel
theorem d1_19 : decode prog_21_method_4_code 19 = .ok (.lcmp, 1) := by decide +kernel
theorem d1_20 : decode prog_21_method_4_code 20 = .ok (.ifCond .ge 10, 3) := by decide +kernel
theorem d1_23 : decode prog_21_method_4_code 23 = .ok (.getstatic 7, 3) := by decide +kernel
theorem d1_26 : decode prog_21_method_4_code 26 = .ok (.astore_n 2, 1) := by decide +kernel
theorem d1_27 : decode prog_21_method_4_code 27 = .ok (.goto 7, 3) := by decide +kernel
theorem d1_30 : decode prog_21_method_4_code 30 = .ok (.getstatic 10, 3) := by decide +kernel
theorem d1_33 : decode prog_21_method_4_code 33 = .ok (.astore_n 2, 1) := by decide +kernel
def Q1 (Z : State) (q1 : Int64) (s1 : Addr) (s2 : Addr) (s3 : Addr) (h0 : Heap) (n0 : Nat) (v : Option Value) (h : Heap) (L : List Loc) : Prop := v = some (.ref (own_of q1 s1 s2 s3)) ∧ Fr n0 L ∧ h = h0
set_option maxRecDepth 65536 in
set_option maxHeartbeats 40000000 in
theorem rm1 (l : Launch) (Z : State) (a0 : Array Value) (hw : ∀ d ∈ tables_1, d.before a0 Z = true) (ws : List Jvm.Cond) (q1 : Int64) (s1 s2 s3 : Addr) (h0 : Heap) (n0 : Nat) (Z0 : n0 ≤ h0.size) (S_FAT12 : Sta Z h0 "com/example/bittern/bittern/volume/FatType" "FAT12" "Lcom/example/bittern/bittern/volume/FatType;" (.ref s1)) (S_FAT16 : Sta Z h0 "com/example/bittern/bittern/volume/FatType" "FAT16" "Lcom/example/bittern/bittern/volume/FatType;" (.ref s2)) (S_FAT32 : Sta Z h0 "com/example/bittern/bittern/volume/FatType" "FAT32" "Lcom/example/bittern/bittern/volume/FatType;" (.ref s3)) :
    MetFree l (⟨"com/example/bittern/bittern/volume/FatType", "ofClusterCount", "(J)Lcom/example/bittern/bittern/volume/FatType;"⟩ : MethodName) (head1 (Jvm.Cond.code (⟨"com/example/bittern/bittern/volume/FatType", "ofClusterCount", "(J)Lcom/example/bittern/bittern/volume/FatType;"⟩ : MethodName) prog_21_method_4_code 3 (some (.object "com/example/bittern/bittern/volume/FatType")) :: ws) ({ frames := 0, cells := 0, slots := 0, locals := 0 } : Room)) (fun a U => a = #[(.long q1)] ∧ Z.Warmed39 U.vm ∧ U.heap = h0) (fun _ _ _ _ _ => True) (fun _ U o U' => ∃ v L, o = .returned v ∧ Q1 Z q1 s1 s2 s3 h0 n0 v U'.heap L ∧ FrameEnd U o U' L ({ frames := 0, cells := 0, slots := 0, locals := 0 } : Room).cells ({ frames := 0, cells := 0, slots := 0, locals := 0 } : Room).slots) := by
  refine MetFree.of_bodySF (plainFor_of_name pn_com_example_bittern_bittern_volume_FatType) hisR ?_
  intro p e s m args below meth c s₁ Bd hml0 hP hK
  obtain ⟨rfl, hZ, hh⟩ := hP
  have hx := Bd.exec
  have hby := Bd.bytes
  have hlk := BodyLoose.notSynchronized Bd
  have hml : c.maxLocals = 3 := hml0
  have hown : s.vm.findClass "com/example/bittern/bittern/volume/FatType" = some m.cls := findClass_of_methodNamed Bd.named
  have hnm := (name_of_methodNamed Bd.named Bd.method).1
  have X0 : Stand p l e ({ frames := 0, cells := 0, slots := 0, locals := 0 } : Room) s m #[(.long q1)] below meth c s₁ [] 0 0 := Stand.of_body Bd
  have e0 : s₁.heap = h0 := by rw [← hh, Bd.state]; rfl
  have N0 := Fr.nil n0
  refine OwnR.of (s := s) (Q := Q1 Z q1 s1 s2 s3 h0 n0) (fun t k => castTop (ef_rm1 m q1) k) ?_
  show OwnR _ _ _ _ _ _ _ (s₁.setTop (mkF m 0 #[.val (.long q1), .second, .unset] []))
  refine OwnR.of (fun _ hr => XS.lloadN X0.here hx rfl (hb hby d1_0) rfl hr) ?_
  show OwnR _ _ _ _ _ _ _ (s₁.setTop (mkF m 1 #[.val (.long q1), .second, .unset] [(.long q1)]))
  refine OwnR.of (X0.ldc2Long hx hown (mvT hZ (hw _ (List.mem_of_getElem? (i := 6) rfl))) (g := (mkF m 1 #[.val (.long q1), .second, .unset] [(.long q1)])) rfl (hb hby d1_1)) ?_
  show OwnR _ _ _ _ _ _ _ (s₁.setTop (mkF m 4 #[.val (.long q1), .second, .unset] [(.long (4085 : Int64)), (.long q1)]))
  refine OwnR.of (fun _ hr => XS.lcmp X0.here hx rfl (hb hby d1_4) rfl hr) ?_
  show OwnR _ _ _ _ _ _ _ (s₁.setTop (mkF m 5 #[.val (.long q1), .second, .unset] [(.int (lcmpW q1 (4085 : Int64)))]))
  by_cases hc5_2 : q1 < (4085 : Int64)
  · skip
    refine OwnR.of (fun _ hr => XS.ifNo X0.here hx rfl (hb hby d1_5) rfl ((if0 _ _).trans (tlt ((own_lclt _ _).mpr hc5_2)).2.1) hr) ?_
    show OwnR _ _ _ _ _ _ _ (s₁.setTop (mkF m 8 #[.val (.long q1), .second, .unset] []))
    obtain ⟨T3, X3, e3, st3⟩ := getS2 X0 hx hZ hown (host := "") (Or.inl (hw _ (List.mem_of_getElem? (i := 7) rfl))) Via.refl e0 S_FAT12 (g := (mkF m 8 #[.val (.long q1), .second, .unset] [])) rfl (hb hby d1_8)
    refine OwnR.of (st3) ?_
    show OwnR _ _ _ _ _ _ _ (T3.setTop (mkF m 11 #[.val (.long q1), .second, .unset] [(.ref s1)]))
    refine OwnR.of (fun _ hr => XS.astoreN X3.here hx rfl (hb hby d1_11) rfl rfl (l' := #[.val (.long q1), .second, .val (.ref s1)]) rfl hr) ?_
    show OwnR _ _ _ _ _ _ _ (T3.setTop (mkF m 12 #[.val (.long q1), .second, .val (.ref s1)] []))
    refine OwnR.of (fun _ hr => XS.goto X3.here hx rfl (pc0 := 12) (pc' := 34) rfl (hb hby d1_12) (by decide) (by decide) hr) ?_
    show OwnR _ _ _ _ _ _ _ (T3.setTop (mkF m 34 #[.val (.long q1), .second, .val (.ref s1)] []))
    refine OwnR.of (fun _ hr => XS.aloadN X3.here hx rfl (hb hby d1_34) rfl rfl hr) ?_
    show OwnR _ _ _ _ _ _ _ (T3.setTop (mkF m 35 #[.val (.long q1), .second, .val (.ref s1)] [(.ref s1)]))
    refine own_leafA X3 hx hlk Bd.returns rfl rfl (hb hby d1_35) (by decide) (by decide) ?_
    show Q1 Z q1 s1 s2 s3 h0 n0 _ T3.heap _
    rw [show T3.heap = h0 from e3]
    refine ⟨?_, N0, rfl⟩
    show (some (.ref s1) : Option Value) = some (.ref (own_of q1 s1 s2 s3))
    simp only [own_of, if_pos hc5_2]
  · skip
    refine OwnR.of (fun _ hr => XS.ifYes X0.here hx rfl (pc0 := 5) (pc' := 15) rfl (hb hby d1_5) rfl ((if0 _ _).trans (flt ((not_congr (own_lclt _ _)).mpr hc5_2)).2.1) (by decide) (by decide) hr) ?_
    show OwnR _ _ _ _ _ _ _ (s₁.setTop (mkF m 15 #[.val (.long q1), .second, .unset] []))
    refine OwnR.of (fun _ hr => XS.lloadN X0.here hx rfl (hb hby d1_15) rfl hr) ?_
    show OwnR _ _ _ _ _ _ _ (s₁.setTop (mkF m 16 #[.val (.long q1), .second, .unset] [(.long q1)]))
    refine OwnR.of (X0.ldc2Long hx hown (mvT hZ (hw _ (List.mem_of_getElem? (i := 14) rfl))) (g := (mkF m 16 #[.val (.long q1), .second, .unset] [(.long q1)])) rfl (hb hby d1_16)) ?_
    show OwnR _ _ _ _ _ _ _ (s₁.setTop (mkF m 19 #[.val (.long q1), .second, .unset] [(.long (65525 : Int64)), (.long q1)]))
    refine OwnR.of (fun _ hr => XS.lcmp X0.here hx rfl (hb hby d1_19) rfl hr) ?_
    show OwnR _ _ _ _ _ _ _ (s₁.setTop (mkF m 20 #[.val (.long q1), .second, .unset] [(.int (lcmpW q1 (65525 : Int64)))]))
    by_cases hc20_4 : q1 < (65525 : Int64)
    · skip
      refine OwnR.of (fun _ hr => XS.ifNo X0.here hx rfl (hb hby d1_20) rfl ((if0 _ _).trans (tlt ((own_lclt _ _).mpr hc20_4)).2.1) hr) ?_
      show OwnR _ _ _ _ _ _ _ (s₁.setTop (mkF m 23 #[.val (.long q1), .second, .unset] []))
      obtain ⟨T5, X5, e5, st5⟩ := getS2 X0 hx hZ hown (host := "") (Or.inl (hw _ (List.mem_of_getElem? (i := 15) rfl))) Via.refl e0 S_FAT16 (g := (mkF m 23 #[.val (.long q1), .second, .unset] [])) rfl (hb hby d1_23)
      refine OwnR.of (st5) ?_
      show OwnR _ _ _ _ _ _ _ (T5.setTop (mkF m 26 #[.val (.long q1), .second, .unset] [(.ref s2)]))
      refine OwnR.of (fun _ hr => XS.astoreN X5.here hx rfl (hb hby d1_26) rfl rfl (l' := #[.val (.long q1), .second, .val (.ref s2)]) rfl hr) ?_
      show OwnR _ _ _ _ _ _ _ (T5.setTop (mkF m 27 #[.val (.long q1), .second, .val (.ref s2)] []))
      refine OwnR.of (fun _ hr => XS.goto X5.here hx rfl (pc0 := 27) (pc' := 34) rfl (hb hby d1_27) (by decide) (by decide) hr) ?_
      show OwnR _ _ _ _ _ _ _ (T5.setTop (mkF m 34 #[.val (.long q1), .second, .val (.ref s2)] []))
      refine OwnR.of (fun _ hr => XS.aloadN X5.here hx rfl (hb hby d1_34) rfl rfl hr) ?_
      show OwnR _ _ _ _ _ _ _ (T5.setTop (mkF m 35 #[.val (.long q1), .second, .val (.ref s2)] [(.ref s2)]))
      refine own_leafA X5 hx hlk Bd.returns rfl rfl (hb hby d1_35) (by decide) (by decide) ?_
      show Q1 Z q1 s1 s2 s3 h0 n0 _ T5.heap _
      rw [show T5.heap = h0 from e5]
      refine ⟨?_, N0, rfl⟩
      show (some (.ref s2) : Option Value) = some (.ref (own_of q1 s1 s2 s3))
      simp only [own_of, if_neg hc5_2, if_pos hc20_4]
    · skip
      refine OwnR.of (fun _ hr => XS.ifYes X0.here hx rfl (pc0 := 20) (pc' := 30) rfl (hb hby d1_20) rfl ((if0 _ _).trans (flt ((not_congr (own_lclt _ _)).mpr hc20_4)).2.1) (by decide) (by decide) hr) ?_
      show OwnR _ _ _ _ _ _ _ (s₁.setTop (mkF m 30 #[.val (.long q1), .second, .unset] []))
      obtain ⟨T6, X6, e6, st6⟩ := getS2 X0 hx hZ hown (host := "") (Or.inl (hw _ (List.mem_of_getElem? (i := 18) rfl))) Via.refl e0 S_FAT32 (g := (mkF m 30 #[.val (.long q1), .second, .unset] [])) rfl (hb hby d1_30)
      refine OwnR.of (st6) ?_
      show OwnR _ _ _ _ _ _ _ (T6.setTop (mkF m 33 #[.val (.long q1), .second, .unset] [(.ref s3)]))
      refine OwnR.of (fun _ hr => XS.astoreN X6.here hx rfl (hb hby d1_33) rfl rfl (l' := #[.val (.long q1), .second, .val (.ref s3)]) rfl hr) ?_
      show OwnR _ _ _ _ _ _ _ (T6.setTop (mkF m 34 #[.val (.long q1), .second, .val (.ref s3)] []))
      refine OwnR.of (fun _ hr => XS.aloadN X6.here hx rfl (hb hby d1_34) rfl rfl hr) ?_
      show OwnR _ _ _ _ _ _ _ (T6.setTop (mkF m 35 #[.val (.long q1), .second, .val (.ref s3)] [(.ref s3)]))
      refine own_leafA X6 hx hlk Bd.returns rfl rfl (hb hby d1_35) (by decide) (by decide) ?_
      show Q1 Z q1 s1 s2 s3 h0 n0 _ T6.heap _
      rw [show T6.heap = h0 from e6]
      refine ⟨?_, N0, rfl⟩
      show (some (.ref s3) : Option Value) = some (.ref (own_of q1 s1 s2 s3))
      simp only [own_of, if_neg hc5_2, if_neg hc20_4]
theorem pn_com_example_bittern_bittern_volume_FatTypeOfClusterCountPinLaw : plainName "com/example/bittern/bittern/volume/FatTypeOfClusterCountPinLaw" = true := by first | (simp [plainName, overriddenIn]; done) | decide +kernel
theorem ef_rm2 (m : MethodId) (x0 : Addr) : entryFrame m #[(.ref x0)] 1 = mkF m 0 #[.val (.ref x0)] [] := by first | (simp [entryFrame, mkF, argsToLocals, Value.category]; done) | rfl
theorem d2_0 : decode method_2_code 0 = .ok (.aload_n 0, 1) := by decide +kernel
theorem d2_1 : decode method_2_code 1 = .ok (.getstatic 7, 3) := by decide +kernel
theorem d2_4 : decode method_2_code 4 = .ok (.if_acmp .ne 5, 3) := by decide +kernel
theorem d2_7 : decode method_2_code 7 = .ok (.iconst 0, 1) := by decide +kernel
theorem d2_8 : decode method_2_code 8 = .ok (.ireturn, 1) := by decide +kernel
theorem d2_9 : decode method_2_code 9 = .ok (.aload_n 0, 1) := by decide +kernel
theorem d2_10 : decode method_2_code 10 = .ok (.getstatic 13, 3) := by decide +kernel
theorem d2_13 : decode method_2_code 13 = .ok (.if_acmp .ne 5, 3) := by decide +kernel
theorem d2_16 : decode method_2_code 16 = .ok (.iconst 1, 1) := by decide +kernel
theorem d2_17 : decode method_2_code 17 = .ok (.ireturn, 1) := by decide +kernel
theorem d2_18 : decode method_2_code 18 = .ok (.aload_n 0, 1) := by decide +kernel
theorem d2_19 : decode method_2_code 19 = .ok (.getstatic 16, 3) := by decide +kernel
theorem d2_22 : decode method_2_code 22 = .ok (.if_acmp .ne 5, 3) := by decide +kernel
theorem d2_25 : decode method_2_code 25 = .ok (.iconst 2, 1) := by decide +kernel
theorem d2_26 : decode method_2_code 26 = .ok (.ireturn, 1) := by decide +kernel
theorem d2_27 : decode method_2_code 27 = .ok (.iconst (-1), 1) := by decide +kernel
theorem d2_28 : decode method_2_code 28 = .ok (.ireturn, 1) := by decide +kernel
def Q2 (Z : State) (a1 : Addr) (s1 : Addr) (s2 : Addr) (s3 : Addr) (h0 : Heap) (n0 : Nat) (v : Option Value) (h : Heap) (L : List Loc) : Prop := v = some (.int (own_rank a1 s1 s2 s3)) ∧ Fr n0 L ∧ h = h0
set_option maxRecDepth 65536 in
set_option maxHeartbeats 40000000 in
theorem rm2 (l : Launch) (Z : State) (a0 : Array Value) (hw : ∀ d ∈ tables_1, d.before a0 Z = true) (ws : List Jvm.Cond) (a1 : Addr) (s1 s2 s3 : Addr) (h0 : Heap) (n0 : Nat) (Z0 : n0 ≤ h0.size) (S_FAT12 : Sta Z h0 "com/example/bittern/bittern/volume/FatType" "FAT12" "Lcom/example/bittern/bittern/volume/FatType;" (.ref s1)) (S_FAT16 : Sta Z h0 "com/example/bittern/bittern/volume/FatType" "FAT16" "Lcom/example/bittern/bittern/volume/FatType;" (.ref s2)) (S_FAT32 : Sta Z h0 "com/example/bittern/bittern/volume/FatType" "FAT32" "Lcom/example/bittern/bittern/volume/FatType;" (.ref s3)) :
    MetFree l (⟨"com/example/bittern/bittern/volume/FatTypeOfClusterCountPinLaw", "rank", "(Lcom/example/bittern/bittern/volume/FatType;)I"⟩ : MethodName) (head1 (Jvm.Cond.code (⟨"com/example/bittern/bittern/volume/FatTypeOfClusterCountPinLaw", "rank", "(Lcom/example/bittern/bittern/volume/FatType;)I"⟩ : MethodName) method_2_code 1 (some .int) :: ws) ({ frames := 0, cells := 0, slots := 0, locals := 0 } : Room)) (fun a U => a = #[(.ref a1)] ∧ Z.Warmed39 U.vm ∧ U.heap = h0) (fun _ _ _ _ _ => True) (fun _ U o U' => ∃ v L, o = .returned v ∧ Q2 Z a1 s1 s2 s3 h0 n0 v U'.heap L ∧ FrameEnd U o U' L ({ frames := 0, cells := 0, slots := 0, locals := 0 } : Room).cells ({ frames := 0, cells := 0, slots := 0, locals := 0 } : Room).slots) := by
  refine MetFree.of_bodySF (plainFor_of_name pn_com_example_bittern_bittern_volume_FatTypeOfClusterCountPinLaw) hisR ?_
  intro p e s m args below meth c s₁ Bd hml0 hP hK
  obtain ⟨rfl, hZ, hh⟩ := hP
  have hx := Bd.exec
  have hby := Bd.bytes
  have hlk := BodyLoose.notSynchronized Bd
  have hml : c.maxLocals = 1 := hml0
  have hown : s.vm.findClass "com/example/bittern/bittern/volume/FatTypeOfClusterCountPinLaw" = some m.cls := findClass_of_methodNamed Bd.named
  have hnm := (name_of_methodNamed Bd.named Bd.method).1
  have X0 : Stand p l e ({ frames := 0, cells := 0, slots := 0, locals := 0 } : Room) s m #[(.ref a1)] below meth c s₁ [] 0 0 := Stand.of_body Bd
  have e0 : s₁.heap = h0 := by rw [← hh, Bd.state]; rfl
  have N0 := Fr.nil n0
  refine OwnR.of (s := s) (Q := Q2 Z a1 s1 s2 s3 h0 n0) (fun t k => castTop (ef_rm2 m a1) k) ?_
  show OwnR _ _ _ _ _ _ _ (s₁.setTop (mkF m 0 #[.val (.ref a1)] []))
  refine OwnR.of (fun _ hr => XS.aloadN X0.here hx rfl (hb hby d2_0) rfl rfl hr) ?_
  show OwnR _ _ _ _ _ _ _ (s₁.setTop (mkF m 1 #[.val (.ref a1)] [(.ref a1)]))
  obtain ⟨T2, X2, e2, st2⟩ := getS2 X0 hx hZ hown (host := "") (Or.inl (hw _ (List.mem_of_getElem? (i := 13) rfl))) Via.refl e0 S_FAT12 (g := (mkF m 1 #[.val (.ref a1)] [(.ref a1)])) rfl (hb hby d2_1)
  refine OwnR.of (st2) ?_
  show OwnR _ _ _ _ _ _ _ (T2.setTop (mkF m 4 #[.val (.ref a1)] [(.ref s1), (.ref a1)]))
  by_cases hc4_3 : a1 = s1
  · skip
    refine OwnR.of (fun _ hr => Jvm.RoadKit.acmp (g := (mkF m 4 #[.val (.ref a1)] [(.ref s1), (.ref a1)])) X2 hx rfl rfl rfl (pc0 := 4) (pc' := 7) (same := true) rfl (hb hby d2_4) rfl (decide_eq_true (congrArg Value.ref hc4_3)) (by decide) (by decide) hr) ?_
    show OwnR _ _ _ _ _ _ _ (T2.setTop (mkF m 7 #[.val (.ref a1)] []))
    refine OwnR.of (fun _ hr => XS.iconst X2.here hx rfl (hb hby d2_7) hr) ?_
    show OwnR _ _ _ _ _ _ _ (T2.setTop (mkF m 8 #[.val (.ref a1)] [(.int (0 : Int32))]))
    refine own_leafI X2 hx hlk Bd.returns (hb hby d2_8) (by decide) (by decide) ?_
    show Q2 Z a1 s1 s2 s3 h0 n0 _ T2.heap _
    rw [show T2.heap = h0 from e2]
    refine ⟨?_, N0, rfl⟩
    show (some (.int (0 : Int32)) : Option Value) = some (.int (own_rank a1 s1 s2 s3))
    simp only [own_rank, if_pos hc4_3]
  · skip
    refine OwnR.of (fun _ hr => Jvm.RoadKit.acmp (g := (mkF m 4 #[.val (.ref a1)] [(.ref s1), (.ref a1)])) X2 hx rfl rfl rfl (pc0 := 4) (pc' := 9) (same := false) rfl (hb hby d2_4) rfl (decide_eq_false fun q => hc4_3 (Value.ref.inj q)) (by decide) (by decide) hr) ?_
    show OwnR _ _ _ _ _ _ _ (T2.setTop (mkF m 9 #[.val (.ref a1)] []))
    refine OwnR.of (fun _ hr => XS.aloadN X2.here hx rfl (hb hby d2_9) rfl rfl hr) ?_
    show OwnR _ _ _ _ _ _ _ (T2.setTop (mkF m 10 #[.val (.ref a1)] [(.ref a1)]))
    obtain ⟨T4, X4, e4, st4⟩ := getS2 X2 hx hZ hown (host := "") (Or.inl (hw _ (List.mem_of_getElem? (i := 17) rfl))) Via.refl e2 S_FAT16 (g := (mkF m 10 #[.val (.ref a1)] [(.ref a1)])) rfl (hb hby d2_10)
    refine OwnR.of (st4) ?_
    show OwnR _ _ _ _ _ _ _ (T4.setTop (mkF m 13 #[.val (.ref a1)] [(.ref s2), (.ref a1)]))
    by_cases hc13_5 : a1 = s2
    · skip
      refine OwnR.of (fun _ hr => Jvm.RoadKit.acmp (g := (mkF m 13 #[.val (.ref a1)] [(.ref s2), (.ref a1)])) X4 hx rfl rfl rfl (pc0 := 13) (pc' := 16) (same := true) rfl (hb hby d2_13) rfl (decide_eq_true (congrArg Value.ref hc13_5)) (by decide) (by decide) hr) ?_
      show OwnR _ _ _ _ _ _ _ (T4.setTop (mkF m 16 #[.val (.ref a1)] []))
      refine OwnR.of (fun _ hr => XS.iconst X4.here hx rfl (hb hby d2_16) hr) ?_
      show OwnR _ _ _ _ _ _ _ (T4.setTop (mkF m 17 #[.val (.ref a1)] [(.int (1 : Int32))]))
      refine own_leafI X4 hx hlk Bd.returns (hb hby d2_17) (by decide) (by decide) ?_
      show Q2 Z a1 s1 s2 s3 h0 n0 _ T4.heap _
      rw [show T4.heap = h0 from e4]
      refine ⟨?_, N0, rfl⟩
      show (some (.int (1 : Int32)) : Option Value) = some (.int (own_rank a1 s1 s2 s3))
      simp only [own_rank, if_neg hc4_3, if_pos hc13_5]
    · skip
      refine OwnR.of (fun _ hr => Jvm.RoadKit.acmp (g := (mkF m 13 #[.val (.ref a1)] [(.ref s2), (.ref a1)])) X4 hx rfl rfl rfl (pc0 := 13) (pc' := 18) (same := false) rfl (hb hby d2_13) rfl (decide_eq_false fun q => hc13_5 (Value.ref.inj q)) (by decide) (by decide) hr) ?_
      show OwnR _ _ _ _ _ _ _ (T4.setTop (mkF m 18 #[.val (.ref a1)] []))
      refine OwnR.of (fun _ hr => XS.aloadN X4.here hx rfl (hb hby d2_18) rfl rfl hr) ?_
      show OwnR _ _ _ _ _ _ _ (T4.setTop (mkF m 19 #[.val (.ref a1)] [(.ref a1)]))
      obtain ⟨T6, X6, e6, st6⟩ := getS2 X4 hx hZ hown (host := "") (Or.inl (hw _ (List.mem_of_getElem? (i := 20) rfl))) Via.refl e4 S_FAT32 (g := (mkF m 19 #[.val (.ref a1)] [(.ref a1)])) rfl (hb hby d2_19)
      refine OwnR.of (st6) ?_
      show OwnR _ _ _ _ _ _ _ (T6.setTop (mkF m 22 #[.val (.ref a1)] [(.ref s3), (.ref a1)]))
      by_cases hc22_7 : a1 = s3
      · skip
        refine OwnR.of (fun _ hr => Jvm.RoadKit.acmp (g := (mkF m 22 #[.val (.ref a1)] [(.ref s3), (.ref a1)])) X6 hx rfl rfl rfl (pc0 := 22) (pc' := 25) (same := true) rfl (hb hby d2_22) rfl (decide_eq_true (congrArg Value.ref hc22_7)) (by decide) (by decide) hr) ?_
        show OwnR _ _ _ _ _ _ _ (T6.setTop (mkF m 25 #[.val (.ref a1)] []))
        refine OwnR.of (fun _ hr => XS.iconst X6.here hx rfl (hb hby d2_25) hr) ?_
        show OwnR _ _ _ _ _ _ _ (T6.setTop (mkF m 26 #[.val (.ref a1)] [(.int (2 : Int32))]))
        refine own_leafI X6 hx hlk Bd.returns (hb hby d2_26) (by decide) (by decide) ?_
        show Q2 Z a1 s1 s2 s3 h0 n0 _ T6.heap _
        rw [show T6.heap = h0 from e6]
        refine ⟨?_, N0, rfl⟩
        show (some (.int (2 : Int32)) : Option Value) = some (.int (own_rank a1 s1 s2 s3))
        simp only [own_rank, if_neg hc4_3, if_neg hc13_5, if_pos hc22_7]
      · skip
        refine OwnR.of (fun _ hr => Jvm.RoadKit.acmp (g := (mkF m 22 #[.val (.ref a1)] [(.ref s3), (.ref a1)])) X6 hx rfl rfl rfl (pc0 := 22) (pc' := 27) (same := false) rfl (hb hby d2_22) rfl (decide_eq_false fun q => hc22_7 (Value.ref.inj q)) (by decide) (by decide) hr) ?_
        show OwnR _ _ _ _ _ _ _ (T6.setTop (mkF m 27 #[.val (.ref a1)] []))
        refine OwnR.of (fun _ hr => XS.iconst X6.here hx rfl (hb hby d2_27) hr) ?_
        show OwnR _ _ _ _ _ _ _ (T6.setTop (mkF m 28 #[.val (.ref a1)] [(.int (-1 : Int32))]))
        refine own_leafI X6 hx hlk Bd.returns (hb hby d2_28) (by decide) (by decide) ?_
        show Q2 Z a1 s1 s2 s3 h0 n0 _ T6.heap _
        rw [show T6.heap = h0 from e6]
        refine ⟨?_, N0, rfl⟩
        show (some (.int (-1 : Int32)) : Option Value) = some (.int (own_rank a1 s1 s2 s3))
        simp only [own_rank, if_neg hc4_3, if_neg hc13_5, if_neg hc22_7]
theorem ef_rm3 (m : MethodId) (x0 : Int64) : entryFrame m #[(.long x0)] 2 = mkF m 0 #[.val (.long x0), .second] [] := by first | (simp [entryFrame, mkF, argsToLocals, Value.category]; done) | rfl
theorem d3_0 : decode method_3_code 0 = .ok (.lload_n 0, 1) := by decide +kernel
theorem d3_1 : decode method_3_code 1 = .ok (.ldc2_w 19, 3) := by decide +kernel
theorem d3_4 : decode method_3_code 4 = .ok (.lcmp, 1) := by decide +kernel
theorem d3_5 : decode method_3_code 5 = .ok (.ifCond .lt 7, 3) := by decide +kernel
theorem d3_12 : decode method_3_code 12 = .ok (.iconst 0, 1) := by decide +kernel
theorem d3_8 : decode method_3_code 8 = .ok (.iconst 1, 1) := by decide +kernel
theorem d3_9 : decode method_3_code 9 = .ok (.goto 4, 3) := by decide +kernel
theorem d3_13 : decode method_3_code 13 = .ok (.lload_n 0, 1) := by decide +kernel
theorem d3_14 : decode method_3_code 14 = .ok (.ldc2_w 21, 3) := by decide +kernel
theorem d3_17 : decode method_3_code 17 = .ok (.lcmp, 1) := by decide +kernel
theorem d3_18 : decode method_3_code 18 = .ok (.ifCond .lt 7, 3) := by decide +kernel
theorem d3_25 : decode method_3_code 25 = .ok (.iconst 0, 1) := by decide +kernel
theorem d3_21 : decode method_3_code 21 = .ok (.iconst 1, 1) := by decide +kernel
theorem d3_22 : decode method_3_code 22 = .ok (.goto 4, 3) := by decide +kernel
theorem d3_26 : decode method_3_code 26 = .ok (.iadd, 1) := by decide +kernel
theorem d3_27 : decode method_3_code 27 = .ok (.ireturn, 1) := by decide +kernel
def Q3 (Z : State) (q1 : Int64) (h0 : Heap) (n0 : Nat) (v : Option Value) (h : Heap) (L : List Loc) : Prop := v = some (.int (own_ex q1)) ∧ Fr n0 L ∧ h = h0
set_option maxRecDepth 65536 in
set_option maxHeartbeats 40000000 in
theorem rm3 (l : Launch) (Z : State) (a0 : Array Value) (hw : ∀ d ∈ tables_1, d.before a0 Z = true) (ws : List Jvm.Cond) (q1 : Int64) (h0 : Heap) (n0 : Nat) (Z0 : n0 ≤ h0.size) :
    MetFree l (⟨"com/example/bittern/bittern/volume/FatTypeOfClusterCountPinLaw", "expected", "(J)I"⟩ : MethodName) (head1 (Jvm.Cond.code (⟨"com/example/bittern/bittern/volume/FatTypeOfClusterCountPinLaw", "expected", "(J)I"⟩ : MethodName) method_3_code 2 (some .int) :: ws) ({ frames := 0, cells := 0, slots := 0, locals := 0 } : Room)) (fun a U => a = #[(.long q1)] ∧ Z.Warmed39 U.vm ∧ U.heap = h0) (fun _ _ _ _ _ => True) (fun _ U o U' => ∃ v L, o = .returned v ∧ Q3 Z q1 h0 n0 v U'.heap L ∧ FrameEnd U o U' L ({ frames := 0, cells := 0, slots := 0, locals := 0 } : Room).cells ({ frames := 0, cells := 0, slots := 0, locals := 0 } : Room).slots) := by
  refine MetFree.of_bodySF (plainFor_of_name pn_com_example_bittern_bittern_volume_FatTypeOfClusterCountPinLaw) hisR ?_
  intro p e s m args below meth c s₁ Bd hml0 hP hK
  obtain ⟨rfl, hZ, hh⟩ := hP
  have hx := Bd.exec
  have hby := Bd.bytes
  have hlk := BodyLoose.notSynchronized Bd
  have hml : c.maxLocals = 2 := hml0
  have hown : s.vm.findClass "com/example/bittern/bittern/volume/FatTypeOfClusterCountPinLaw" = some m.cls := findClass_of_methodNamed Bd.named
  have hnm := (name_of_methodNamed Bd.named Bd.method).1
  have X0 : Stand p l e ({ frames := 0, cells := 0, slots := 0, locals := 0 } : Room) s m #[(.long q1)] below meth c s₁ [] 0 0 := Stand.of_body Bd
  have e0 : s₁.heap = h0 := by rw [← hh, Bd.state]; rfl
  have N0 := Fr.nil n0
  refine OwnR.of (s := s) (Q := Q3 Z q1 h0 n0) (fun t k => castTop (ef_rm3 m q1) k) ?_
  show OwnR _ _ _ _ _ _ _ (s₁.setTop (mkF m 0 #[.val (.long q1), .second] []))
  refine OwnR.of (fun _ hr => XS.lloadN X0.here hx rfl (hb hby d3_0) rfl hr) ?_
  show OwnR _ _ _ _ _ _ _ (s₁.setTop (mkF m 1 #[.val (.long q1), .second] [(.long q1)]))
  refine OwnR.of (X0.ldc2Long hx hown (mvT hZ (hw _ (List.mem_of_getElem? (i := 0) rfl))) (g := (mkF m 1 #[.val (.long q1), .second] [(.long q1)])) rfl (hb hby d3_1)) ?_
  show OwnR _ _ _ _ _ _ _ (s₁.setTop (mkF m 4 #[.val (.long q1), .second] [(.long (4085 : Int64)), (.long q1)]))
  refine OwnR.of (fun _ hr => XS.lcmp X0.here hx rfl (hb hby d3_4) rfl hr) ?_
  show OwnR _ _ _ _ _ _ _ (s₁.setTop (mkF m 5 #[.val (.long q1), .second] [(.int (lcmpW q1 (4085 : Int64)))]))
  obtain ⟨v2, hv2⟩ : ∃ z : Int32, z = (if q1 < (4085 : Int64) then (0 : Int32) else (1 : Int32)) := ⟨_, rfl⟩
  suffices J13_3 : OwnR p e below s (Q3 Z q1 h0 n0) ({ frames := 0, cells := 0, slots := 0, locals := 0 } : Room).cells ({ frames := 0, cells := 0, slots := 0, locals := 0 } : Room).slots (s₁.setTop (mkF m 13 #[.val (.long q1), .second] [(.int v2)])) by
    by_cases hc5_4 : q1 < (4085 : Int64)
    · skip
      refine OwnR.of (fun _ hr => XS.ifYes X0.here hx rfl (pc0 := 5) (pc' := 12) rfl (hb hby d3_5) rfl ((if0 _ _).trans (tlt ((own_lclt _ _).mpr hc5_4)).1) (by decide) (by decide) hr) ?_
      show OwnR _ _ _ _ _ _ _ (s₁.setTop (mkF m 12 #[.val (.long q1), .second] []))
      refine OwnR.of (fun _ hr => XS.iconst X0.here hx rfl (hb hby d3_12) hr) ?_
      show OwnR _ _ _ _ _ _ _ (s₁.setTop (mkF m 13 #[.val (.long q1), .second] [(.int (0 : Int32))]))
      simp only [if_pos hc5_4] at hv2
      subst hv2
      exact J13_3
    · skip
      refine OwnR.of (fun _ hr => XS.ifNo X0.here hx rfl (hb hby d3_5) rfl ((if0 _ _).trans (flt ((not_congr (own_lclt _ _)).mpr hc5_4)).1) hr) ?_
      show OwnR _ _ _ _ _ _ _ (s₁.setTop (mkF m 8 #[.val (.long q1), .second] []))
      refine OwnR.of (fun _ hr => XS.iconst X0.here hx rfl (hb hby d3_8) hr) ?_
      show OwnR _ _ _ _ _ _ _ (s₁.setTop (mkF m 9 #[.val (.long q1), .second] [(.int (1 : Int32))]))
      refine OwnR.of (fun _ hr => XS.goto X0.here hx rfl (pc0 := 9) (pc' := 13) rfl (hb hby d3_9) (by decide) (by decide) hr) ?_
      show OwnR _ _ _ _ _ _ _ (s₁.setTop (mkF m 13 #[.val (.long q1), .second] [(.int (1 : Int32))]))
      simp only [if_neg hc5_4] at hv2
      subst hv2
      exact J13_3
  refine OwnR.of (fun _ hr => XS.lloadN X0.here hx rfl (hb hby d3_13) rfl hr) ?_
  show OwnR _ _ _ _ _ _ _ (s₁.setTop (mkF m 14 #[.val (.long q1), .second] [(.long q1), (.int v2)]))
  refine OwnR.of (X0.ldc2Long hx hown (mvT hZ (hw _ (List.mem_of_getElem? (i := 1) rfl))) (g := (mkF m 14 #[.val (.long q1), .second] [(.long q1), (.int v2)])) rfl (hb hby d3_14)) ?_
  show OwnR _ _ _ _ _ _ _ (s₁.setTop (mkF m 17 #[.val (.long q1), .second] [(.long (65525 : Int64)), (.long q1), (.int v2)]))
  refine OwnR.of (fun _ hr => XS.lcmp X0.here hx rfl (hb hby d3_17) rfl hr) ?_
  show OwnR _ _ _ _ _ _ _ (s₁.setTop (mkF m 18 #[.val (.long q1), .second] [(.int (lcmpW q1 (65525 : Int64))), (.int v2)]))
  obtain ⟨v5, hv5⟩ : ∃ z : Int32, z = (if q1 < (65525 : Int64) then (0 : Int32) else (1 : Int32)) := ⟨_, rfl⟩
  suffices J26_6 : OwnR p e below s (Q3 Z q1 h0 n0) ({ frames := 0, cells := 0, slots := 0, locals := 0 } : Room).cells ({ frames := 0, cells := 0, slots := 0, locals := 0 } : Room).slots (s₁.setTop (mkF m 26 #[.val (.long q1), .second] [(.int v5), (.int v2)])) by
    by_cases hc18_7 : q1 < (65525 : Int64)
    · skip
      refine OwnR.of (fun _ hr => XS.ifYes X0.here hx rfl (pc0 := 18) (pc' := 25) rfl (hb hby d3_18) rfl ((if0 _ _).trans (tlt ((own_lclt _ _).mpr hc18_7)).1) (by decide) (by decide) hr) ?_
      show OwnR _ _ _ _ _ _ _ (s₁.setTop (mkF m 25 #[.val (.long q1), .second] [(.int v2)]))
      refine OwnR.of (fun _ hr => XS.iconst X0.here hx rfl (hb hby d3_25) hr) ?_
      show OwnR _ _ _ _ _ _ _ (s₁.setTop (mkF m 26 #[.val (.long q1), .second] [(.int (0 : Int32)), (.int v2)]))
      simp only [if_pos hc18_7] at hv5
      subst hv5
      exact J26_6
    · skip
      refine OwnR.of (fun _ hr => XS.ifNo X0.here hx rfl (hb hby d3_18) rfl ((if0 _ _).trans (flt ((not_congr (own_lclt _ _)).mpr hc18_7)).1) hr) ?_
      show OwnR _ _ _ _ _ _ _ (s₁.setTop (mkF m 21 #[.val (.long q1), .second] [(.int v2)]))
      refine OwnR.of (fun _ hr => XS.iconst X0.here hx rfl (hb hby d3_21) hr) ?_
      show OwnR _ _ _ _ _ _ _ (s₁.setTop (mkF m 22 #[.val (.long q1), .second] [(.int (1 : Int32)), (.int v2)]))
      refine OwnR.of (fun _ hr => XS.goto X0.here hx rfl (pc0 := 22) (pc' := 26) rfl (hb hby d3_22) (by decide) (by decide) hr) ?_
      show OwnR _ _ _ _ _ _ _ (s₁.setTop (mkF m 26 #[.val (.long q1), .second] [(.int (1 : Int32)), (.int v2)]))
      simp only [if_neg hc18_7] at hv5
      subst hv5
      exact J26_6
  refine OwnR.of (fun _ hr => XS.iadd X0.here hx rfl (hb hby d3_26) rfl hr) ?_
  show OwnR _ _ _ _ _ _ _ (s₁.setTop (mkF m 27 #[.val (.long q1), .second] [(.int (v2 + v5))]))
  refine own_leafI X0 hx hlk Bd.returns (hb hby d3_27) (by decide) (by decide) ?_
  show Q3 Z q1 h0 n0 _ s₁.heap _
  rw [show s₁.heap = h0 from e0]
  refine ⟨?_, N0, rfl⟩
  show (some (.int (v2 + v5)) : Option Value) = some (.int (own_ex q1))
  subst_vars
  rfl
theorem ef_rm0 (m : MethodId) (x0 : Int64) (x1 : Int64) (x2 : Int32) : entryFrame m #[(.long x0), (.long x1), (.int x2)] maxLocals = mkF m 0 #[.val (.long x0), .second, .val (.long x1), .second, .val (.int x2), .unset, .unset, .unset, .unset, .unset, .unset, .unset, .unset] [] := by first | (simp [entryFrame, mkF, argsToLocals, Value.category, maxLocals]; done) | rfl
theorem pd__J_Lcom_example_bittern_bittern_volume_FatType_ : parseMethodDescriptor "(J)Lcom/example/bittern/bittern/volume/FatType;" = some ⟨[.long], some (.object "com/example/bittern/bittern/volume/FatType")⟩ := by decide +kernel
theorem pd__Lcom_example_bittern_bittern_volume_FatType__I : parseMethodDescriptor "(Lcom/example/bittern/bittern/volume/FatType;)I" = some ⟨[(.object "com/example/bittern/bittern/volume/FatType")], some .int⟩ := by decide +kernel
theorem pd__J_I : parseMethodDescriptor "(J)I" = some ⟨[.long], some .int⟩ := by decide +kernel
def Q0 (Z : State)  (h0 : Heap) (n0 : Nat) (v : Option Value) (h : Heap) (L : List Loc) : Prop := v = some (.int (1 : Int32)) ∧ Fr n0 L
set_option maxRecDepth 65536 in
set_option maxHeartbeats 40000000 in
theorem rm0 (l : Launch) (Z : State) (a0 : Array Value) (hw : ∀ d ∈ tables_1, d.before a0 Z = true) (ws : List Jvm.Cond) (q1 : Int64) (q2 : Int64) (p3 : Int32) (s1 s2 s3 : Addr) (h0 : Heap) (n0 : Nat) (Z0 : n0 ≤ h0.size) (S_FAT12 : Sta Z h0 "com/example/bittern/bittern/volume/FatType" "FAT12" "Lcom/example/bittern/bittern/volume/FatType;" (.ref s1)) (S_FAT16 : Sta Z h0 "com/example/bittern/bittern/volume/FatType" "FAT16" "Lcom/example/bittern/bittern/volume/FatType;" (.ref s2)) (S_FAT32 : Sta Z h0 "com/example/bittern/bittern/volume/FatType" "FAT32" "Lcom/example/bittern/bittern/volume/FatType;" (.ref s3)) (ne_12 : s1 ≠ s2) (ne_13 : s1 ≠ s3) (ne_23 : s2 ≠ s3) :
    MetFree l x (head1 (Jvm.Cond.code x code maxLocals ret :: ws) room_1) (fun a U => a = #[(.long q1), (.long q2), (.int p3)] ∧ Z.Warmed39 U.vm ∧ U.heap = h0) (fun _ _ _ _ _ => True) (fun _ U o U' => ∃ v L, o = .returned v ∧ Q0 Z  h0 n0 v U'.heap L ∧ FrameEnd U o U' L 0 0) := by
  refine MetFree.of_bodySF (plainFor_of_name pn_com_example_bittern_bittern_volume_FatTypeOfClusterCountPinLaw) hisR ?_
  intro p e s m args below meth c s₁ Bd hml0 hP hK
  obtain ⟨rfl, hZ, hh⟩ := hP
  have hx := Bd.exec
  have hby := Bd.bytes
  have hlk := BodyLoose.notSynchronized Bd
  have hml : c.maxLocals = 13 := hml0
  have hown : s.vm.findClass "com/example/bittern/bittern/volume/FatTypeOfClusterCountPinLaw" = some m.cls := findClass_of_methodNamed Bd.named
  have hnm := (name_of_methodNamed Bd.named Bd.method).1
  have X0 : Stand p l e room_1 s m #[(.long q1), (.long q2), (.int p3)] below meth c s₁ [] 0 0 := Stand.of_body Bd
  have e0 : s₁.heap = h0 := by rw [← hh, Bd.state]; rfl
  have N0 := Fr.nil n0
  refine OwnR.of (s := s) (Q := Q0 Z  h0 n0) (fun t k => castTop (ef_rm0 m q1 q2 p3) k) ?_
  show OwnR _ _ _ _ _ _ _ (s₁.setTop (mkF m 0 #[.val (.long q1), .second, .val (.long q2), .second, .val (.int p3), .unset, .unset, .unset, .unset, .unset, .unset, .unset, .unset] []))
  refine OwnR.of (X0.ldc2Long hx hown (mvT hZ (hw _ (List.mem_of_getElem? (i := 0) rfl))) (g := (mkF m 0 #[.val (.long q1), .second, .val (.long q2), .second, .val (.int p3), .unset, .unset, .unset, .unset, .unset, .unset, .unset, .unset] [])) rfl (hb hby at_0)) ?_
  show OwnR _ _ _ _ _ _ _ (s₁.setTop (mkF m 3 #[.val (.long q1), .second, .val (.long q2), .second, .val (.int p3), .unset, .unset, .unset, .unset, .unset, .unset, .unset, .unset] [(.long (4085 : Int64))]))
  refine OwnR.of (fun _ hr => XS.iload X0.here hx rfl (hb hby at_3) rfl hr) ?_
  show OwnR _ _ _ _ _ _ _ (s₁.setTop (mkF m 5 #[.val (.long q1), .second, .val (.long q2), .second, .val (.int p3), .unset, .unset, .unset, .unset, .unset, .unset, .unset, .unset] [(.int p3), (.long (4085 : Int64))]))
  refine OwnR.of (fun _ hr => XS.iconst X0.here hx rfl (hb hby at_5) hr) ?_
  show OwnR _ _ _ _ _ _ _ (s₁.setTop (mkF m 6 #[.val (.long q1), .second, .val (.long q2), .second, .val (.int p3), .unset, .unset, .unset, .unset, .unset, .unset, .unset, .unset] [(.int (4 : Int32)), (.int p3), (.long (4085 : Int64))]))
  refine OwnR.of (fun _ hr => iremM X0 hx rfl (hb hby at_6) rfl (by decide) hr) ?_
  show OwnR _ _ _ _ _ _ _ (s₁.setTop (mkF m 7 #[.val (.long q1), .second, .val (.long q2), .second, .val (.int p3), .unset, .unset, .unset, .unset, .unset, .unset, .unset, .unset] [(.int (p3 % (4 : Int32))), (.long (4085 : Int64))]))
  refine OwnR.of (fun _ hr => XS.i2l X0.here hx rfl (hb hby at_7) rfl hr) ?_
  show OwnR _ _ _ _ _ _ _ (s₁.setTop (mkF m 8 #[.val (.long q1), .second, .val (.long q2), .second, .val (.int p3), .unset, .unset, .unset, .unset, .unset, .unset, .unset, .unset] [(.long ((p3 % (4 : Int32)).toInt64)), (.long (4085 : Int64))]))
  refine OwnR.of (fun _ hr => XS.ladd X0.here hx rfl (hb hby at_8) rfl hr) ?_
  show OwnR _ _ _ _ _ _ _ (s₁.setTop (mkF m 9 #[.val (.long q1), .second, .val (.long q2), .second, .val (.int p3), .unset, .unset, .unset, .unset, .unset, .unset, .unset, .unset] [(.long ((4085 : Int64) + ((p3 % (4 : Int32)).toInt64)))]))
  refine OwnR.of (fun _ hr => XS.lstore X0.here hx rfl (hb hby at_9) rfl (l' := #[.val (.long q1), .second, .val (.long q2), .second, .val (.int p3), .val (.long ((4085 : Int64) + ((p3 % (4 : Int32)).toInt64))), .second, .unset, .unset, .unset, .unset, .unset, .unset]) rfl hr) ?_
  show OwnR _ _ _ _ _ _ _ (s₁.setTop (mkF m 11 #[.val (.long q1), .second, .val (.long q2), .second, .val (.int p3), .val (.long ((4085 : Int64) + ((p3 % (4 : Int32)).toInt64))), .second, .unset, .unset, .unset, .unset, .unset, .unset] []))
  refine OwnR.of (X0.ldc2Long hx hown (mvT hZ (hw _ (List.mem_of_getElem? (i := 1) rfl))) (g := (mkF m 11 #[.val (.long q1), .second, .val (.long q2), .second, .val (.int p3), .val (.long ((4085 : Int64) + ((p3 % (4 : Int32)).toInt64))), .second, .unset, .unset, .unset, .unset, .unset, .unset] [])) rfl (hb hby at_11)) ?_
  show OwnR _ _ _ _ _ _ _ (s₁.setTop (mkF m 14 #[.val (.long q1), .second, .val (.long q2), .second, .val (.int p3), .val (.long ((4085 : Int64) + ((p3 % (4 : Int32)).toInt64))), .second, .unset, .unset, .unset, .unset, .unset, .unset] [(.long (65525 : Int64))]))
  refine OwnR.of (fun _ hr => XS.iload X0.here hx rfl (hb hby at_14) rfl hr) ?_
  show OwnR _ _ _ _ _ _ _ (s₁.setTop (mkF m 16 #[.val (.long q1), .second, .val (.long q2), .second, .val (.int p3), .val (.long ((4085 : Int64) + ((p3 % (4 : Int32)).toInt64))), .second, .unset, .unset, .unset, .unset, .unset, .unset] [(.int p3), (.long (65525 : Int64))]))
  refine OwnR.of (fun _ hr => XS.bipush X0.here hx rfl (hb hby at_16) hr) ?_
  show OwnR _ _ _ _ _ _ _ (s₁.setTop (mkF m 18 #[.val (.long q1), .second, .val (.long q2), .second, .val (.int p3), .val (.long ((4085 : Int64) + ((p3 % (4 : Int32)).toInt64))), .second, .unset, .unset, .unset, .unset, .unset, .unset] [(.int (8 : Int32)), (.int p3), (.long (65525 : Int64))]))
  refine OwnR.of (fun _ hr => XS.ishr X0.here hx rfl (hb hby at_18) rfl hr) ?_
  show OwnR _ _ _ _ _ _ _ (s₁.setTop (mkF m 19 #[.val (.long q1), .second, .val (.long q2), .second, .val (.int p3), .val (.long ((4085 : Int64) + ((p3 % (4 : Int32)).toInt64))), .second, .unset, .unset, .unset, .unset, .unset, .unset] [(.int (p3 >>> ((8 : Int32) &&& 31))), (.long (65525 : Int64))]))
  refine OwnR.of (fun _ hr => XS.iconst X0.here hx rfl (hb hby at_19) hr) ?_
  show OwnR _ _ _ _ _ _ _ (s₁.setTop (mkF m 20 #[.val (.long q1), .second, .val (.long q2), .second, .val (.int p3), .val (.long ((4085 : Int64) + ((p3 % (4 : Int32)).toInt64))), .second, .unset, .unset, .unset, .unset, .unset, .unset] [(.int (4 : Int32)), (.int (p3 >>> ((8 : Int32) &&& 31))), (.long (65525 : Int64))]))
  refine OwnR.of (fun _ hr => iremM X0 hx rfl (hb hby at_20) rfl (by decide) hr) ?_
  show OwnR _ _ _ _ _ _ _ (s₁.setTop (mkF m 21 #[.val (.long q1), .second, .val (.long q2), .second, .val (.int p3), .val (.long ((4085 : Int64) + ((p3 % (4 : Int32)).toInt64))), .second, .unset, .unset, .unset, .unset, .unset, .unset] [(.int ((p3 >>> ((8 : Int32) &&& 31)) % (4 : Int32))), (.long (65525 : Int64))]))
  refine OwnR.of (fun _ hr => XS.i2l X0.here hx rfl (hb hby at_21) rfl hr) ?_
  show OwnR _ _ _ _ _ _ _ (s₁.setTop (mkF m 22 #[.val (.long q1), .second, .val (.long q2), .second, .val (.int p3), .val (.long ((4085 : Int64) + ((p3 % (4 : Int32)).toInt64))), .second, .unset, .unset, .unset, .unset, .unset, .unset] [(.long (((p3 >>> ((8 : Int32) &&& 31)) % (4 : Int32)).toInt64)), (.long (65525 : Int64))]))
  refine OwnR.of (fun _ hr => XS.ladd X0.here hx rfl (hb hby at_22) rfl hr) ?_
  show OwnR _ _ _ _ _ _ _ (s₁.setTop (mkF m 23 #[.val (.long q1), .second, .val (.long q2), .second, .val (.int p3), .val (.long ((4085 : Int64) + ((p3 % (4 : Int32)).toInt64))), .second, .unset, .unset, .unset, .unset, .unset, .unset] [(.long ((65525 : Int64) + (((p3 >>> ((8 : Int32) &&& 31)) % (4 : Int32)).toInt64)))]))
  refine OwnR.of (fun _ hr => XS.lstore X0.here hx rfl (hb hby at_23) rfl (l' := #[.val (.long q1), .second, .val (.long q2), .second, .val (.int p3), .val (.long ((4085 : Int64) + ((p3 % (4 : Int32)).toInt64))), .second, .val (.long ((65525 : Int64) + (((p3 >>> ((8 : Int32) &&& 31)) % (4 : Int32)).toInt64))), .second, .unset, .unset, .unset, .unset]) rfl hr) ?_
  show OwnR _ _ _ _ _ _ _ (s₁.setTop (mkF m 25 #[.val (.long q1), .second, .val (.long q2), .second, .val (.int p3), .val (.long ((4085 : Int64) + ((p3 % (4 : Int32)).toInt64))), .second, .val (.long ((65525 : Int64) + (((p3 >>> ((8 : Int32) &&& 31)) % (4 : Int32)).toInt64))), .second, .unset, .unset, .unset, .unset] []))
  refine OwnR.of (fun _ hr => XS.lloadN X0.here hx rfl (hb hby at_25) rfl hr) ?_
  show OwnR _ _ _ _ _ _ _ (s₁.setTop (mkF m 26 #[.val (.long q1), .second, .val (.long q2), .second, .val (.int p3), .val (.long ((4085 : Int64) + ((p3 % (4 : Int32)).toInt64))), .second, .val (.long ((65525 : Int64) + (((p3 >>> ((8 : Int32) &&& 31)) % (4 : Int32)).toInt64))), .second, .unset, .unset, .unset, .unset] [(.long q1)]))
  obtain ⟨_, _, ⟨T1, L1, kc1, ns1⟩, -, X1, ⟨Lc1, hQ1, l1, y1, z1⟩, st1⟩ := Jvm.LawKit.callS X0 hx (y := (⟨"com/example/bittern/bittern/volume/FatType", "ofClusterCount", "(J)Lcom/example/bittern/bittern/volume/FatType;"⟩ : MethodName)) hown (mvT hZ (hw _ (List.mem_of_getElem? (i := 2) rfl))) (mvT hZ (hw _ (List.mem_of_getElem? (i := 3) rfl))) (mvT hZ (hw _ (List.mem_of_getElem? (i := 4) rfl))) (mvT hZ (hw _ (List.mem_of_getElem? (i := 5) rfl))) (by decide) (backOf (W := 0) (rm1 l Z a0 hw [] q1 s1 s2 s3 h0 n0 (Nat.le_trans Z0 (Keep.refl h0 []).1) S_FAT12 S_FAT16 S_FAT32) hZ (hw _ (List.mem_of_getElem? (i := 5) rfl)) (hw _ (List.mem_of_getElem? (i := 4) rfl)) (by decide) (by decide)) (g := (mkF m 26 #[.val (.long q1), .second, .val (.long q2), .second, .val (.int p3), .val (.long ((4085 : Int64) + ((p3 % (4 : Int32)).toInt64))), .second, .val (.long ((65525 : Int64) + (((p3 >>> ((8 : Int32) &&& 31)) % (4 : Int32)).toInt64))), .second, .unset, .unset, .unset, .unset] [(.long q1)])) rfl (by rw [hml]; rfl) (argsL := [(.long q1)]) (rest := []) (lenOf pd__J_Lcom_example_bittern_bittern_volume_FatType_ rfl) rfl (by show 2 * 0 + _ ≤ _; exact Nat.le_of_eq rfl) (hb hby at_26) (fun _ _ => ⟨rfl, e0, (by decide : 0 + 0 ≤ _), (by decide : 0 + 0 ≤ _)⟩)
  dsimp only [Pt.U, Pt.locs, Pt.cells, Pt.slots] at X1 l1 y1 z1 st1 hQ1
  subst l1 y1 z1
  obtain ⟨rfl, N1q, e1⟩ := hQ1
  have N1 := Fr.app N0 N1q
  refine OwnR.of (st1) ?_
  show OwnR _ _ _ _ _ _ _ (T1.setTop (mkF m 29 #[.val (.long q1), .second, .val (.long q2), .second, .val (.int p3), .val (.long ((4085 : Int64) + ((p3 % (4 : Int32)).toInt64))), .second, .val (.long ((65525 : Int64) + (((p3 >>> ((8 : Int32) &&& 31)) % (4 : Int32)).toInt64))), .second, .unset, .unset, .unset, .unset] [(.ref (own_of q1 s1 s2 s3))]))
  obtain ⟨_, _, ⟨T2, L2, kc2, ns2⟩, -, X2, ⟨Lc2, hQ2, l2, y2, z2⟩, st2⟩ := Jvm.LawKit.callS X1 hx (y := (⟨"com/example/bittern/bittern/volume/FatTypeOfClusterCountPinLaw", "rank", "(Lcom/example/bittern/bittern/volume/FatType;)I"⟩ : MethodName)) hown (mvT hZ (hw _ (List.mem_of_getElem? (i := 9) rfl))) (mvT hZ (hw _ (List.mem_of_getElem? (i := 10) rfl))) (mvT hZ (hw _ (List.mem_of_getElem? (i := 11) rfl))) (mvT hZ (hw _ (List.mem_of_getElem? (i := 12) rfl))) (by decide) (backOf (W := 0) (rm2 l Z a0 hw [] (own_of q1 s1 s2 s3) s1 s2 s3 h0 n0 (Nat.le_trans Z0 (Keep.refl h0 []).1) S_FAT12 S_FAT16 S_FAT32) hZ (hw _ (List.mem_of_getElem? (i := 12) rfl)) (hw _ (List.mem_of_getElem? (i := 11) rfl)) (by decide) (by decide)) (g := (mkF m 29 #[.val (.long q1), .second, .val (.long q2), .second, .val (.int p3), .val (.long ((4085 : Int64) + ((p3 % (4 : Int32)).toInt64))), .second, .val (.long ((65525 : Int64) + (((p3 >>> ((8 : Int32) &&& 31)) % (4 : Int32)).toInt64))), .second, .unset, .unset, .unset, .unset] [(.ref (own_of q1 s1 s2 s3))])) rfl (by rw [hml]; rfl) (argsL := [(.ref (own_of q1 s1 s2 s3))]) (rest := []) (lenOf pd__Lcom_example_bittern_bittern_volume_FatType__I rfl) rfl (by show 2 * 0 + _ ≤ _; exact Nat.le_of_eq rfl) (hb hby at_29) (fun _ _ => ⟨rfl, e1, (by decide : 0 + 0 ≤ _), (by decide : 0 + 0 ≤ _)⟩)
  dsimp only [Pt.U, Pt.locs, Pt.cells, Pt.slots] at X2 l2 y2 z2 st2 hQ2
  subst l2 y2 z2
  obtain ⟨rfl, N2q, e2⟩ := hQ2
  have N2 := Fr.app N1 N2q
  refine OwnR.of (st2) ?_
  show OwnR _ _ _ _ _ _ _ (T2.setTop (mkF m 32 #[.val (.long q1), .second, .val (.long q2), .second, .val (.int p3), .val (.long ((4085 : Int64) + ((p3 % (4 : Int32)).toInt64))), .second, .val (.long ((65525 : Int64) + (((p3 >>> ((8 : Int32) &&& 31)) % (4 : Int32)).toInt64))), .second, .unset, .unset, .unset, .unset] [(.int (own_rank (own_of q1 s1 s2 s3) s1 s2 s3))]))
  refine OwnR.of (fun _ hr => XS.istore X2.here hx rfl (hb hby at_32) rfl (l' := #[.val (.long q1), .second, .val (.long q2), .second, .val (.int p3), .val (.long ((4085 : Int64) + ((p3 % (4 : Int32)).toInt64))), .second, .val (.long ((65525 : Int64) + (((p3 >>> ((8 : Int32) &&& 31)) % (4 : Int32)).toInt64))), .second, .val (.int (own_rank (own_of q1 s1 s2 s3) s1 s2 s3)), .unset, .unset, .unset]) rfl hr) ?_
  show OwnR _ _ _ _ _ _ _ (T2.setTop (mkF m 34 #[.val (.long q1), .second, .val (.long q2), .second, .val (.int p3), .val (.long ((4085 : Int64) + ((p3 % (4 : Int32)).toInt64))), .second, .val (.long ((65525 : Int64) + (((p3 >>> ((8 : Int32) &&& 31)) % (4 : Int32)).toInt64))), .second, .val (.int (own_rank (own_of q1 s1 s2 s3) s1 s2 s3)), .unset, .unset, .unset] []))
  refine OwnR.of (fun _ hr => XS.lloadN X2.here hx rfl (hb hby at_34) rfl hr) ?_
  show OwnR _ _ _ _ _ _ _ (T2.setTop (mkF m 35 #[.val (.long q1), .second, .val (.long q2), .second, .val (.int p3), .val (.long ((4085 : Int64) + ((p3 % (4 : Int32)).toInt64))), .second, .val (.long ((65525 : Int64) + (((p3 >>> ((8 : Int32) &&& 31)) % (4 : Int32)).toInt64))), .second, .val (.int (own_rank (own_of q1 s1 s2 s3) s1 s2 s3)), .unset, .unset, .unset] [(.long q2)]))
  obtain ⟨_, _, ⟨T3, L3, kc3, ns3⟩, -, X3, ⟨Lc3, hQ3, l3, y3, z3⟩, st3⟩ := Jvm.LawKit.callS X2 hx (y := (⟨"com/example/bittern/bittern/volume/FatType", "ofClusterCount", "(J)Lcom/example/bittern/bittern/volume/FatType;"⟩ : MethodName)) hown (mvT hZ (hw _ (List.mem_of_getElem? (i := 2) rfl))) (mvT hZ (hw _ (List.mem_of_getElem? (i := 3) rfl))) (mvT hZ (hw _ (List.mem_of_getElem? (i := 4) rfl))) (mvT hZ (hw _ (List.mem_of_getElem? (i := 5) rfl))) (by decide) (backOf (W := 0) (rm1 l Z a0 hw [] q2 s1 s2 s3 h0 n0 (Nat.le_trans Z0 (Keep.refl h0 []).1) S_FAT12 S_FAT16 S_FAT32) hZ (hw _ (List.mem_of_getElem? (i := 5) rfl)) (hw _ (List.mem_of_getElem? (i := 4) rfl)) (by decide) (by decide)) (g := (mkF m 35 #[.val (.long q1), .second, .val (.long q2), .second, .val (.int p3), .val (.long ((4085 : Int64) + ((p3 % (4 : Int32)).toInt64))), .second, .val (.long ((65525 : Int64) + (((p3 >>> ((8 : Int32) &&& 31)) % (4 : Int32)).toInt64))), .second, .val (.int (own_rank (own_of q1 s1 s2 s3) s1 s2 s3)), .unset, .unset, .unset] [(.long q2)])) rfl (by rw [hml]; rfl) (argsL := [(.long q2)]) (rest := []) (lenOf pd__J_Lcom_example_bittern_bittern_volume_FatType_ rfl) rfl (by show 2 * 0 + _ ≤ _; exact Nat.le_of_eq rfl) (hb hby at_35) (fun _ _ => ⟨rfl, e2, (by decide : 0 + 0 ≤ _), (by decide : 0 + 0 ≤ _)⟩)
  dsimp only [Pt.U, Pt.locs, Pt.cells, Pt.slots] at X3 l3 y3 z3 st3 hQ3
  subst l3 y3 z3
  obtain ⟨rfl, N3q, e3⟩ := hQ3
  have N3 := Fr.app N2 N3q
  refine OwnR.of (st3) ?_
  show OwnR _ _ _ _ _ _ _ (T3.setTop (mkF m 38 #[.val (.long q1), .second, .val (.long q2), .second, .val (.int p3), .val (.long ((4085 : Int64) + ((p3 % (4 : Int32)).toInt64))), .second, .val (.long ((65525 : Int64) + (((p3 >>> ((8 : Int32) &&& 31)) % (4 : Int32)).toInt64))), .second, .val (.int (own_rank (own_of q1 s1 s2 s3) s1 s2 s3)), .unset, .unset, .unset] [(.ref (own_of q2 s1 s2 s3))]))
  obtain ⟨_, _, ⟨T4, L4, kc4, ns4⟩, -, X4, ⟨Lc4, hQ4, l4, y4, z4⟩, st4⟩ := Jvm.LawKit.callS X3 hx (y := (⟨"com/example/bittern/bittern/volume/FatTypeOfClusterCountPinLaw", "rank", "(Lcom/example/bittern/bittern/volume/FatType;)I"⟩ : MethodName)) hown (mvT hZ (hw _ (List.mem_of_getElem? (i := 9) rfl))) (mvT hZ (hw _ (List.mem_of_getElem? (i := 10) rfl))) (mvT hZ (hw _ (List.mem_of_getElem? (i := 11) rfl))) (mvT hZ (hw _ (List.mem_of_getElem? (i := 12) rfl))) (by decide) (backOf (W := 0) (rm2 l Z a0 hw [] (own_of q2 s1 s2 s3) s1 s2 s3 h0 n0 (Nat.le_trans Z0 (Keep.refl h0 []).1) S_FAT12 S_FAT16 S_FAT32) hZ (hw _ (List.mem_of_getElem? (i := 12) rfl)) (hw _ (List.mem_of_getElem? (i := 11) rfl)) (by decide) (by decide)) (g := (mkF m 38 #[.val (.long q1), .second, .val (.long q2), .second, .val (.int p3), .val (.long ((4085 : Int64) + ((p3 % (4 : Int32)).toInt64))), .second, .val (.long ((65525 : Int64) + (((p3 >>> ((8 : Int32) &&& 31)) % (4 : Int32)).toInt64))), .second, .val (.int (own_rank (own_of q1 s1 s2 s3) s1 s2 s3)), .unset, .unset, .unset] [(.ref (own_of q2 s1 s2 s3))])) rfl (by rw [hml]; rfl) (argsL := [(.ref (own_of q2 s1 s2 s3))]) (rest := []) (lenOf pd__Lcom_example_bittern_bittern_volume_FatType__I rfl) rfl (by show 2 * 0 + _ ≤ _; exact Nat.le_of_eq rfl) (hb hby at_38) (fun _ _ => ⟨rfl, e3, (by decide : 0 + 0 ≤ _), (by decide : 0 + 0 ≤ _)⟩)
  dsimp only [Pt.U, Pt.locs, Pt.cells, Pt.slots] at X4 l4 y4 z4 st4 hQ4
  subst l4 y4 z4
  obtain ⟨rfl, N4q, e4⟩ := hQ4
  have N4 := Fr.app N3 N4q
  refine OwnR.of (st4) ?_
  show OwnR _ _ _ _ _ _ _ (T4.setTop (mkF m 41 #[.val (.long q1), .second, .val (.long q2), .second, .val (.int p3), .val (.long ((4085 : Int64) + ((p3 % (4 : Int32)).toInt64))), .second, .val (.long ((65525 : Int64) + (((p3 >>> ((8 : Int32) &&& 31)) % (4 : Int32)).toInt64))), .second, .val (.int (own_rank (own_of q1 s1 s2 s3) s1 s2 s3)), .unset, .unset, .unset] [(.int (own_rank (own_of q2 s1 s2 s3) s1 s2 s3))]))
  refine OwnR.of (fun _ hr => XS.istore X4.here hx rfl (hb hby at_41) rfl (l' := #[.val (.long q1), .second, .val (.long q2), .second, .val (.int p3), .val (.long ((4085 : Int64) + ((p3 % (4 : Int32)).toInt64))), .second, .val (.long ((65525 : Int64) + (((p3 >>> ((8 : Int32) &&& 31)) % (4 : Int32)).toInt64))), .second, .val (.int (own_rank (own_of q1 s1 s2 s3) s1 s2 s3)), .val (.int (own_rank (own_of q2 s1 s2 s3) s1 s2 s3)), .unset, .unset]) rfl hr) ?_
  show OwnR _ _ _ _ _ _ _ (T4.setTop (mkF m 43 #[.val (.long q1), .second, .val (.long q2), .second, .val (.int p3), .val (.long ((4085 : Int64) + ((p3 % (4 : Int32)).toInt64))), .second, .val (.long ((65525 : Int64) + (((p3 >>> ((8 : Int32) &&& 31)) % (4 : Int32)).toInt64))), .second, .val (.int (own_rank (own_of q1 s1 s2 s3) s1 s2 s3)), .val (.int (own_rank (own_of q2 s1 s2 s3) s1 s2 s3)), .unset, .unset] []))
  refine OwnR.of (fun _ hr => XS.lload X4.here hx rfl (hb hby at_43) rfl hr) ?_
  show OwnR _ _ _ _ _ _ _ (T4.setTop (mkF m 45 #[.val (.long q1), .second, .val (.long q2), .second, .val (.int p3), .val (.long ((4085 : Int64) + ((p3 % (4 : Int32)).toInt64))), .second, .val (.long ((65525 : Int64) + (((p3 >>> ((8 : Int32) &&& 31)) % (4 : Int32)).toInt64))), .second, .val (.int (own_rank (own_of q1 s1 s2 s3) s1 s2 s3)), .val (.int (own_rank (own_of q2 s1 s2 s3) s1 s2 s3)), .unset, .unset] [(.long ((4085 : Int64) + ((p3 % (4 : Int32)).toInt64)))]))
  obtain ⟨_, _, ⟨T5, L5, kc5, ns5⟩, -, X5, ⟨Lc5, hQ5, l5, y5, z5⟩, st5⟩ := Jvm.LawKit.callS X4 hx (y := (⟨"com/example/bittern/bittern/volume/FatType", "ofClusterCount", "(J)Lcom/example/bittern/bittern/volume/FatType;"⟩ : MethodName)) hown (mvT hZ (hw _ (List.mem_of_getElem? (i := 2) rfl))) (mvT hZ (hw _ (List.mem_of_getElem? (i := 3) rfl))) (mvT hZ (hw _ (List.mem_of_getElem? (i := 4) rfl))) (mvT hZ (hw _ (List.mem_of_getElem? (i := 5) rfl))) (by decide) (backOf (W := 0) (rm1 l Z a0 hw [] ((4085 : Int64) + ((p3 % (4 : Int32)).toInt64)) s1 s2 s3 h0 n0 (Nat.le_trans Z0 (Keep.refl h0 []).1) S_FAT12 S_FAT16 S_FAT32) hZ (hw _ (List.mem_of_getElem? (i := 5) rfl)) (hw _ (List.mem_of_getElem? (i := 4) rfl)) (by decide) (by decide)) (g := (mkF m 45 #[.val (.long q1), .second, .val (.long q2), .second, .val (.int p3), .val (.long ((4085 : Int64) + ((p3 % (4 : Int32)).toInt64))), .second, .val (.long ((65525 : Int64) + (((p3 >>> ((8 : Int32) &&& 31)) % (4 : Int32)).toInt64))), .second, .val (.int (own_rank (own_of q1 s1 s2 s3) s1 s2 s3)), .val (.int (own_rank (own_of q2 s1 s2 s3) s1 s2 s3)), .unset, .unset] [(.long ((4085 : Int64) + ((p3 % (4 : Int32)).toInt64)))])) rfl (by rw [hml]; rfl) (argsL := [(.long ((4085 : Int64) + ((p3 % (4 : Int32)).toInt64)))]) (rest := []) (lenOf pd__J_Lcom_example_bittern_bittern_volume_FatType_ rfl) rfl (by show 2 * 0 + _ ≤ _; exact Nat.le_of_eq rfl) (hb hby at_45) (fun _ _ => ⟨rfl, e4, (by decide : 0 + 0 ≤ _), (by decide : 0 + 0 ≤ _)⟩)
  dsimp only [Pt.U, Pt.locs, Pt.cells, Pt.slots] at X5 l5 y5 z5 st5 hQ5
  subst l5 y5 z5
  obtain ⟨rfl, N5q, e5⟩ := hQ5
  have N5 := Fr.app N4 N5q
  refine OwnR.of (st5) ?_
  show OwnR _ _ _ _ _ _ _ (T5.setTop (mkF m 48 #[.val (.long q1), .second, .val (.long q2), .second, .val (.int p3), .val (.long ((4085 : Int64) + ((p3 % (4 : Int32)).toInt64))), .second, .val (.long ((65525 : Int64) + (((p3 >>> ((8 : Int32) &&& 31)) % (4 : Int32)).toInt64))), .second, .val (.int (own_rank (own_of q1 s1 s2 s3) s1 s2 s3)), .val (.int (own_rank (own_of q2 s1 s2 s3) s1 s2 s3)), .unset, .unset] [(.ref (own_of ((4085 : Int64) + ((p3 % (4 : Int32)).toInt64)) s1 s2 s3))]))
  obtain ⟨_, _, ⟨T6, L6, kc6, ns6⟩, -, X6, ⟨Lc6, hQ6, l6, y6, z6⟩, st6⟩ := Jvm.LawKit.callS X5 hx (y := (⟨"com/example/bittern/bittern/volume/FatTypeOfClusterCountPinLaw", "rank", "(Lcom/example/bittern/bittern/volume/FatType;)I"⟩ : MethodName)) hown (mvT hZ (hw _ (List.mem_of_getElem? (i := 9) rfl))) (mvT hZ (hw _ (List.mem_of_getElem? (i := 10) rfl))) (mvT hZ (hw _ (List.mem_of_getElem? (i := 11) rfl))) (mvT hZ (hw _ (List.mem_of_getElem? (i := 12) rfl))) (by decide) (backOf (W := 0) (rm2 l Z a0 hw [] (own_of ((4085 : Int64) + ((p3 % (4 : Int32)).toInt64)) s1 s2 s3) s1 s2 s3 h0 n0 (Nat.le_trans Z0 (Keep.refl h0 []).1) S_FAT12 S_FAT16 S_FAT32) hZ (hw _ (List.mem_of_getElem? (i := 12) rfl)) (hw _ (List.mem_of_getElem? (i := 11) rfl)) (by decide) (by decide)) (g := (mkF m 48 #[.val (.long q1), .second, .val (.long q2), .second, .val (.int p3), .val (.long ((4085 : Int64) + ((p3 % (4 : Int32)).toInt64))), .second, .val (.long ((65525 : Int64) + (((p3 >>> ((8 : Int32) &&& 31)) % (4 : Int32)).toInt64))), .second, .val (.int (own_rank (own_of q1 s1 s2 s3) s1 s2 s3)), .val (.int (own_rank (own_of q2 s1 s2 s3) s1 s2 s3)), .unset, .unset] [(.ref (own_of ((4085 : Int64) + ((p3 % (4 : Int32)).toInt64)) s1 s2 s3))])) rfl (by rw [hml]; rfl) (argsL := [(.ref (own_of ((4085 : Int64) + ((p3 % (4 : Int32)).toInt64)) s1 s2 s3))]) (rest := []) (lenOf pd__Lcom_example_bittern_bittern_volume_FatType__I rfl) rfl (by show 2 * 0 + _ ≤ _; exact Nat.le_of_eq rfl) (hb hby at_48) (fun _ _ => ⟨rfl, e5, (by decide : 0 + 0 ≤ _), (by decide : 0 + 0 ≤ _)⟩)
  dsimp only [Pt.U, Pt.locs, Pt.cells, Pt.slots] at X6 l6 y6 z6 st6 hQ6
  subst l6 y6 z6
  obtain ⟨rfl, N6q, e6⟩ := hQ6
  have N6 := Fr.app N5 N6q
  refine OwnR.of (st6) ?_
  show OwnR _ _ _ _ _ _ _ (T6.setTop (mkF m 51 #[.val (.long q1), .second, .val (.long q2), .second, .val (.int p3), .val (.long ((4085 : Int64) + ((p3 % (4 : Int32)).toInt64))), .second, .val (.long ((65525 : Int64) + (((p3 >>> ((8 : Int32) &&& 31)) % (4 : Int32)).toInt64))), .second, .val (.int (own_rank (own_of q1 s1 s2 s3) s1 s2 s3)), .val (.int (own_rank (own_of q2 s1 s2 s3) s1 s2 s3)), .unset, .unset] [(.int (own_rank (own_of ((4085 : Int64) + ((p3 % (4 : Int32)).toInt64)) s1 s2 s3) s1 s2 s3))]))
  refine OwnR.of (fun _ hr => XS.istore X6.here hx rfl (hb hby at_51) rfl (l' := #[.val (.long q1), .second, .val (.long q2), .second, .val (.int p3), .val (.long ((4085 : Int64) + ((p3 % (4 : Int32)).toInt64))), .second, .val (.long ((65525 : Int64) + (((p3 >>> ((8 : Int32) &&& 31)) % (4 : Int32)).toInt64))), .second, .val (.int (own_rank (own_of q1 s1 s2 s3) s1 s2 s3)), .val (.int (own_rank (own_of q2 s1 s2 s3) s1 s2 s3)), .val (.int (own_rank (own_of ((4085 : Int64) + ((p3 % (4 : Int32)).toInt64)) s1 s2 s3) s1 s2 s3)), .unset]) rfl hr) ?_
  show OwnR _ _ _ _ _ _ _ (T6.setTop (mkF m 53 #[.val (.long q1), .second, .val (.long q2), .second, .val (.int p3), .val (.long ((4085 : Int64) + ((p3 % (4 : Int32)).toInt64))), .second, .val (.long ((65525 : Int64) + (((p3 >>> ((8 : Int32) &&& 31)) % (4 : Int32)).toInt64))), .second, .val (.int (own_rank (own_of q1 s1 s2 s3) s1 s2 s3)), .val (.int (own_rank (own_of q2 s1 s2 s3) s1 s2 s3)), .val (.int (own_rank (own_of ((4085 : Int64) + ((p3 % (4 : Int32)).toInt64)) s1 s2 s3) s1 s2 s3)), .unset] []))
  refine OwnR.of (fun _ hr => XS.lload X6.here hx rfl (hb hby at_53) rfl hr) ?_
  show OwnR _ _ _ _ _ _ _ (T6.setTop (mkF m 55 #[.val (.long q1), .second, .val (.long q2), .second, .val (.int p3), .val (.long ((4085 : Int64) + ((p3 % (4 : Int32)).toInt64))), .second, .val (.long ((65525 : Int64) + (((p3 >>> ((8 : Int32) &&& 31)) % (4 : Int32)).toInt64))), .second, .val (.int (own_rank (own_of q1 s1 s2 s3) s1 s2 s3)), .val (.int (own_rank (own_of q2 s1 s2 s3) s1 s2 s3)), .val (.int (own_rank (own_of ((4085 : Int64) + ((p3 % (4 : Int32)).toInt64)) s1 s2 s3) s1 s2 s3)), .unset] [(.long ((65525 : Int64) + (((p3 >>> ((8 : Int32) &&& 31)) % (4 : Int32)).toInt64)))]))
  obtain ⟨_, _, ⟨T7, L7, kc7, ns7⟩, -, X7, ⟨Lc7, hQ7, l7, y7, z7⟩, st7⟩ := Jvm.LawKit.callS X6 hx (y := (⟨"com/example/bittern/bittern/volume/FatType", "ofClusterCount", "(J)Lcom/example/bittern/bittern/volume/FatType;"⟩ : MethodName)) hown (mvT hZ (hw _ (List.mem_of_getElem? (i := 2) rfl))) (mvT hZ (hw _ (List.mem_of_getElem? (i := 3) rfl))) (mvT hZ (hw _ (List.mem_of_getElem? (i := 4) rfl))) (mvT hZ (hw _ (List.mem_of_getElem? (i := 5) rfl))) (by decide) (backOf (W := 0) (rm1 l Z a0 hw [] ((65525 : Int64) + (((p3 >>> ((8 : Int32) &&& 31)) % (4 : Int32)).toInt64)) s1 s2 s3 h0 n0 (Nat.le_trans Z0 (Keep.refl h0 []).1) S_FAT12 S_FAT16 S_FAT32) hZ (hw _ (List.mem_of_getElem? (i := 5) rfl)) (hw _ (List.mem_of_getElem? (i := 4) rfl)) (by decide) (by decide)) (g := (mkF m 55 #[.val (.long q1), .second, .val (.long q2), .second, .val (.int p3), .val (.long ((4085 : Int64) + ((p3 % (4 : Int32)).toInt64))), .second, .val (.long ((65525 : Int64) + (((p3 >>> ((8 : Int32) &&& 31)) % (4 : Int32)).toInt64))), .second, .val (.int (own_rank (own_of q1 s1 s2 s3) s1 s2 s3)), .val (.int (own_rank (own_of q2 s1 s2 s3) s1 s2 s3)), .val (.int (own_rank (own_of ((4085 : Int64) + ((p3 % (4 : Int32)).toInt64)) s1 s2 s3) s1 s2 s3)), .unset] [(.long ((65525 : Int64) + (((p3 >>> ((8 : Int32) &&& 31)) % (4 : Int32)).toInt64)))])) rfl (by rw [hml]; rfl) (argsL := [(.long ((65525 : Int64) + (((p3 >>> ((8 : Int32) &&& 31)) % (4 : Int32)).toInt64)))]) (rest := []) (lenOf pd__J_Lcom_example_bittern_bittern_volume_FatType_ rfl) rfl (by show 2 * 0 + _ ≤ _; exact Nat.le_of_eq rfl) (hb hby at_55) (fun _ _ => ⟨rfl, e6, (by decide : 0 + 0 ≤ _), (by decide : 0 + 0 ≤ _)⟩)
  dsimp only [Pt.U, Pt.locs, Pt.cells, Pt.slots] at X7 l7 y7 z7 st7 hQ7
  subst l7 y7 z7
  obtain ⟨rfl, N7q, e7⟩ := hQ7
  have N7 := Fr.app N6 N7q
  refine OwnR.of (st7) ?_
  show OwnR _ _ _ _ _ _ _ (T7.setTop (mkF m 58 #[.val (.long q1), .second, .val (.long q2), .second, .val (.int p3), .val (.long ((4085 : Int64) + ((p3 % (4 : Int32)).toInt64))), .second, .val (.long ((65525 : Int64) + (((p3 >>> ((8 : Int32) &&& 31)) % (4 : Int32)).toInt64))), .second, .val (.int (own_rank (own_of q1 s1 s2 s3) s1 s2 s3)), .val (.int (own_rank (own_of q2 s1 s2 s3) s1 s2 s3)), .val (.int (own_rank (own_of ((4085 : Int64) + ((p3 % (4 : Int32)).toInt64)) s1 s2 s3) s1 s2 s3)), .unset] [(.ref (own_of ((65525 : Int64) + (((p3 >>> ((8 : Int32) &&& 31)) % (4 : Int32)).toInt64)) s1 s2 s3))]))
  obtain ⟨_, _, ⟨T8, L8, kc8, ns8⟩, -, X8, ⟨Lc8, hQ8, l8, y8, z8⟩, st8⟩ := Jvm.LawKit.callS X7 hx (y := (⟨"com/example/bittern/bittern/volume/FatTypeOfClusterCountPinLaw", "rank", "(Lcom/example/bittern/bittern/volume/FatType;)I"⟩ : MethodName)) hown (mvT hZ (hw _ (List.mem_of_getElem? (i := 9) rfl))) (mvT hZ (hw _ (List.mem_of_getElem? (i := 10) rfl))) (mvT hZ (hw _ (List.mem_of_getElem? (i := 11) rfl))) (mvT hZ (hw _ (List.mem_of_getElem? (i := 12) rfl))) (by decide) (backOf (W := 0) (rm2 l Z a0 hw [] (own_of ((65525 : Int64) + (((p3 >>> ((8 : Int32) &&& 31)) % (4 : Int32)).toInt64)) s1 s2 s3) s1 s2 s3 h0 n0 (Nat.le_trans Z0 (Keep.refl h0 []).1) S_FAT12 S_FAT16 S_FAT32) hZ (hw _ (List.mem_of_getElem? (i := 12) rfl)) (hw _ (List.mem_of_getElem? (i := 11) rfl)) (by decide) (by decide)) (g := (mkF m 58 #[.val (.long q1), .second, .val (.long q2), .second, .val (.int p3), .val (.long ((4085 : Int64) + ((p3 % (4 : Int32)).toInt64))), .second, .val (.long ((65525 : Int64) + (((p3 >>> ((8 : Int32) &&& 31)) % (4 : Int32)).toInt64))), .second, .val (.int (own_rank (own_of q1 s1 s2 s3) s1 s2 s3)), .val (.int (own_rank (own_of q2 s1 s2 s3) s1 s2 s3)), .val (.int (own_rank (own_of ((4085 : Int64) + ((p3 % (4 : Int32)).toInt64)) s1 s2 s3) s1 s2 s3)), .unset] [(.ref (own_of ((65525 : Int64) + (((p3 >>> ((8 : Int32) &&& 31)) % (4 : Int32)).toInt64)) s1 s2 s3))])) rfl (by rw [hml]; rfl) (argsL := [(.ref (own_of ((65525 : Int64) + (((p3 >>> ((8 : Int32) &&& 31)) % (4 : Int32)).toInt64)) s1 s2 s3))]) (rest := []) (lenOf pd__Lcom_example_bittern_bittern_volume_FatType__I rfl) rfl (by show 2 * 0 + _ ≤ _; exact Nat.le_of_eq rfl) (hb hby at_58) (fun _ _ => ⟨rfl, e7, (by decide : 0 + 0 ≤ _), (by decide : 0 + 0 ≤ _)⟩)
  dsimp only [Pt.U, Pt.locs, Pt.cells, Pt.slots] at X8 l8 y8 z8 st8 hQ8
  subst l8 y8 z8
  obtain ⟨rfl, N8q, e8⟩ := hQ8
  have N8 := Fr.app N7 N8q
  refine OwnR.of (st8) ?_
  show OwnR _ _ _ _ _ _ _ (T8.setTop (mkF m 61 #[.val (.long q1), .second, .val (.long q2), .second, .val (.int p3), .val (.long ((4085 : Int64) + ((p3 % (4 : Int32)).toInt64))), .second, .val (.long ((65525 : Int64) + (((p3 >>> ((8 : Int32) &&& 31)) % (4 : Int32)).toInt64))), .second, .val (.int (own_rank (own_of q1 s1 s2 s3) s1 s2 s3)), .val (.int (own_rank (own_of q2 s1 s2 s3) s1 s2 s3)), .val (.int (own_rank (own_of ((4085 : Int64) + ((p3 % (4 : Int32)).toInt64)) s1 s2 s3) s1 s2 s3)), .unset] [(.int (own_rank (own_of ((65525 : Int64) + (((p3 >>> ((8 : Int32) &&& 31)) % (4 : Int32)).toInt64)) s1 s2 s3) s1 s2 s3))]))
  refine OwnR.of (fun _ hr => XS.istore X8.here hx rfl (hb hby at_61) rfl (l' := #[.val (.long q1), .second, .val (.long q2), .second, .val (.int p3), .val (.long ((4085 : Int64) + ((p3 % (4 : Int32)).toInt64))), .second, .val (.long ((65525 : Int64) + (((p3 >>> ((8 : Int32) &&& 31)) % (4 : Int32)).toInt64))), .second, .val (.int (own_rank (own_of q1 s1 s2 s3) s1 s2 s3)), .val (.int (own_rank (own_of q2 s1 s2 s3) s1 s2 s3)), .val (.int (own_rank (own_of ((4085 : Int64) + ((p3 % (4 : Int32)).toInt64)) s1 s2 s3) s1 s2 s3)), .val (.int (own_rank (own_of ((65525 : Int64) + (((p3 >>> ((8 : Int32) &&& 31)) % (4 : Int32)).toInt64)) s1 s2 s3) s1 s2 s3))]) rfl hr) ?_
  show OwnR _ _ _ _ _ _ _ (T8.setTop (mkF m 63 #[.val (.long q1), .second, .val (.long q2), .second, .val (.int p3), .val (.long ((4085 : Int64) + ((p3 % (4 : Int32)).toInt64))), .second, .val (.long ((65525 : Int64) + (((p3 >>> ((8 : Int32) &&& 31)) % (4 : Int32)).toInt64))), .second, .val (.int (own_rank (own_of q1 s1 s2 s3) s1 s2 s3)), .val (.int (own_rank (own_of q2 s1 s2 s3) s1 s2 s3)), .val (.int (own_rank (own_of ((4085 : Int64) + ((p3 % (4 : Int32)).toInt64)) s1 s2 s3) s1 s2 s3)), .val (.int (own_rank (own_of ((65525 : Int64) + (((p3 >>> ((8 : Int32) &&& 31)) % (4 : Int32)).toInt64)) s1 s2 s3) s1 s2 s3))] []))
  refine OwnR.of (fun _ hr => XS.iload X8.here hx rfl (hb hby at_63) rfl hr) ?_
  show OwnR _ _ _ _ _ _ _ (T8.setTop (mkF m 65 #[.val (.long q1), .second, .val (.long q2), .second, .val (.int p3), .val (.long ((4085 : Int64) + ((p3 % (4 : Int32)).toInt64))), .second, .val (.long ((65525 : Int64) + (((p3 >>> ((8 : Int32) &&& 31)) % (4 : Int32)).toInt64))), .second, .val (.int (own_rank (own_of q1 s1 s2 s3) s1 s2 s3)), .val (.int (own_rank (own_of q2 s1 s2 s3) s1 s2 s3)), .val (.int (own_rank (own_of ((4085 : Int64) + ((p3 % (4 : Int32)).toInt64)) s1 s2 s3) s1 s2 s3)), .val (.int (own_rank (own_of ((65525 : Int64) + (((p3 >>> ((8 : Int32) &&& 31)) % (4 : Int32)).toInt64)) s1 s2 s3) s1 s2 s3))] [(.int (own_rank (own_of q1 s1 s2 s3) s1 s2 s3))]))
  refine OwnR.of (fun _ hr => XS.lloadN X8.here hx rfl (hb hby at_65) rfl hr) ?_
  show OwnR _ _ _ _ _ _ _ (T8.setTop (mkF m 66 #[.val (.long q1), .second, .val (.long q2), .second, .val (.int p3), .val (.long ((4085 : Int64) + ((p3 % (4 : Int32)).toInt64))), .second, .val (.long ((65525 : Int64) + (((p3 >>> ((8 : Int32) &&& 31)) % (4 : Int32)).toInt64))), .second, .val (.int (own_rank (own_of q1 s1 s2 s3) s1 s2 s3)), .val (.int (own_rank (own_of q2 s1 s2 s3) s1 s2 s3)), .val (.int (own_rank (own_of ((4085 : Int64) + ((p3 % (4 : Int32)).toInt64)) s1 s2 s3) s1 s2 s3)), .val (.int (own_rank (own_of ((65525 : Int64) + (((p3 >>> ((8 : Int32) &&& 31)) % (4 : Int32)).toInt64)) s1 s2 s3) s1 s2 s3))] [(.long q1), (.int (own_rank (own_of q1 s1 s2 s3) s1 s2 s3))]))
  obtain ⟨_, _, ⟨T9, L9, kc9, ns9⟩, -, X9, ⟨Lc9, hQ9, l9, y9, z9⟩, st9⟩ := Jvm.LawKit.callS X8 hx (y := (⟨"com/example/bittern/bittern/volume/FatTypeOfClusterCountPinLaw", "expected", "(J)I"⟩ : MethodName)) hown (mvT hZ (hw _ (List.mem_of_getElem? (i := 21) rfl))) (mvT hZ (hw _ (List.mem_of_getElem? (i := 22) rfl))) (mvT hZ (hw _ (List.mem_of_getElem? (i := 11) rfl))) (mvT hZ (hw _ (List.mem_of_getElem? (i := 23) rfl))) (by decide) (backOf (W := 1) (rm3 l Z a0 hw [] q1 h0 n0 (Nat.le_trans Z0 (Keep.refl h0 []).1) ) hZ (hw _ (List.mem_of_getElem? (i := 23) rfl)) (hw _ (List.mem_of_getElem? (i := 11) rfl)) (by decide) (by decide)) (g := (mkF m 66 #[.val (.long q1), .second, .val (.long q2), .second, .val (.int p3), .val (.long ((4085 : Int64) + ((p3 % (4 : Int32)).toInt64))), .second, .val (.long ((65525 : Int64) + (((p3 >>> ((8 : Int32) &&& 31)) % (4 : Int32)).toInt64))), .second, .val (.int (own_rank (own_of q1 s1 s2 s3) s1 s2 s3)), .val (.int (own_rank (own_of q2 s1 s2 s3) s1 s2 s3)), .val (.int (own_rank (own_of ((4085 : Int64) + ((p3 % (4 : Int32)).toInt64)) s1 s2 s3) s1 s2 s3)), .val (.int (own_rank (own_of ((65525 : Int64) + (((p3 >>> ((8 : Int32) &&& 31)) % (4 : Int32)).toInt64)) s1 s2 s3) s1 s2 s3))] [(.long q1), (.int (own_rank (own_of q1 s1 s2 s3) s1 s2 s3))])) rfl (by rw [hml]; rfl) (argsL := [(.long q1)]) (rest := [(.int (own_rank (own_of q1 s1 s2 s3) s1 s2 s3))]) (lenOf pd__J_I rfl) rfl (by show 2 * 0 + _ ≤ _; exact Nat.le_of_eq rfl) (hb hby at_66) (fun _ _ => ⟨rfl, e8, (by decide : 0 + 0 ≤ _), (by decide : 0 + 0 ≤ _)⟩)
  dsimp only [Pt.U, Pt.locs, Pt.cells, Pt.slots] at X9 l9 y9 z9 st9 hQ9
  subst l9 y9 z9
  obtain ⟨rfl, N9q, e9⟩ := hQ9
  have N9 := Fr.app N8 N9q
  refine OwnR.of (st9) ?_
  show OwnR _ _ _ _ _ _ _ (T9.setTop (mkF m 69 #[.val (.long q1), .second, .val (.long q2), .second, .val (.int p3), .val (.long ((4085 : Int64) + ((p3 % (4 : Int32)).toInt64))), .second, .val (.long ((65525 : Int64) + (((p3 >>> ((8 : Int32) &&& 31)) % (4 : Int32)).toInt64))), .second, .val (.int (own_rank (own_of q1 s1 s2 s3) s1 s2 s3)), .val (.int (own_rank (own_of q2 s1 s2 s3) s1 s2 s3)), .val (.int (own_rank (own_of ((4085 : Int64) + ((p3 % (4 : Int32)).toInt64)) s1 s2 s3) s1 s2 s3)), .val (.int (own_rank (own_of ((65525 : Int64) + (((p3 >>> ((8 : Int32) &&& 31)) % (4 : Int32)).toInt64)) s1 s2 s3) s1 s2 s3))] [(.int (own_ex q1)), (.int (own_rank (own_of q1 s1 s2 s3) s1 s2 s3))]))
  have hc69_10 : (own_rank (own_of q1 s1 s2 s3) s1 s2 s3) = (own_ex q1) := by
    refine Classical.byContradiction fun hbad => ?_
    exact hbad (own_law _ _ _ _ ne_12 ne_13 ne_23)
  refine OwnR.of (fun _ hr => XS.icmpNo X9.here hx rfl (hb hby at_69) rfl (teq hc69_10).2 hr) ?_
  show OwnR _ _ _ _ _ _ _ (T9.setTop (mkF m 72 #[.val (.long q1), .second, .val (.long q2), .second, .val (.int p3), .val (.long ((4085 : Int64) + ((p3 % (4 : Int32)).toInt64))), .second, .val (.long ((65525 : Int64) + (((p3 >>> ((8 : Int32) &&& 31)) % (4 : Int32)).toInt64))), .second, .val (.int (own_rank (own_of q1 s1 s2 s3) s1 s2 s3)), .val (.int (own_rank (own_of q2 s1 s2 s3) s1 s2 s3)), .val (.int (own_rank (own_of ((4085 : Int64) + ((p3 % (4 : Int32)).toInt64)) s1 s2 s3) s1 s2 s3)), .val (.int (own_rank (own_of ((65525 : Int64) + (((p3 >>> ((8 : Int32) &&& 31)) % (4 : Int32)).toInt64)) s1 s2 s3) s1 s2 s3))] []))
  refine OwnR.of (fun _ hr => XS.iload X9.here hx rfl (hb hby at_72) rfl hr) ?_
  show OwnR _ _ _ _ _ _ _ (T9.setTop (mkF m 74 #[.val (.long q1), .second, .val (.long q2), .second, .val (.int p3), .val (.long ((4085 : Int64) + ((p3 % (4 : Int32)).toInt64))), .second, .val (.long ((65525 : Int64) + (((p3 >>> ((8 : Int32) &&& 31)) % (4 : Int32)).toInt64))), .second, .val (.int (own_rank (own_of q1 s1 s2 s3) s1 s2 s3)), .val (.int (own_rank (own_of q2 s1 s2 s3) s1 s2 s3)), .val (.int (own_rank (own_of ((4085 : Int64) + ((p3 % (4 : Int32)).toInt64)) s1 s2 s3) s1 s2 s3)), .val (.int (own_rank (own_of ((65525 : Int64) + (((p3 >>> ((8 : Int32) &&& 31)) % (4 : Int32)).toInt64)) s1 s2 s3) s1 s2 s3))] [(.int (own_rank (own_of q2 s1 s2 s3) s1 s2 s3))]))
  refine OwnR.of (fun _ hr => XS.lloadN X9.here hx rfl (hb hby at_74) rfl hr) ?_
  show OwnR _ _ _ _ _ _ _ (T9.setTop (mkF m 75 #[.val (.long q1), .second, .val (.long q2), .second, .val (.int p3), .val (.long ((4085 : Int64) + ((p3 % (4 : Int32)).toInt64))), .second, .val (.long ((65525 : Int64) + (((p3 >>> ((8 : Int32) &&& 31)) % (4 : Int32)).toInt64))), .second, .val (.int (own_rank (own_of q1 s1 s2 s3) s1 s2 s3)), .val (.int (own_rank (own_of q2 s1 s2 s3) s1 s2 s3)), .val (.int (own_rank (own_of ((4085 : Int64) + ((p3 % (4 : Int32)).toInt64)) s1 s2 s3) s1 s2 s3)), .val (.int (own_rank (own_of ((65525 : Int64) + (((p3 >>> ((8 : Int32) &&& 31)) % (4 : Int32)).toInt64)) s1 s2 s3) s1 s2 s3))] [(.long q2), (.int (own_rank (own_of q2 s1 s2 s3) s1 s2 s3))]))
  obtain ⟨_, _, ⟨T11, L11, kc11, ns11⟩, -, X11, ⟨Lc11, hQ11, l11, y11, z11⟩, st11⟩ := Jvm.LawKit.callS X9 hx (y := (⟨"com/example/bittern/bittern/volume/FatTypeOfClusterCountPinLaw", "expected", "(J)I"⟩ : MethodName)) hown (mvT hZ (hw _ (List.mem_of_getElem? (i := 21) rfl))) (mvT hZ (hw _ (List.mem_of_getElem? (i := 22) rfl))) (mvT hZ (hw _ (List.mem_of_getElem? (i := 11) rfl))) (mvT hZ (hw _ (List.mem_of_getElem? (i := 23) rfl))) (by decide) (backOf (W := 1) (rm3 l Z a0 hw [] q2 h0 n0 (Nat.le_trans Z0 (Keep.refl h0 []).1) ) hZ (hw _ (List.mem_of_getElem? (i := 23) rfl)) (hw _ (List.mem_of_getElem? (i := 11) rfl)) (by decide) (by decide)) (g := (mkF m 75 #[.val (.long q1), .second, .val (.long q2), .second, .val (.int p3), .val (.long ((4085 : Int64) + ((p3 % (4 : Int32)).toInt64))), .second, .val (.long ((65525 : Int64) + (((p3 >>> ((8 : Int32) &&& 31)) % (4 : Int32)).toInt64))), .second, .val (.int (own_rank (own_of q1 s1 s2 s3) s1 s2 s3)), .val (.int (own_rank (own_of q2 s1 s2 s3) s1 s2 s3)), .val (.int (own_rank (own_of ((4085 : Int64) + ((p3 % (4 : Int32)).toInt64)) s1 s2 s3) s1 s2 s3)), .val (.int (own_rank (own_of ((65525 : Int64) + (((p3 >>> ((8 : Int32) &&& 31)) % (4 : Int32)).toInt64)) s1 s2 s3) s1 s2 s3))] [(.long q2), (.int (own_rank (own_of q2 s1 s2 s3) s1 s2 s3))])) rfl (by rw [hml]; rfl) (argsL := [(.long q2)]) (rest := [(.int (own_rank (own_of q2 s1 s2 s3) s1 s2 s3))]) (lenOf pd__J_I rfl) rfl (by show 2 * 0 + _ ≤ _; exact Nat.le_of_eq rfl) (hb hby at_75) (fun _ _ => ⟨rfl, e9, (by decide : 0 + 0 ≤ _), (by decide : 0 + 0 ≤ _)⟩)
  dsimp only [Pt.U, Pt.locs, Pt.cells, Pt.slots] at X11 l11 y11 z11 st11 hQ11
  subst l11 y11 z11
  obtain ⟨rfl, N11q, e11⟩ := hQ11
  have N11 := Fr.app N9 N11q
  refine OwnR.of (st11) ?_
  show OwnR _ _ _ _ _ _ _ (T11.setTop (mkF m 78 #[.val (.long q1), .second, .val (.long q2), .second, .val (.int p3), .val (.long ((4085 : Int64) + ((p3 % (4 : Int32)).toInt64))), .second, .val (.long ((65525 : Int64) + (((p3 >>> ((8 : Int32) &&& 31)) % (4 : Int32)).toInt64))), .second, .val (.int (own_rank (own_of q1 s1 s2 s3) s1 s2 s3)), .val (.int (own_rank (own_of q2 s1 s2 s3) s1 s2 s3)), .val (.int (own_rank (own_of ((4085 : Int64) + ((p3 % (4 : Int32)).toInt64)) s1 s2 s3) s1 s2 s3)), .val (.int (own_rank (own_of ((65525 : Int64) + (((p3 >>> ((8 : Int32) &&& 31)) % (4 : Int32)).toInt64)) s1 s2 s3) s1 s2 s3))] [(.int (own_ex q2)), (.int (own_rank (own_of q2 s1 s2 s3) s1 s2 s3))]))
  have hc78_12 : (own_rank (own_of q2 s1 s2 s3) s1 s2 s3) = (own_ex q2) := by
    refine Classical.byContradiction fun hbad => ?_
    exact hbad (own_law _ _ _ _ ne_12 ne_13 ne_23)
  refine OwnR.of (fun _ hr => XS.icmpNo X11.here hx rfl (hb hby at_78) rfl (teq hc78_12).2 hr) ?_
  show OwnR _ _ _ _ _ _ _ (T11.setTop (mkF m 81 #[.val (.long q1), .second, .val (.long q2), .second, .val (.int p3), .val (.long ((4085 : Int64) + ((p3 % (4 : Int32)).toInt64))), .second, .val (.long ((65525 : Int64) + (((p3 >>> ((8 : Int32) &&& 31)) % (4 : Int32)).toInt64))), .second, .val (.int (own_rank (own_of q1 s1 s2 s3) s1 s2 s3)), .val (.int (own_rank (own_of q2 s1 s2 s3) s1 s2 s3)), .val (.int (own_rank (own_of ((4085 : Int64) + ((p3 % (4 : Int32)).toInt64)) s1 s2 s3) s1 s2 s3)), .val (.int (own_rank (own_of ((65525 : Int64) + (((p3 >>> ((8 : Int32) &&& 31)) % (4 : Int32)).toInt64)) s1 s2 s3) s1 s2 s3))] []))
  refine OwnR.of (fun _ hr => XS.iload X11.here hx rfl (hb hby at_81) rfl hr) ?_
  show OwnR _ _ _ _ _ _ _ (T11.setTop (mkF m 83 #[.val (.long q1), .second, .val (.long q2), .second, .val (.int p3), .val (.long ((4085 : Int64) + ((p3 % (4 : Int32)).toInt64))), .second, .val (.long ((65525 : Int64) + (((p3 >>> ((8 : Int32) &&& 31)) % (4 : Int32)).toInt64))), .second, .val (.int (own_rank (own_of q1 s1 s2 s3) s1 s2 s3)), .val (.int (own_rank (own_of q2 s1 s2 s3) s1 s2 s3)), .val (.int (own_rank (own_of ((4085 : Int64) + ((p3 % (4 : Int32)).toInt64)) s1 s2 s3) s1 s2 s3)), .val (.int (own_rank (own_of ((65525 : Int64) + (((p3 >>> ((8 : Int32) &&& 31)) % (4 : Int32)).toInt64)) s1 s2 s3) s1 s2 s3))] [(.int (own_rank (own_of ((4085 : Int64) + ((p3 % (4 : Int32)).toInt64)) s1 s2 s3) s1 s2 s3))]))
  refine OwnR.of (fun _ hr => XS.lload X11.here hx rfl (hb hby at_83) rfl hr) ?_
  show OwnR _ _ _ _ _ _ _ (T11.setTop (mkF m 85 #[.val (.long q1), .second, .val (.long q2), .second, .val (.int p3), .val (.long ((4085 : Int64) + ((p3 % (4 : Int32)).toInt64))), .second, .val (.long ((65525 : Int64) + (((p3 >>> ((8 : Int32) &&& 31)) % (4 : Int32)).toInt64))), .second, .val (.int (own_rank (own_of q1 s1 s2 s3) s1 s2 s3)), .val (.int (own_rank (own_of q2 s1 s2 s3) s1 s2 s3)), .val (.int (own_rank (own_of ((4085 : Int64) + ((p3 % (4 : Int32)).toInt64)) s1 s2 s3) s1 s2 s3)), .val (.int (own_rank (own_of ((65525 : Int64) + (((p3 >>> ((8 : Int32) &&& 31)) % (4 : Int32)).toInt64)) s1 s2 s3) s1 s2 s3))] [(.long ((4085 : Int64) + ((p3 % (4 : Int32)).toInt64))), (.int (own_rank (own_of ((4085 : Int64) + ((p3 % (4 : Int32)).toInt64)) s1 s2 s3) s1 s2 s3))]))
  obtain ⟨_, _, ⟨T13, L13, kc13, ns13⟩, -, X13, ⟨Lc13, hQ13, l13, y13, z13⟩, st13⟩ := Jvm.LawKit.callS X11 hx (y := (⟨"com/example/bittern/bittern/volume/FatTypeOfClusterCountPinLaw", "expected", "(J)I"⟩ : MethodName)) hown (mvT hZ (hw _ (List.mem_of_getElem? (i := 21) rfl))) (mvT hZ (hw _ (List.mem_of_getElem? (i := 22) rfl))) (mvT hZ (hw _ (List.mem_of_getElem? (i := 11) rfl))) (mvT hZ (hw _ (List.mem_of_getElem? (i := 23) rfl))) (by decide) (backOf (W := 1) (rm3 l Z a0 hw [] ((4085 : Int64) + ((p3 % (4 : Int32)).toInt64)) h0 n0 (Nat.le_trans Z0 (Keep.refl h0 []).1) ) hZ (hw _ (List.mem_of_getElem? (i := 23) rfl)) (hw _ (List.mem_of_getElem? (i := 11) rfl)) (by decide) (by decide)) (g := (mkF m 85 #[.val (.long q1), .second, .val (.long q2), .second, .val (.int p3), .val (.long ((4085 : Int64) + ((p3 % (4 : Int32)).toInt64))), .second, .val (.long ((65525 : Int64) + (((p3 >>> ((8 : Int32) &&& 31)) % (4 : Int32)).toInt64))), .second, .val (.int (own_rank (own_of q1 s1 s2 s3) s1 s2 s3)), .val (.int (own_rank (own_of q2 s1 s2 s3) s1 s2 s3)), .val (.int (own_rank (own_of ((4085 : Int64) + ((p3 % (4 : Int32)).toInt64)) s1 s2 s3) s1 s2 s3)), .val (.int (own_rank (own_of ((65525 : Int64) + (((p3 >>> ((8 : Int32) &&& 31)) % (4 : Int32)).toInt64)) s1 s2 s3) s1 s2 s3))] [(.long ((4085 : Int64) + ((p3 % (4 : Int32)).toInt64))), (.int (own_rank (own_of ((4085 : Int64) + ((p3 % (4 : Int32)).toInt64)) s1 s2 s3) s1 s2 s3))])) rfl (by rw [hml]; rfl) (argsL := [(.long ((4085 : Int64) + ((p3 % (4 : Int32)).toInt64)))]) (rest := [(.int (own_rank (own_of ((4085 : Int64) + ((p3 % (4 : Int32)).toInt64)) s1 s2 s3) s1 s2 s3))]) (lenOf pd__J_I rfl) rfl (by show 2 * 0 + _ ≤ _; exact Nat.le_of_eq rfl) (hb hby at_85) (fun _ _ => ⟨rfl, e11, (by decide : 0 + 0 ≤ _), (by decide : 0 + 0 ≤ _)⟩)
  dsimp only [Pt.U, Pt.locs, Pt.cells, Pt.slots] at X13 l13 y13 z13 st13 hQ13
  subst l13 y13 z13
  obtain ⟨rfl, N13q, e13⟩ := hQ13
  have N13 := Fr.app N11 N13q
  refine OwnR.of (st13) ?_
  show OwnR _ _ _ _ _ _ _ (T13.setTop (mkF m 88 #[.val (.long q1), .second, .val (.long q2), .second, .val (.int p3), .val (.long ((4085 : Int64) + ((p3 % (4 : Int32)).toInt64))), .second, .val (.long ((65525 : Int64) + (((p3 >>> ((8 : Int32) &&& 31)) % (4 : Int32)).toInt64))), .second, .val (.int (own_rank (own_of q1 s1 s2 s3) s1 s2 s3)), .val (.int (own_rank (own_of q2 s1 s2 s3) s1 s2 s3)), .val (.int (own_rank (own_of ((4085 : Int64) + ((p3 % (4 : Int32)).toInt64)) s1 s2 s3) s1 s2 s3)), .val (.int (own_rank (own_of ((65525 : Int64) + (((p3 >>> ((8 : Int32) &&& 31)) % (4 : Int32)).toInt64)) s1 s2 s3) s1 s2 s3))] [(.int (own_ex ((4085 : Int64) + ((p3 % (4 : Int32)).toInt64)))), (.int (own_rank (own_of ((4085 : Int64) + ((p3 % (4 : Int32)).toInt64)) s1 s2 s3) s1 s2 s3))]))
  have hc88_14 : (own_rank (own_of ((4085 : Int64) + ((p3 % (4 : Int32)).toInt64)) s1 s2 s3) s1 s2 s3) = (own_ex ((4085 : Int64) + ((p3 % (4 : Int32)).toInt64))) := by
    refine Classical.byContradiction fun hbad => ?_
    exact hbad (own_law _ _ _ _ ne_12 ne_13 ne_23)
  refine OwnR.of (fun _ hr => XS.icmpNo X13.here hx rfl (hb hby at_88) rfl (teq hc88_14).2 hr) ?_
  show OwnR _ _ _ _ _ _ _ (T13.setTop (mkF m 91 #[.val (.long q1), .second, .val (.long q2), .second, .val (.int p3), .val (.long ((4085 : Int64) + ((p3 % (4 : Int32)).toInt64))), .second, .val (.long ((65525 : Int64) + (((p3 >>> ((8 : Int32) &&& 31)) % (4 : Int32)).toInt64))), .second, .val (.int (own_rank (own_of q1 s1 s2 s3) s1 s2 s3)), .val (.int (own_rank (own_of q2 s1 s2 s3) s1 s2 s3)), .val (.int (own_rank (own_of ((4085 : Int64) + ((p3 % (4 : Int32)).toInt64)) s1 s2 s3) s1 s2 s3)), .val (.int (own_rank (own_of ((65525 : Int64) + (((p3 >>> ((8 : Int32) &&& 31)) % (4 : Int32)).toInt64)) s1 s2 s3) s1 s2 s3))] []))
  refine OwnR.of (fun _ hr => XS.iload X13.here hx rfl (hb hby at_91) rfl hr) ?_
  show OwnR _ _ _ _ _ _ _ (T13.setTop (mkF m 93 #[.val (.long q1), .second, .val (.long q2), .second, .val (.int p3), .val (.long ((4085 : Int64) + ((p3 % (4 : Int32)).toInt64))), .second, .val (.long ((65525 : Int64) + (((p3 >>> ((8 : Int32) &&& 31)) % (4 : Int32)).toInt64))), .second, .val (.int (own_rank (own_of q1 s1 s2 s3) s1 s2 s3)), .val (.int (own_rank (own_of q2 s1 s2 s3) s1 s2 s3)), .val (.int (own_rank (own_of ((4085 : Int64) + ((p3 % (4 : Int32)).toInt64)) s1 s2 s3) s1 s2 s3)), .val (.int (own_rank (own_of ((65525 : Int64) + (((p3 >>> ((8 : Int32) &&& 31)) % (4 : Int32)).toInt64)) s1 s2 s3) s1 s2 s3))] [(.int (own_rank (own_of ((65525 : Int64) + (((p3 >>> ((8 : Int32) &&& 31)) % (4 : Int32)).toInt64)) s1 s2 s3) s1 s2 s3))]))
  refine OwnR.of (fun _ hr => XS.lload X13.here hx rfl (hb hby at_93) rfl hr) ?_
  show OwnR _ _ _ _ _ _ _ (T13.setTop (mkF m 95 #[.val (.long q1), .second, .val (.long q2), .second, .val (.int p3), .val (.long ((4085 : Int64) + ((p3 % (4 : Int32)).toInt64))), .second, .val (.long ((65525 : Int64) + (((p3 >>> ((8 : Int32) &&& 31)) % (4 : Int32)).toInt64))), .second, .val (.int (own_rank (own_of q1 s1 s2 s3) s1 s2 s3)), .val (.int (own_rank (own_of q2 s1 s2 s3) s1 s2 s3)), .val (.int (own_rank (own_of ((4085 : Int64) + ((p3 % (4 : Int32)).toInt64)) s1 s2 s3) s1 s2 s3)), .val (.int (own_rank (own_of ((65525 : Int64) + (((p3 >>> ((8 : Int32) &&& 31)) % (4 : Int32)).toInt64)) s1 s2 s3) s1 s2 s3))] [(.long ((65525 : Int64) + (((p3 >>> ((8 : Int32) &&& 31)) % (4 : Int32)).toInt64))), (.int (own_rank (own_of ((65525 : Int64) + (((p3 >>> ((8 : Int32) &&& 31)) % (4 : Int32)).toInt64)) s1 s2 s3) s1 s2 s3))]))
  obtain ⟨_, _, ⟨T15, L15, kc15, ns15⟩, -, X15, ⟨Lc15, hQ15, l15, y15, z15⟩, st15⟩ := Jvm.LawKit.callS X13 hx (y := (⟨"com/example/bittern/bittern/volume/FatTypeOfClusterCountPinLaw", "expected", "(J)I"⟩ : MethodName)) hown (mvT hZ (hw _ (List.mem_of_getElem? (i := 21) rfl))) (mvT hZ (hw _ (List.mem_of_getElem? (i := 22) rfl))) (mvT hZ (hw _ (List.mem_of_getElem? (i := 11) rfl))) (mvT hZ (hw _ (List.mem_of_getElem? (i := 23) rfl))) (by decide) (backOf (W := 1) (rm3 l Z a0 hw [] ((65525 : Int64) + (((p3 >>> ((8 : Int32) &&& 31)) % (4 : Int32)).toInt64)) h0 n0 (Nat.le_trans Z0 (Keep.refl h0 []).1) ) hZ (hw _ (List.mem_of_getElem? (i := 23) rfl)) (hw _ (List.mem_of_getElem? (i := 11) rfl)) (by decide) (by decide)) (g := (mkF m 95 #[.val (.long q1), .second, .val (.long q2), .second, .val (.int p3), .val (.long ((4085 : Int64) + ((p3 % (4 : Int32)).toInt64))), .second, .val (.long ((65525 : Int64) + (((p3 >>> ((8 : Int32) &&& 31)) % (4 : Int32)).toInt64))), .second, .val (.int (own_rank (own_of q1 s1 s2 s3) s1 s2 s3)), .val (.int (own_rank (own_of q2 s1 s2 s3) s1 s2 s3)), .val (.int (own_rank (own_of ((4085 : Int64) + ((p3 % (4 : Int32)).toInt64)) s1 s2 s3) s1 s2 s3)), .val (.int (own_rank (own_of ((65525 : Int64) + (((p3 >>> ((8 : Int32) &&& 31)) % (4 : Int32)).toInt64)) s1 s2 s3) s1 s2 s3))] [(.long ((65525 : Int64) + (((p3 >>> ((8 : Int32) &&& 31)) % (4 : Int32)).toInt64))), (.int (own_rank (own_of ((65525 : Int64) + (((p3 >>> ((8 : Int32) &&& 31)) % (4 : Int32)).toInt64)) s1 s2 s3) s1 s2 s3))])) rfl (by rw [hml]; rfl) (argsL := [(.long ((65525 : Int64) + (((p3 >>> ((8 : Int32) &&& 31)) % (4 : Int32)).toInt64)))]) (rest := [(.int (own_rank (own_of ((65525 : Int64) + (((p3 >>> ((8 : Int32) &&& 31)) % (4 : Int32)).toInt64)) s1 s2 s3) s1 s2 s3))]) (lenOf pd__J_I rfl) rfl (by show 2 * 0 + _ ≤ _; exact Nat.le_of_eq rfl) (hb hby at_95) (fun _ _ => ⟨rfl, e13, (by decide : 0 + 0 ≤ _), (by decide : 0 + 0 ≤ _)⟩)
  dsimp only [Pt.U, Pt.locs, Pt.cells, Pt.slots] at X15 l15 y15 z15 st15 hQ15
  subst l15 y15 z15
  obtain ⟨rfl, N15q, e15⟩ := hQ15
  have N15 := Fr.app N13 N15q
  refine OwnR.of (st15) ?_
  show OwnR _ _ _ _ _ _ _ (T15.setTop (mkF m 98 #[.val (.long q1), .second, .val (.long q2), .second, .val (.int p3), .val (.long ((4085 : Int64) + ((p3 % (4 : Int32)).toInt64))), .second, .val (.long ((65525 : Int64) + (((p3 >>> ((8 : Int32) &&& 31)) % (4 : Int32)).toInt64))), .second, .val (.int (own_rank (own_of q1 s1 s2 s3) s1 s2 s3)), .val (.int (own_rank (own_of q2 s1 s2 s3) s1 s2 s3)), .val (.int (own_rank (own_of ((4085 : Int64) + ((p3 % (4 : Int32)).toInt64)) s1 s2 s3) s1 s2 s3)), .val (.int (own_rank (own_of ((65525 : Int64) + (((p3 >>> ((8 : Int32) &&& 31)) % (4 : Int32)).toInt64)) s1 s2 s3) s1 s2 s3))] [(.int (own_ex ((65525 : Int64) + (((p3 >>> ((8 : Int32) &&& 31)) % (4 : Int32)).toInt64)))), (.int (own_rank (own_of ((65525 : Int64) + (((p3 >>> ((8 : Int32) &&& 31)) % (4 : Int32)).toInt64)) s1 s2 s3) s1 s2 s3))]))
  have hc98_16 : (own_rank (own_of ((65525 : Int64) + (((p3 >>> ((8 : Int32) &&& 31)) % (4 : Int32)).toInt64)) s1 s2 s3) s1 s2 s3) = (own_ex ((65525 : Int64) + (((p3 >>> ((8 : Int32) &&& 31)) % (4 : Int32)).toInt64))) := by
    refine Classical.byContradiction fun hbad => ?_
    exact hbad (own_law _ _ _ _ ne_12 ne_13 ne_23)
  refine OwnR.of (fun _ hr => XS.icmpNo X15.here hx rfl (hb hby at_98) rfl (teq hc98_16).2 hr) ?_
  show OwnR _ _ _ _ _ _ _ (T15.setTop (mkF m 101 #[.val (.long q1), .second, .val (.long q2), .second, .val (.int p3), .val (.long ((4085 : Int64) + ((p3 % (4 : Int32)).toInt64))), .second, .val (.long ((65525 : Int64) + (((p3 >>> ((8 : Int32) &&& 31)) % (4 : Int32)).toInt64))), .second, .val (.int (own_rank (own_of q1 s1 s2 s3) s1 s2 s3)), .val (.int (own_rank (own_of q2 s1 s2 s3) s1 s2 s3)), .val (.int (own_rank (own_of ((4085 : Int64) + ((p3 % (4 : Int32)).toInt64)) s1 s2 s3) s1 s2 s3)), .val (.int (own_rank (own_of ((65525 : Int64) + (((p3 >>> ((8 : Int32) &&& 31)) % (4 : Int32)).toInt64)) s1 s2 s3) s1 s2 s3))] []))
  refine OwnR.of (fun _ hr => XS.lloadN X15.here hx rfl (hb hby at_101) rfl hr) ?_
  show OwnR _ _ _ _ _ _ _ (T15.setTop (mkF m 102 #[.val (.long q1), .second, .val (.long q2), .second, .val (.int p3), .val (.long ((4085 : Int64) + ((p3 % (4 : Int32)).toInt64))), .second, .val (.long ((65525 : Int64) + (((p3 >>> ((8 : Int32) &&& 31)) % (4 : Int32)).toInt64))), .second, .val (.int (own_rank (own_of q1 s1 s2 s3) s1 s2 s3)), .val (.int (own_rank (own_of q2 s1 s2 s3) s1 s2 s3)), .val (.int (own_rank (own_of ((4085 : Int64) + ((p3 % (4 : Int32)).toInt64)) s1 s2 s3) s1 s2 s3)), .val (.int (own_rank (own_of ((65525 : Int64) + (((p3 >>> ((8 : Int32) &&& 31)) % (4 : Int32)).toInt64)) s1 s2 s3) s1 s2 s3))] [(.long q1)]))
  refine OwnR.of (fun _ hr => XS.lloadN X15.here hx rfl (hb hby at_102) rfl hr) ?_
  show OwnR _ _ _ _ _ _ _ (T15.setTop (mkF m 103 #[.val (.long q1), .second, .val (.long q2), .second, .val (.int p3), .val (.long ((4085 : Int64) + ((p3 % (4 : Int32)).toInt64))), .second, .val (.long ((65525 : Int64) + (((p3 >>> ((8 : Int32) &&& 31)) % (4 : Int32)).toInt64))), .second, .val (.int (own_rank (own_of q1 s1 s2 s3) s1 s2 s3)), .val (.int (own_rank (own_of q2 s1 s2 s3) s1 s2 s3)), .val (.int (own_rank (own_of ((4085 : Int64) + ((p3 % (4 : Int32)).toInt64)) s1 s2 s3) s1 s2 s3)), .val (.int (own_rank (own_of ((65525 : Int64) + (((p3 >>> ((8 : Int32) &&& 31)) % (4 : Int32)).toInt64)) s1 s2 s3) s1 s2 s3))] [(.long q2), (.long q1)]))
  refine OwnR.of (fun _ hr => XS.lcmp X15.here hx rfl (hb hby at_103) rfl hr) ?_
  show OwnR _ _ _ _ _ _ _ (T15.setTop (mkF m 104 #[.val (.long q1), .second, .val (.long q2), .second, .val (.int p3), .val (.long ((4085 : Int64) + ((p3 % (4 : Int32)).toInt64))), .second, .val (.long ((65525 : Int64) + (((p3 >>> ((8 : Int32) &&& 31)) % (4 : Int32)).toInt64))), .second, .val (.int (own_rank (own_of q1 s1 s2 s3) s1 s2 s3)), .val (.int (own_rank (own_of q2 s1 s2 s3) s1 s2 s3)), .val (.int (own_rank (own_of ((4085 : Int64) + ((p3 % (4 : Int32)).toInt64)) s1 s2 s3) s1 s2 s3)), .val (.int (own_rank (own_of ((65525 : Int64) + (((p3 >>> ((8 : Int32) &&& 31)) % (4 : Int32)).toInt64)) s1 s2 s3) s1 s2 s3))] [(.int (lcmpW q1 q2))]))
  suffices J119_17 : OwnR p e below s (Q0 Z  h0 n0) 0 0 (T15.setTop (mkF m 119 #[.val (.long q1), .second, .val (.long q2), .second, .val (.int p3), .val (.long ((4085 : Int64) + ((p3 % (4 : Int32)).toInt64))), .second, .val (.long ((65525 : Int64) + (((p3 >>> ((8 : Int32) &&& 31)) % (4 : Int32)).toInt64))), .second, .val (.int (own_rank (own_of q1 s1 s2 s3) s1 s2 s3)), .val (.int (own_rank (own_of q2 s1 s2 s3) s1 s2 s3)), .val (.int (own_rank (own_of ((4085 : Int64) + ((p3 % (4 : Int32)).toInt64)) s1 s2 s3) s1 s2 s3)), .val (.int (own_rank (own_of ((65525 : Int64) + (((p3 >>> ((8 : Int32) &&& 31)) % (4 : Int32)).toInt64)) s1 s2 s3) s1 s2 s3))] [(.int (1 : Int32))])) by
    by_cases hc104_18 : q2 < q1
    · skip
      refine OwnR.of (fun _ hr => XS.ifYes X15.here hx rfl (pc0 := 104) (pc' := 114) rfl (hb hby at_104) rfl ((if0 _ _).trans (tlt ((own_lcgt _ _).mpr hc104_18)).2.2.1) (by decide) (by decide) hr) ?_
      show OwnR _ _ _ _ _ _ _ (T15.setTop (mkF m 114 #[.val (.long q1), .second, .val (.long q2), .second, .val (.int p3), .val (.long ((4085 : Int64) + ((p3 % (4 : Int32)).toInt64))), .second, .val (.long ((65525 : Int64) + (((p3 >>> ((8 : Int32) &&& 31)) % (4 : Int32)).toInt64))), .second, .val (.int (own_rank (own_of q1 s1 s2 s3) s1 s2 s3)), .val (.int (own_rank (own_of q2 s1 s2 s3) s1 s2 s3)), .val (.int (own_rank (own_of ((4085 : Int64) + ((p3 % (4 : Int32)).toInt64)) s1 s2 s3) s1 s2 s3)), .val (.int (own_rank (own_of ((65525 : Int64) + (((p3 >>> ((8 : Int32) &&& 31)) % (4 : Int32)).toInt64)) s1 s2 s3) s1 s2 s3))] []))
      refine OwnR.of (fun _ hr => XS.iconst X15.here hx rfl (hb hby at_114) hr) ?_
      show OwnR _ _ _ _ _ _ _ (T15.setTop (mkF m 115 #[.val (.long q1), .second, .val (.long q2), .second, .val (.int p3), .val (.long ((4085 : Int64) + ((p3 % (4 : Int32)).toInt64))), .second, .val (.long ((65525 : Int64) + (((p3 >>> ((8 : Int32) &&& 31)) % (4 : Int32)).toInt64))), .second, .val (.int (own_rank (own_of q1 s1 s2 s3) s1 s2 s3)), .val (.int (own_rank (own_of q2 s1 s2 s3) s1 s2 s3)), .val (.int (own_rank (own_of ((4085 : Int64) + ((p3 % (4 : Int32)).toInt64)) s1 s2 s3) s1 s2 s3)), .val (.int (own_rank (own_of ((65525 : Int64) + (((p3 >>> ((8 : Int32) &&& 31)) % (4 : Int32)).toInt64)) s1 s2 s3) s1 s2 s3))] [(.int (1 : Int32))]))
      refine OwnR.of (fun _ hr => XS.goto X15.here hx rfl (pc0 := 115) (pc' := 119) rfl (hb hby at_115) (by decide) (by decide) hr) ?_
      show OwnR _ _ _ _ _ _ _ (T15.setTop (mkF m 119 #[.val (.long q1), .second, .val (.long q2), .second, .val (.int p3), .val (.long ((4085 : Int64) + ((p3 % (4 : Int32)).toInt64))), .second, .val (.long ((65525 : Int64) + (((p3 >>> ((8 : Int32) &&& 31)) % (4 : Int32)).toInt64))), .second, .val (.int (own_rank (own_of q1 s1 s2 s3) s1 s2 s3)), .val (.int (own_rank (own_of q2 s1 s2 s3) s1 s2 s3)), .val (.int (own_rank (own_of ((4085 : Int64) + ((p3 % (4 : Int32)).toInt64)) s1 s2 s3) s1 s2 s3)), .val (.int (own_rank (own_of ((65525 : Int64) + (((p3 >>> ((8 : Int32) &&& 31)) % (4 : Int32)).toInt64)) s1 s2 s3) s1 s2 s3))] [(.int (1 : Int32))]))
      exact J119_17
    · skip
      refine OwnR.of (fun _ hr => XS.ifNo X15.here hx rfl (hb hby at_104) rfl ((if0 _ _).trans (flt ((not_congr (own_lcgt _ _)).mpr hc104_18)).2.2.1) hr) ?_
      show OwnR _ _ _ _ _ _ _ (T15.setTop (mkF m 107 #[.val (.long q1), .second, .val (.long q2), .second, .val (.int p3), .val (.long ((4085 : Int64) + ((p3 % (4 : Int32)).toInt64))), .second, .val (.long ((65525 : Int64) + (((p3 >>> ((8 : Int32) &&& 31)) % (4 : Int32)).toInt64))), .second, .val (.int (own_rank (own_of q1 s1 s2 s3) s1 s2 s3)), .val (.int (own_rank (own_of q2 s1 s2 s3) s1 s2 s3)), .val (.int (own_rank (own_of ((4085 : Int64) + ((p3 % (4 : Int32)).toInt64)) s1 s2 s3) s1 s2 s3)), .val (.int (own_rank (own_of ((65525 : Int64) + (((p3 >>> ((8 : Int32) &&& 31)) % (4 : Int32)).toInt64)) s1 s2 s3) s1 s2 s3))] []))
      refine OwnR.of (fun _ hr => XS.iload X15.here hx rfl (hb hby at_107) rfl hr) ?_
      show OwnR _ _ _ _ _ _ _ (T15.setTop (mkF m 109 #[.val (.long q1), .second, .val (.long q2), .second, .val (.int p3), .val (.long ((4085 : Int64) + ((p3 % (4 : Int32)).toInt64))), .second, .val (.long ((65525 : Int64) + (((p3 >>> ((8 : Int32) &&& 31)) % (4 : Int32)).toInt64))), .second, .val (.int (own_rank (own_of q1 s1 s2 s3) s1 s2 s3)), .val (.int (own_rank (own_of q2 s1 s2 s3) s1 s2 s3)), .val (.int (own_rank (own_of ((4085 : Int64) + ((p3 % (4 : Int32)).toInt64)) s1 s2 s3) s1 s2 s3)), .val (.int (own_rank (own_of ((65525 : Int64) + (((p3 >>> ((8 : Int32) &&& 31)) % (4 : Int32)).toInt64)) s1 s2 s3) s1 s2 s3))] [(.int (own_rank (own_of q1 s1 s2 s3) s1 s2 s3))]))
      refine OwnR.of (fun _ hr => XS.iload X15.here hx rfl (hb hby at_109) rfl hr) ?_
      show OwnR _ _ _ _ _ _ _ (T15.setTop (mkF m 111 #[.val (.long q1), .second, .val (.long q2), .second, .val (.int p3), .val (.long ((4085 : Int64) + ((p3 % (4 : Int32)).toInt64))), .second, .val (.long ((65525 : Int64) + (((p3 >>> ((8 : Int32) &&& 31)) % (4 : Int32)).toInt64))), .second, .val (.int (own_rank (own_of q1 s1 s2 s3) s1 s2 s3)), .val (.int (own_rank (own_of q2 s1 s2 s3) s1 s2 s3)), .val (.int (own_rank (own_of ((4085 : Int64) + ((p3 % (4 : Int32)).toInt64)) s1 s2 s3) s1 s2 s3)), .val (.int (own_rank (own_of ((65525 : Int64) + (((p3 >>> ((8 : Int32) &&& 31)) % (4 : Int32)).toInt64)) s1 s2 s3) s1 s2 s3))] [(.int (own_rank (own_of q2 s1 s2 s3) s1 s2 s3)), (.int (own_rank (own_of q1 s1 s2 s3) s1 s2 s3))]))
      have hc111_19 : ¬ ((own_rank (own_of q2 s1 s2 s3) s1 s2 s3) < (own_rank (own_of q1 s1 s2 s3) s1 s2 s3)) := by
        intro hbad
        rw [own_law _ _ _ _ ne_12 ne_13 ne_23, own_law _ _ _ _ ne_12 ne_13 ne_23] at hbad
        exact own_mono _ _ hc104_18 hbad
      refine OwnR.of (fun _ hr => XS.icmpNo X15.here hx rfl (hb hby at_111) rfl (flt hc111_19).2.2.1 hr) ?_
      show OwnR _ _ _ _ _ _ _ (T15.setTop (mkF m 114 #[.val (.long q1), .second, .val (.long q2), .second, .val (.int p3), .val (.long ((4085 : Int64) + ((p3 % (4 : Int32)).toInt64))), .second, .val (.long ((65525 : Int64) + (((p3 >>> ((8 : Int32) &&& 31)) % (4 : Int32)).toInt64))), .second, .val (.int (own_rank (own_of q1 s1 s2 s3) s1 s2 s3)), .val (.int (own_rank (own_of q2 s1 s2 s3) s1 s2 s3)), .val (.int (own_rank (own_of ((4085 : Int64) + ((p3 % (4 : Int32)).toInt64)) s1 s2 s3) s1 s2 s3)), .val (.int (own_rank (own_of ((65525 : Int64) + (((p3 >>> ((8 : Int32) &&& 31)) % (4 : Int32)).toInt64)) s1 s2 s3) s1 s2 s3))] []))
      refine OwnR.of (fun _ hr => XS.iconst X15.here hx rfl (hb hby at_114) hr) ?_
      show OwnR _ _ _ _ _ _ _ (T15.setTop (mkF m 115 #[.val (.long q1), .second, .val (.long q2), .second, .val (.int p3), .val (.long ((4085 : Int64) + ((p3 % (4 : Int32)).toInt64))), .second, .val (.long ((65525 : Int64) + (((p3 >>> ((8 : Int32) &&& 31)) % (4 : Int32)).toInt64))), .second, .val (.int (own_rank (own_of q1 s1 s2 s3) s1 s2 s3)), .val (.int (own_rank (own_of q2 s1 s2 s3) s1 s2 s3)), .val (.int (own_rank (own_of ((4085 : Int64) + ((p3 % (4 : Int32)).toInt64)) s1 s2 s3) s1 s2 s3)), .val (.int (own_rank (own_of ((65525 : Int64) + (((p3 >>> ((8 : Int32) &&& 31)) % (4 : Int32)).toInt64)) s1 s2 s3) s1 s2 s3))] [(.int (1 : Int32))]))
      refine OwnR.of (fun _ hr => XS.goto X15.here hx rfl (pc0 := 115) (pc' := 119) rfl (hb hby at_115) (by decide) (by decide) hr) ?_
      show OwnR _ _ _ _ _ _ _ (T15.setTop (mkF m 119 #[.val (.long q1), .second, .val (.long q2), .second, .val (.int p3), .val (.long ((4085 : Int64) + ((p3 % (4 : Int32)).toInt64))), .second, .val (.long ((65525 : Int64) + (((p3 >>> ((8 : Int32) &&& 31)) % (4 : Int32)).toInt64))), .second, .val (.int (own_rank (own_of q1 s1 s2 s3) s1 s2 s3)), .val (.int (own_rank (own_of q2 s1 s2 s3) s1 s2 s3)), .val (.int (own_rank (own_of ((4085 : Int64) + ((p3 % (4 : Int32)).toInt64)) s1 s2 s3) s1 s2 s3)), .val (.int (own_rank (own_of ((65525 : Int64) + (((p3 >>> ((8 : Int32) &&& 31)) % (4 : Int32)).toInt64)) s1 s2 s3) s1 s2 s3))] [(.int (1 : Int32))]))
      exact J119_17
  refine own_leafN X15 hx hlk (t := .boolean) Bd.returns (by simp) (hb hby at_119) (z' := (1 : Int32)) rfl (by decide) (by decide) ?_
  show Q0 Z  h0 n0 _ T15.heap _
  rw [show T15.heap = h0 from e15]
  refine ⟨?_, N15⟩
  show (some (.int (1 : Int32)) : Option Value) = some (.int (1 : Int32))
  rfl
set_option maxRecDepth 65536 in
set_option maxHeartbeats 40000000 in
theorem comes_1 {Post : Tables → Env → Array Value → State → Outcome → State → Prop} (hpost : ∀ tb e args s v u, (limb_1_1.after args s (.returned v) u = true ∧ limb_1_2.after args s (.returned v) u = true ∧ True) → FrameEnd s (.returned v) u (Jvm.fieldLocs frame_1_writes args s ++ Jvm.arrayLocs frame_1_arrays args s ++ Jvm.staticLocs frame_1_statics s) 0 0 → Post tb e args s (.returned v) u) :
    ArmFor flags0 classFile x code maxLocals ret World_1 tables_1 room_1 Calls_1 rest_1 Pre_1 Post := by
  intro l hfl _ _ p e ha hc hk s m args below hf hA hF happ hP
  obtain ⟨hcalls, hrest, hpre⟩ := hP
  obtain ⟨-, -, -, hnamed, -, -, -, hat⟩ := (Spec.applies_iff hf).mp happ
  obtain ⟨hg, hn⟩ := and_e (Cond.before_iff.mp (show (Jvm.Cond.and given_1 narrow_1).before args s = true from hpre))
  obtain ⟨ga1, gb1⟩ := and_e hg
  obtain ⟨ga2, gb2⟩ := and_e gb1
  obtain ⟨ga3, gb3⟩ := and_e gb2
  obtain ⟨w0, w1, w2, rfl⟩ : ∃ w0 w1 w2 : Value, args = #[w0, w1, w2] := by
    have hs : args.size = 3 := by simpa [Cond.value, given_1] using ga1
    obtain ⟨L⟩ := args
    match L, hs with
    | [w0, w1, w2], _ => exact ⟨w0, w1, w2, rfl⟩
  have hw := fun d (hd : d ∈ tables_1) => atoms_spec (ws := Jvm.Cond.code x code maxLocals ret :: tables_1) hat d (List.mem_cons_of_mem _ hd)
  have hfit : Fit s := fun {y c} hc i hi => by
    obtain ⟨ha, rfl⟩ := Array.getElem?_eq_some_iff.mp hc
    have q := List.all_eq_true.mp ((Array.all_eq_true_iff_forall_mem.mp hF) _ (Array.getElem_mem ha)) i (List.mem_range.mpr hi)
    simpa [Array.getElem?_eq_getElem hi] using q
  obtain ⟨i0, ei0⟩ := isL_v ga2
  obtain rfl : w0 = (.long i0) := Option.some.inj ei0
  obtain ⟨i1, ei1⟩ := isL_v ga3
  obtain rfl : w1 = (.long i1) := Option.some.inj ei1
  obtain ⟨i2, ei2⟩ := is_v gb3
  obtain rfl : w2 = (.int i2) := Option.some.inj ei2
  obtain ⟨na1, nb1⟩ := and_e hn
  obtain ⟨na2, nb2⟩ := and_e nb1
  obtain ⟨na3, nb3⟩ := and_e nb2
  obtain ⟨na4, nb4⟩ := and_e nb3
  obtain ⟨na5, nb5⟩ := and_e nb4
  obtain ⟨s_FAT12, ev_FAT12⟩ := exa_v na1
  have S_FAT12 := Sta.start ev_FAT12 (Or.inr ⟨hw _ (List.mem_of_getElem? (i := 4) rfl), hw _ (List.mem_of_getElem? (i := 8) rfl)⟩)
  have E_FAT12 := Exa.start ev_FAT12 na1
  obtain ⟨s_FAT16, ev_FAT16⟩ := exa_v na2
  have S_FAT16 := Sta.start ev_FAT16 (Or.inr ⟨hw _ (List.mem_of_getElem? (i := 4) rfl), hw _ (List.mem_of_getElem? (i := 16) rfl)⟩)
  have E_FAT16 := Exa.start ev_FAT16 na2
  obtain ⟨s_FAT32, ev_FAT32⟩ := exa_v na5
  have S_FAT32 := Sta.start ev_FAT32 (Or.inr ⟨hw _ (List.mem_of_getElem? (i := 4) rfl), hw _ (List.mem_of_getElem? (i := 19) rfl)⟩)
  have E_FAT32 := Exa.start ev_FAT32 na5
  have F_FAT16_ordinal := Fld.start ((fld_at ev_FAT16).symm.trans (own_eqi na3))
  have F_FAT12_ordinal := Fld.start ((fld_at ev_FAT12).symm.trans (own_eqi na4))
  have F_FAT32_ordinal := Fld.start ((fld_at ev_FAT32).symm.trans (own_eqi nb5))
  have n12 := Fld.ne F_FAT12_ordinal F_FAT16_ordinal (by decide)
  have n13 := Fld.ne F_FAT12_ordinal F_FAT32_ordinal (by decide)
  have n23 := Fld.ne F_FAT16_ordinal F_FAT32_ordinal (by decide)
  obtain ⟨n, o, h1, h2, h3, _, L, rfl, ⟨rfl, N⟩, hq⟩ := rm0 l s _ hw tables_1 i0 i1 i2 s_FAT12 s_FAT16 s_FAT32 s.heap s.heap.size (Nat.le_refl _) S_FAT12 S_FAT16 S_FAT32 n12 n13 n23 p e ha hc hk s m _ below hf ((Spec.applies_iff_loose hf).mp happ).1 ⟨rfl, State.Warmed39.refl s, rfl⟩ trivial
  refine ⟨n, _, h1, h2, h3, hpost _ _ _ _ _ _ ⟨Cond.after_iff.mpr rfl, Cond.after_iff.mpr (eq_i res_at (Term.int_eval (1)) rfl), trivial⟩ ⟨hq.1, hq.2.1, (hq.2.2.sift fun y hy => Or.inr (N y hy)).mono (by decide) (by decide)⟩⟩
theorem main_1_1 : Claimed_1_1 := comes_1 fun _ _ _ _ _ _ h hF => ⟨h.1, hF⟩
theorem main_1_2 : Claimed_1_2 := comes_1 fun _ _ _ _ _ _ h hF => ⟨h.2.1, hF⟩
end Jvm.Pilot.@@N@@
namespace Jvm.Pilot.@@N@@
open Jvm Jvm.ClassFile Sem Op Lib Jvm.Free Jvm.Stand Jvm.Pilot.@@N@@.Jvm.D
/-! MADE BY PROGRAM (witnessworld.py) out of the Statement's table words and the real class files: 12 classes; the members and pool entries that the words name. The judged class is class 1, her method 3. -/
namespace start1
open Jvm.ClassFile
def u (s : String) : CpInfo := .utf8 (stringToUtf16 s)
/-- a pool by its gaps: so many unusable entries, then the entry; so many at the end -/
def gap : Nat → List CpInfo → List CpInfo
  | 0, r => r
  | n + 1, r => .unusable :: gap n r
def poolList (es : List (Nat × CpInfo)) (last : Nat) : List CpInfo := es.foldr (fun e r => gap e.1 (e.2 :: r)) (gap last [])
def pool (es : List (Nat × CpInfo)) (last : Nat) : Array CpInfo := ⟨poolList es last⟩
def fileOf (pool : Array CpInfo) (this : Nat) (attrs : Array Attribute := #[]) (ms : Array MethodInfo := #[]) (fl : Nat := 33) (sup : Nat := 0) (ifs : Array Nat := #[]) (fds : Array FieldInfo := #[]) : ClassFile where
  minorVersion := 0
  majorVersion := 65
  constantPool := pool
  accessFlags := fl
  thisClass := this
  superClass := sup
  interfaces := ifs
  fields := fds
  methods := ms
  attributes := attrs
def plain (name : String) (sup : Option ClassId) : Class where
  name := name
  kind := .ordinary
  loader := none
  accessFlags := 33
  super := sup
  interfaces := #[]
  cf := none
  fields := #[]
  methods := #[]
  instanceTypes := #[]
  staticTypes := #[]
  resolved := #[]
  callSites := []
  init := .initialized
  statics := none
  mirror := none

def pool0 : Array CpInfo := pool [(5, u "<init>"), (0, u "()V"), (1, .class_ 10), (1, u "java/lang/Object")] 113

def k0m0 : Method := { name := "<init>", desc := "()V", sig := { parameters := [], returnType := none }, accessFlags := 1, code := none }
/-- java/lang/Object -/
def k0 : Class := { plain "java/lang/Object" none with
  accessFlags := 33
  interfaces := #[]
  cf := some (fileOf pool0 8 #[] #[{ accessFlags := 1, nameIndex := 5, descriptorIndex := 6, attributes := #[] }] 33 0 #[] #[])
  fields := #[]
  methods := #[k0m0]
  instanceTypes := #[]
  staticTypes := #[]
  resolved := Array.replicate 124 none
  statics := none }

def pool1 : Array CpInfo := pool [(2, .class_ 4), (1, u "java/lang/Object"), (0, u "<init>"), (0, u "()V"), (0, .fieldref 8 9), (0, .class_ 10), (0, .nameAndType 11 12), (0, u "com/example/bittern/bittern/volume/FatType"), (0, u "FAT12"), (0, u "Lcom/example/bittern/bittern/volume/FatType;"), (0, .fieldref 8 14), (0, .nameAndType 15 12), (0, u "FAT16"), (0, .fieldref 8 17), (0, .nameAndType 18 12), (0, u "FAT32"), (0, .long 4085), (1, .long 65525), (1, .methodref 8 24), (0, .nameAndType 25 26), (0, u "ofClusterCount"), (0, u "(J)Lcom/example/bittern/bittern/volume/FatType;"), (0, .methodref 28 29), (0, .class_ 30), (0, .nameAndType 31 32), (0, u "com/example/bittern/bittern/volume/FatTypeOfClusterCountPinLaw"), (0, u "rank"), (0, u "(Lcom/example/bittern/bittern/volume/FatType;)I"), (0, .methodref 28 34), (0, .nameAndType 35 36), (0, u "expected"), (0, u "(J)I"), (3, u "law"), (0, u "(JJI)Z")] 2

def k1m0 : Method := { name := "<init>", desc := "()V", sig := { parameters := [], returnType := none }, accessFlags := 1, code := none }
def k1c1 : Code := { maxStack := 2, maxLocals := 1, code := method_2_code, exceptionTable := #[], attributes := #[] }
def k1m1 : Method := { name := "rank", desc := "(Lcom/example/bittern/bittern/volume/FatType;)I", sig := { parameters := [(.object "com/example/bittern/bittern/volume/FatType")], returnType := some .int }, accessFlags := 10, code := some k1c1 }
def k1c2 : Code := { maxStack := 5, maxLocals := 2, code := method_3_code, exceptionTable := #[], attributes := #[] }
def k1m2 : Method := { name := "expected", desc := "(J)I", sig := { parameters := [.long], returnType := some .int }, accessFlags := 10, code := some k1c2 }
def k1c3 : Code := { maxStack := 4, maxLocals := 13, code := code, exceptionTable := #[], attributes := #[] }
def k1m3 : Method := { name := "law", desc := "(JJI)Z", sig := { parameters := [.long, .long, .int], returnType := some .boolean }, accessFlags := 9, code := some k1c3 }
/-- com/example/bittern/bittern/volume/FatTypeOfClusterCountPinLaw -/
def k1 : Class := { plain "com/example/bittern/bittern/volume/FatTypeOfClusterCountPinLaw" (some 0) with
  accessFlags := 49
  interfaces := #[]
  cf := some (fileOf pool1 28 #[] #[{ accessFlags := 1, nameIndex := 5, descriptorIndex := 6, attributes := #[] }, { accessFlags := 10, nameIndex := 31, descriptorIndex := 32, attributes := #[] }, { accessFlags := 10, nameIndex := 35, descriptorIndex := 36, attributes := #[] }, { accessFlags := 9, nameIndex := 40, descriptorIndex := 41, attributes := #[] }] 49 2 #[] #[])
  fields := #[]
  methods := #[k1m0, k1m1, k1m2, k1m3]
  instanceTypes := #[]
  staticTypes := #[]
  resolved := Array.replicate 44 none
  statics := none }

def pool2 : Array CpInfo := pool [(1, .class_ 2), (0, u "java/lang/constant/Constable"), (0, .class_ 4), (0, u "java/lang/Object")] 6

/-- java/lang/constant/Constable -/
def k2 : Class := { plain "java/lang/constant/Constable" (some 0) with
  accessFlags := 1537
  interfaces := #[]
  cf := some (fileOf pool2 1 #[] #[] 1537 3 #[] #[])
  fields := #[]
  methods := #[]
  instanceTypes := #[]
  staticTypes := #[]
  resolved := Array.replicate 11 none
  statics := none }

def pool3 : Array CpInfo := pool [(1, .class_ 2), (0, u "java/lang/Comparable"), (0, .class_ 4), (0, u "java/lang/Object")] 7

/-- java/lang/Comparable -/
def k3 : Class := { plain "java/lang/Comparable" (some 0) with
  accessFlags := 1537
  interfaces := #[]
  cf := some (fileOf pool3 1 #[] #[] 1537 3 #[] #[])
  fields := #[]
  methods := #[]
  instanceTypes := #[]
  staticTypes := #[]
  resolved := Array.replicate 12 none
  statics := none }

def pool4 : Array CpInfo := pool [(1, .class_ 2), (0, u "java/io/Serializable"), (0, .class_ 4), (0, u "java/lang/Object")] 2

/-- java/io/Serializable -/
def k4 : Class := { plain "java/io/Serializable" (some 0) with
  accessFlags := 1537
  interfaces := #[]
  cf := some (fileOf pool4 1 #[] #[] 1537 3 #[] #[])
  fields := #[]
  methods := #[]
  instanceTypes := #[]
  staticTypes := #[]
  resolved := Array.replicate 7 none
  statics := none }

def pool5 : Array CpInfo := pool [(2, .class_ 4), (1, u "java/lang/Enum"), (0, u "name"), (0, u "Ljava/lang/String;"), (2, u "ordinal"), (0, u "I"), (1, .class_ 14), (1, u "java/lang/Object"), (4, u "hash"), (86, .class_ 108), (1, u "java/lang/Enum$EnumDesc"), (2, .class_ 112), (0, u "java/lang/constant/Constable"), (0, .class_ 114), (0, u "java/lang/Comparable"), (0, .class_ 116), (0, u "java/io/Serializable")] 87

/-- java/lang/Enum -/
def k5 : Class := { plain "java/lang/Enum" (some 0) with
  accessFlags := 1057
  interfaces := #[2, 3, 4]
  cf := some (fileOf pool5 2 #[.nestMembers #[106]] #[] 1057 12 #[111, 113, 115] #[{ accessFlags := 18, nameIndex := 5, descriptorIndex := 6, attributes := #[] }, { accessFlags := 18, nameIndex := 9, descriptorIndex := 10, attributes := #[] }, { accessFlags := 2, nameIndex := 19, descriptorIndex := 10, attributes := #[] }])
  fields := #[{ name := "name", type := (.object "java/lang/String"), accessFlags := 18, slot := 0, constantValue := 0 }, { name := "ordinal", type := .int, accessFlags := 18, slot := 1, constantValue := 0 }, { name := "hash", type := .int, accessFlags := 2, slot := 2, constantValue := 0 }]
  methods := #[]
  instanceTypes := #[(.object "java/lang/String"), .int, .int]
  staticTypes := #[]
  resolved := Array.replicate 204 none
  statics := none }

def pool6 : Array CpInfo := pool [(1, .class_ 2), (0, u "com/example/bittern/bittern/volume/FatType"), (0, .fieldref 1 4), (0, .nameAndType 5 6), (0, u "FAT12"), (0, u "Lcom/example/bittern/bittern/volume/FatType;"), (0, .fieldref 1 8), (0, .nameAndType 9 6), (0, u "FAT16"), (0, .fieldref 1 11), (0, .nameAndType 12 6), (0, u "FAT32"), (2, u "$VALUES"), (0, u "[Lcom/example/bittern/bittern/volume/FatType;"), (6, .class_ 25), (1, u "java/lang/Enum"), (8, u "bits"), (0, u "I"), (2, u "mask"), (0, u "J"), (0, .long 4085), (1, .long 65525), (35, u "FAT16_MIN_CLUSTERS"), (1, u "FAT32_MIN_CLUSTERS"), (7, u "ofClusterCount"), (0, u "(J)Lcom/example/bittern/bittern/volume/FatType;")] 13

def k6c0 : Code := { maxStack := 4, maxLocals := 3, code := prog_21_method_4_code, exceptionTable := #[], attributes := #[] }
def k6m0 : Method := { name := "ofClusterCount", desc := "(J)Lcom/example/bittern/bittern/volume/FatType;", sig := { parameters := [.long], returnType := some (.object "com/example/bittern/bittern/volume/FatType") }, accessFlags := 9, code := some k6c0 }
/-- com/example/bittern/bittern/volume/FatType -/
def k6 : Class := { plain "com/example/bittern/bittern/volume/FatType" (some 5) with
  accessFlags := 16433
  interfaces := #[]
  cf := some (fileOf pool6 1 #[] #[{ accessFlags := 9, nameIndex := 88, descriptorIndex := 89, attributes := #[] }] 16433 23 #[] #[{ accessFlags := 16409, nameIndex := 5, descriptorIndex := 6, attributes := #[] }, { accessFlags := 16409, nameIndex := 9, descriptorIndex := 6, attributes := #[] }, { accessFlags := 16409, nameIndex := 12, descriptorIndex := 6, attributes := #[] }, { accessFlags := 26, nameIndex := 78, descriptorIndex := 39, attributes := #[] }, { accessFlags := 26, nameIndex := 80, descriptorIndex := 39, attributes := #[] }, { accessFlags := 18, nameIndex := 34, descriptorIndex := 35, attributes := #[] }, { accessFlags := 18, nameIndex := 38, descriptorIndex := 39, attributes := #[] }, { accessFlags := 4122, nameIndex := 15, descriptorIndex := 16, attributes := #[] }])
  fields := #[{ name := "FAT12", type := (.object "com/example/bittern/bittern/volume/FatType"), accessFlags := 16409, slot := 0, constantValue := 0 }, { name := "FAT16", type := (.object "com/example/bittern/bittern/volume/FatType"), accessFlags := 16409, slot := 1, constantValue := 0 }, { name := "FAT32", type := (.object "com/example/bittern/bittern/volume/FatType"), accessFlags := 16409, slot := 2, constantValue := 0 }, { name := "FAT16_MIN_CLUSTERS", type := .long, accessFlags := 26, slot := 3, constantValue := 0 }, { name := "FAT32_MIN_CLUSTERS", type := .long, accessFlags := 26, slot := 4, constantValue := 0 }, { name := "bits", type := .int, accessFlags := 18, slot := 3, constantValue := 0 }, { name := "mask", type := .long, accessFlags := 18, slot := 4, constantValue := 0 }, { name := "$VALUES", type := (.array (.object "com/example/bittern/bittern/volume/FatType")), accessFlags := 4122, slot := 5, constantValue := 0 }]
  methods := #[k6m0]
  instanceTypes := #[(.object "java/lang/String"), .int, .int, .int, .long]
  staticTypes := #[(.object "com/example/bittern/bittern/volume/FatType"), (.object "com/example/bittern/bittern/volume/FatType"), (.object "com/example/bittern/bittern/volume/FatType"), .long, .long, (.array (.object "com/example/bittern/bittern/volume/FatType"))]
  resolved := Array.replicate 103 none
  statics := some 0 }

def pool7 : Array CpInfo := pool [(1, u "java/lang/Cloneable"), (0, .class_ 1), (0, u "java/lang/Object"), (0, .class_ 3)] 3

/-- java/lang/Cloneable -/
def k7 : Class := { plain "java/lang/Cloneable" (some 0) with
  accessFlags := 1537
  interfaces := #[]
  cf := some (fileOf pool7 2 #[] #[] 1537 4 #[] #[])
  fields := #[]
  methods := #[]
  instanceTypes := #[]
  staticTypes := #[]
  resolved := Array.replicate 8 none
  statics := none }

/-- the primitive byte -/
def k8 : Class := { plain "byte" none with kind := .primitive 'B', accessFlags := 0x411 }
/-- [B -/
def k9 : Class := { plain "[B" (some 0) with kind := .array 8 .byte, interfaces := #[7, 4], accessFlags := 1041 }

/-- the primitive int -/
def k10 : Class := { plain "int" none with kind := .primitive 'I', accessFlags := 0x411 }
/-- [I -/
def k11 : Class := { plain "[I" (some 0) with kind := .array 10 .int, interfaces := #[7, 4], accessFlags := 1041 }

def heap : Heap := #[{ cls := 6, slots := #[.ref 1, .ref 2, .ref 3, .long 0, .long 0, .null], vm := .statics 6 },
  { cls := 6, slots := #[.null, .int 0, .int 0, .int 12, .long 4095], vm := .none },
  { cls := 6, slots := #[.null, .int 1, .int 0, .int 16, .long 65535], vm := .none },
  { cls := 6, slots := #[.null, .int 2, .int 0, .int 32, .long 268435455], vm := .none }]
def classes : Array Class := #[k0, k1, k2, k3, k4, k5, k6, k7, k8, k9, k10, k11]
def interned : List (Array UInt16 × Addr) := []
def slotsUsed : Nat := 21
def theMethod : MethodId := ⟨1, 3⟩
def args0 : Array Value := #[.long 5, .long 7, .int 3]
def aboutOver (below : List Frame) : State where
  vm := { classes := classes, interned := interned.toArray }
  heap := heap
  slotsUsed := slotsUsed
  threads := #[{ frames := .invoking theMethod args0 :: below }]
def below0 : List Frame := [.native { method := ⟨0, 0⟩, args := #[] }]
def about1 : State := aboutOver below0
def p0 : Program := .bare "" "" ""
def e0 : Env := launch0.env 0 0 0
theorem w_frames : about1.frames = Frame.invoking theMethod args0 :: below0 := rfl
set_option maxRecDepth 65536 in
theorem w_args : argsFit about1.vm theMethod args0 = true := by decide +kernel
set_option maxRecDepth 65536 in
theorem w_heap : heapFits about1 = true := by decide +kernel
set_option maxRecDepth 65536 in
theorem w_runnable : about1.curStatus? = some .runnable := by decide +kernel
set_option maxRecDepth 65536 in
theorem w_alone : about1.alone = true := by decide +kernel
set_option maxRecDepth 65536 in
theorem w_named : about1.methodNamed? x = some theMethod := by decide +kernel
set_option maxRecDepth 65536 in
theorem w_hears : about1.hears theMethod below0 = true := by decide +kernel
set_option maxRecDepth 65536 in
theorem w_ripe : about1.ripe theMethod args0 below0 = true := by decide +kernel
theorem w_running : about1.status = .running := rfl
set_option maxRecDepth 65536 in
theorem w_room : about1.hasRoom e0.platform room_1 = true :=
  launch0.hasRoom_least _ room_1 (by decide +kernel) (by decide +kernel) (by decide +kernel) (by decide +kernel) (by decide +kernel) (by decide +kernel)
theorem allAtoms_all (ts : List Jvm.Cond) (a : Array Jvm.Value) (st : Jvm.State) : (allAtoms ts).before a st = ts.all (fun c => c.before a st) := by
  induction ts with
  | nil => rfl
  | cons c t ih =>
    show (Jvm.Cond.and c (allAtoms t)).before a st = _
    rw [Jvm.Cond.before_and, ih, List.all_cons]
def words1 : List Jvm.Cond := Jvm.Cond.code x code maxLocals ret :: tables_1
/-- a 'code' word, met by the world's own term for the bytes: nothing is compared byte by byte -/
theorem code_word {y : MethodName} {bytes : ByteArray} {mx : Nat} {rt : Option FieldType} {a : Array Value} {s : State} {m : MethodId} {meth : Method} {c : Code} (h1 : s.methodNamed? y = some m) (h2 : s.vm.method? m = some meth) (h3 : meth.code = some c) (h4 : c.code = bytes)
    (h5 : (c.maxLocals == mx && c.exceptionTable.isEmpty && decide (c.maxStack ≤ mostOperands) && decide (meth.sig.returnType = rt) && !meth.locks && decide (parseMethodDescriptor y.desc = some meth.sig)) = true) : (Jvm.Cond.code y bytes mx rt).before a s = true := by
  simp only [Bool.and_eq_true, beq_iff_eq, Bool.not_eq_true', decide_eq_true_eq] at h5
  obtain ⟨⟨⟨⟨⟨g1, g2⟩, g3⟩, g4⟩, g5⟩, g6⟩ := h5
  simp [Cond.before, Cond.holds, Cond.value, h1, h2, h3, h4, g1, g2, g3, g4, g5, g6]
def isCode : Jvm.Cond → Bool
  | .code _ _ _ _ => true
  | _ => false
theorem all_split {L : List Jvm.Cond} {P : Jvm.Cond → Bool} (h1 : L.all (fun c => isCode c || P c) = true) (h2 : ∀ c ∈ L.filter isCode, P c = true) : L.all P = true := by
  refine List.all_eq_true.mpr fun c hc => ?_
  have h := List.all_eq_true.mp h1 c hc
  rcases Bool.eq_false_or_eq_true (isCode c) with hi | hi
  · exact h2 c (List.mem_filter.mpr ⟨hc, hi⟩)
  · simpa [hi] using h
set_option maxRecDepth 65536 in
theorem w_c0 : (Jvm.Cond.code x code maxLocals ret).before args0 about1 = true := code_word (m := ⟨1, 3⟩) (meth := k1m3) (c := k1c3) (by decide +kernel) rfl rfl rfl (by decide +kernel)
set_option maxRecDepth 65536 in
theorem w_c1 : (Jvm.Cond.code ({ cls := "com/example/bittern/bittern/volume/FatType", name := "ofClusterCount", desc := "(J)Lcom/example/bittern/bittern/volume/FatType;" } : Jvm.MethodName) prog_21_method_4_code (3 : Nat) (Option.some (Jvm.ClassFile.FieldType.object "com/example/bittern/bittern/volume/FatType"))).before args0 about1 = true := code_word (m := ⟨6, 0⟩) (meth := k6m0) (c := k6c0) (by decide +kernel) rfl rfl rfl (by decide +kernel)
set_option maxRecDepth 65536 in
theorem w_c2 : (Jvm.Cond.code ({ cls := "com/example/bittern/bittern/volume/FatTypeOfClusterCountPinLaw", name := "rank", desc := "(Lcom/example/bittern/bittern/volume/FatType;)I" } : Jvm.MethodName) method_2_code (1 : Nat) (Option.some Jvm.ClassFile.FieldType.int)).before args0 about1 = true := code_word (m := ⟨1, 1⟩) (meth := k1m1) (c := k1c1) (by decide +kernel) rfl rfl rfl (by decide +kernel)
set_option maxRecDepth 65536 in
theorem w_c3 : (Jvm.Cond.code ({ cls := "com/example/bittern/bittern/volume/FatTypeOfClusterCountPinLaw", name := "expected", desc := "(J)I" } : Jvm.MethodName) method_3_code (2 : Nat) (Option.some Jvm.ClassFile.FieldType.int)).before args0 about1 = true := code_word (m := ⟨1, 2⟩) (meth := k1m2) (c := k1c2) (by decide +kernel) rfl rfl rfl (by decide +kernel)
def codes1 : List Jvm.Cond := [Jvm.Cond.code x code maxLocals ret, Jvm.Cond.code ({ cls := "com/example/bittern/bittern/volume/FatType", name := "ofClusterCount", desc := "(J)Lcom/example/bittern/bittern/volume/FatType;" } : Jvm.MethodName) prog_21_method_4_code (3 : Nat) (Option.some (Jvm.ClassFile.FieldType.object "com/example/bittern/bittern/volume/FatType")), Jvm.Cond.code ({ cls := "com/example/bittern/bittern/volume/FatTypeOfClusterCountPinLaw", name := "rank", desc := "(Lcom/example/bittern/bittern/volume/FatType;)I" } : Jvm.MethodName) method_2_code (1 : Nat) (Option.some Jvm.ClassFile.FieldType.int), Jvm.Cond.code ({ cls := "com/example/bittern/bittern/volume/FatTypeOfClusterCountPinLaw", name := "expected", desc := "(J)I" } : Jvm.MethodName) method_3_code (2 : Nat) (Option.some Jvm.ClassFile.FieldType.int)]
set_option maxRecDepth 65536 in
theorem codes_eq : words1.filter isCode = codes1 := rfl
theorem w_codes : ∀ c ∈ words1.filter isCode, c.before args0 about1 = true := by
  rw [codes_eq]
  intro c hc
  simp only [codes1, List.mem_cons, List.not_mem_nil, or_false] at hc
  rcases hc with rfl | rfl | rfl | rfl
  · exact w_c0
  · exact w_c1
  · exact w_c2
  · exact w_c3
set_option maxRecDepth 65536 in
theorem w_t1 : (words1.take 24).all (fun c => isCode c || c.before args0 about1) = true := by decide +kernel
set_option maxRecDepth 65536 in
theorem w_t2 : (words1.drop 24).all (fun c => isCode c || c.before args0 about1) = true := by decide +kernel
theorem w_tables : (allAtoms (Jvm.Cond.code x code maxLocals ret :: tables_1)).before args0 about1 = true := by
  rw [allAtoms_all]
  show words1.all (fun c => c.before args0 about1) = true
  refine all_split ?_ w_codes
  rw [← List.take_append_drop 24 words1, List.all_append, w_t1, w_t2]
  rfl
set_option maxRecDepth 65536 in
theorem w_case : (Jvm.Cond.and given_1 narrow_1).before args0 about1 = true := by decide +kernel
theorem w_applies : (headSpec (Jvm.Cond.code x code maxLocals ret :: tables_1) room_1).applies x e0.platform about1 = true :=
  (Spec.applies_iff w_frames).mpr ⟨w_running, w_runnable, w_alone, w_named, w_hears, w_ripe, w_room, w_tables⟩
theorem atStart : AtStart classFile x code maxLocals ret World_1 tables_1 room_1 Calls_1 rest_1 Pre_1 launch0 p0 e0 about1 theMethod args0 below0 :=
  ⟨lists_1, trivial, launch0.admits_env _ _ _, launch0.least_env, fairChoices_fair.cas, fairChoices_fair.clock, w_frames, w_args, w_heap, w_applies, trivial, trivial, w_case⟩
end start1
theorem witness_1 : WitnessClaimed_1 := ⟨start1.p0, start1.e0, start1.about1, start1.theMethod, start1.args0, start1.below0, start1.atStart⟩
end Jvm.Pilot.@@N@@
