import JvmDerived
import JvmDerived.Pilot.@@N@@Statement
import JvmDerived.Pilot.@@N@@Code
set_option linter.unusedVariables false
set_option linter.unusedSimpArgs false
namespace Jvm.Pilot.@@N@@
open Jvm Jvm.ClassFile Sem Op Lib Jvm.Free Jvm.Stand Jvm.LawKit Jvm.RoadKit Bundle Jvm.Pilot.@@N@@.Jvm.D
section OwnKit
variable {p : Program} {l : Launch} {e : Env} {R : Room} {s : State} {m : MethodId} {args : Array Value} {below : List Frame} {meth : Method} {c : Code} {T : State} {locs : List Loc} {cells slots : Nat}
theorem own_retI (X : Stand p l e R s m args below meth c T locs cells slots) (hx : p.tables.exec = Jvm.exec) {pc : Nat} {Ls : Array Slot} {z : Int32} {rest : List Value} (hret : meth.sig.returnType = some .int) (hd : decode c.code pc = .ok (.ireturn, 1)) {fs : List Frame}
    (hl : ∀ (f : JFrame) (acts : List Action), f.method = m → f.locked = none → f.entered = [] → (doReturn e (T.setTop f) acts (some (.int z))).1 = T.setFrames fs) : Steps p.tables e below (T.setTop (mkF m pc Ls (.int z :: rest))) (T.setFrames fs) := by
  have hm' : T.vm.method? m = some meth := X.method'
  have hn : narrow .int (.int z) = .int z := rfl
  show Steps p.tables e below (T.setTop { method := m, pc := pc, locals := Ls, stack := _ :: rest, locked := none }) _
  jvm_step X.here [X.here.top, hx, hd, hm', hret, hn]
  first | (intro acts; rw [hl _ acts rfl rfl rfl]) | rw [hl _ _ rfl rfl rfl]
  exact Steps.refl _
theorem own_retJ (X : Stand p l e R s m args below meth c T locs cells slots) (hx : p.tables.exec = Jvm.exec) {pc : Nat} {Ls : Array Slot} {z : Int64} {rest : List Value} (hret : meth.sig.returnType = some .long) (hd : decode c.code pc = .ok (.lreturn, 1)) {fs : List Frame}
    (hl : ∀ (f : JFrame) (acts : List Action), f.method = m → f.locked = none → f.entered = [] → (doReturn e (T.setTop f) acts (some (.long z))).1 = T.setFrames fs) : Steps p.tables e below (T.setTop (mkF m pc Ls (.long z :: rest))) (T.setFrames fs) := by
  have hm' : T.vm.method? m = some meth := X.method'
  have hn : narrow .long (.long z) = .long z := rfl
  show Steps p.tables e below (T.setTop { method := m, pc := pc, locals := Ls, stack := _ :: rest, locked := none }) _
  jvm_step X.here [X.here.top, hx, hd, hm', hret, hn]
  first | (intro acts; rw [hl _ acts rfl rfl rfl]) | rw [hl _ _ rfl rfl rfl]
  exact Steps.refl _
theorem own_retA (X : Stand p l e R s m args below meth c T locs cells slots) (hx : p.tables.exec = Jvm.exec) {pc : Nat} {Ls : Array Slot} {w : Value} {t : FieldType} {rest : List Value} (hret : meth.sig.returnType = some t) (ht : t.isReference = true) (hw : w.isRef = true) (hd : decode c.code pc = .ok (.areturn, 1)) {fs : List Frame}
    (hl : ∀ (f : JFrame) (acts : List Action), f.method = m → f.locked = none → f.entered = [] → (doReturn e (T.setTop f) acts (some w)).1 = T.setFrames fs) : Steps p.tables e below (T.setTop (mkF m pc Ls (w :: rest))) (T.setFrames fs) :=
  retOut X hx hret (by cases t <;> first | (cases ht; done) | (cases w <;> first | rfl | (cases hw; done))) (Or.inr (Or.inr (Or.inr (Or.inr ⟨rfl, ht, hw⟩)))) hd hl
/-- the run from S ends, returned, as Q says -/
def OwnR (p : Program) (e : Env) (below : List Frame) (s : State) (Q : Option Value → Heap → List Loc → Prop) (kc ks : Nat) (S : State) : Prop :=
  ∃ s₂ o, Steps p.tables e below S s₂ ∧ s₂.status = .running ∧ Ended s₂ below o ∧ ∃ v L, o = .returned v ∧ Q v s₂.heap L ∧ FrameEnd s o s₂ L kc ks
theorem OwnR.of {Q : Option Value → Heap → List Loc → Prop} {kc ks : Nat} {S S' : State} (k : ∀ t, Steps p.tables e below S' t → Steps p.tables e below S t) (h : OwnR p e below s Q kc ks S') : OwnR p e below s Q kc ks S := by
  obtain ⟨a, o, h1, h2⟩ := h
  exact ⟨a, o, k a h1, h2⟩
theorem own_leafI (X : Stand p l e R s m args below meth c T locs cells slots) (hx : p.tables.exec = Jvm.exec) (hlk : meth.locks = false) (hret : meth.sig.returnType = some .int) {Q : Option Value → Heap → List Loc → Prop} {kc ks pc : Nat} {Ls : Array Slot} {z : Int32} {rest : List Value} (hd : decode c.code pc = .ok (.ireturn, 1)) (hk : cells ≤ kc) (hs : slots ≤ ks) (hQ : Q (some (.int z)) T.heap locs) :
    OwnR p e below s Q kc ks (T.setTop (mkF m pc Ls (.int z :: rest))) := by
  obtain ⟨fs, hr, hrun, hended, hW, hsame⟩ := X.leave (v := some (.int z)) (fun h => by rw [hret] at h; cases h) hlk
  exact ⟨_, _, own_retI X hx hret hd hr, hrun, hended, _, _, rfl, hQ, ⟨_, rfl⟩, hW, hsame.mono hk hs⟩
theorem own_leafN (X : Stand p l e R s m args below meth c T locs cells slots) (hx : p.tables.exec = Jvm.exec) (hlk : meth.locks = false) {t : FieldType} (hret : meth.sig.returnType = some t) (ht : t = .boolean ∨ t = .byte ∨ t = .char ∨ t = .short) {Q : Option Value → Heap → List Loc → Prop} {kc ks pc : Nat} {Ls : Array Slot} {z z' : Int32} {rest : List Value} (hd : decode c.code pc = .ok (.ireturn, 1)) (hz : nar t z = z') (hk : cells ≤ kc) (hs : slots ≤ ks) (hQ : Q (some (.int z')) T.heap locs) :
    OwnR p e below s Q kc ks (T.setTop (mkF m pc Ls (.int z :: rest))) := by
  subst hz
  obtain ⟨fs, hr, hrun, hended, hW, hsame⟩ := X.leave (v := some (.int (nar t z))) (fun h => by rw [hret] at h; cases h) hlk
  exact ⟨_, _, retN X hx hret ht hd hr, hrun, hended, _, _, rfl, hQ, ⟨_, rfl⟩, hW, hsame.mono hk hs⟩
theorem own_leafJ (X : Stand p l e R s m args below meth c T locs cells slots) (hx : p.tables.exec = Jvm.exec) (hlk : meth.locks = false) (hret : meth.sig.returnType = some .long) {Q : Option Value → Heap → List Loc → Prop} {kc ks pc : Nat} {Ls : Array Slot} {z : Int64} {rest : List Value} (hd : decode c.code pc = .ok (.lreturn, 1)) (hk : cells ≤ kc) (hs : slots ≤ ks) (hQ : Q (some (.long z)) T.heap locs) :
    OwnR p e below s Q kc ks (T.setTop (mkF m pc Ls (.long z :: rest))) := by
  obtain ⟨fs, hr, hrun, hended, hW, hsame⟩ := X.leave (v := some (.long z)) (fun h => by rw [hret] at h; cases h) hlk
  exact ⟨_, _, own_retJ X hx hret hd hr, hrun, hended, _, _, rfl, hQ, ⟨_, rfl⟩, hW, hsame.mono hk hs⟩
theorem own_leafA (X : Stand p l e R s m args below meth c T locs cells slots) (hx : p.tables.exec = Jvm.exec) (hlk : meth.locks = false) {t : FieldType} (hret : meth.sig.returnType = some t) (ht : t.isReference = true) {Q : Option Value → Heap → List Loc → Prop} {kc ks pc : Nat} {Ls : Array Slot} {w : Value} (hw : w.isRef = true) {rest : List Value} (hd : decode c.code pc = .ok (.areturn, 1)) (hk : cells ≤ kc) (hs : slots ≤ ks) (hQ : Q (some w) T.heap locs) :
    OwnR p e below s Q kc ks (T.setTop (mkF m pc Ls (w :: rest))) := by
  obtain ⟨fs, hr, hrun, hended, hW, hsame⟩ := X.leave (v := some w) (fun h => by rw [hret] at h; cases h) hlk
  exact ⟨_, _, own_retA X hx hret ht hw hd hr, hrun, hended, _, _, rfl, hQ, ⟨_, rfl⟩, hW, hsame.mono hk hs⟩
theorem own_leafV (X : Stand p l e R s m args below meth c T locs cells slots) (hx : p.tables.exec = Jvm.exec) (hlk : meth.locks = false) (hret : meth.sig.returnType = none) {Q : Option Value → Heap → List Loc → Prop} {kc ks pc : Nat} {Ls : Array Slot} (hd : decode c.code pc = .ok (.return_, 1)) (hk : cells ≤ kc) (hs : slots ≤ ks) (hQ : Q none T.heap locs) :
    OwnR p e below s Q kc ks (T.setTop (mkF m pc Ls [])) := by
  obtain ⟨fs, hr, hrun, hended, hW, hsame⟩ := X.leave (v := none) (fun _ => rfl) hlk
  exact ⟨_, _, X.returnOut hx hret hd hr, hrun, hended, _, _, rfl, hQ, ⟨_, rfl⟩, hW, hsame.mono hk hs⟩
theorem own_sta {Z : State} {h h' : Heap} {C n d : String} {v : Value} (F : Sta Z h C n d v) (K : Keep h h' []) : Sta Z h' C n d v := by
  obtain ⟨cf, i, k, f, st, cell, h1, h2, h3, h4, h5, r⟩ := F
  exact ⟨cf, i, k, f, st, cell, h1, h2, h3, h4, K.2.1 _ _ h5 nin0, r⟩
theorem own_arr {Z : State} {h h' : Heap} {a : Addr} {c : Cell} {ty : FieldType} {ws : List Addr} (A : Arr Z h a c ty) (K : Keep h h' ws) (q : a ∉ ws) : Arr Z h' a c ty := ⟨K.2.1 _ _ A.1 q, A.2⟩
theorem own_lclt (a b : Int64) : lcmpW a b < 0 ↔ a < b := by
  obtain ⟨h1, h2, h3⟩ := c_lcmp a b
  have e1 := @Int64.lt_iff_toInt_lt a b
  have e2 := @Int32.lt_iff_toInt_lt (lcmpW a b) 0
  have e0 : (0 : Int32).toInt = 0 := by decide
  rw [e1, e2, e0]; omega
theorem own_lcgt (a b : Int64) : 0 < lcmpW a b ↔ b < a := by
  obtain ⟨h1, h2, h3⟩ := c_lcmp a b
  have e1 := @Int64.lt_iff_toInt_lt b a
  have e2 := @Int32.lt_iff_toInt_lt 0 (lcmpW a b)
  have e0 : (0 : Int32).toInt = 0 := by decide
  rw [e1, e2, e0]; omega
theorem own_lceq (a b : Int64) : lcmpW a b = 0 ↔ a = b := by
  obtain ⟨h1, h2, h3⟩ := c_lcmp a b
  have e0 : (0 : Int32).toInt = 0 := by decide
  rw [← Int64.toInt_inj, ← Int32.toInt_inj, e0]; omega
end OwnKit
theorem own_mod (x y : Int32) (hy : 0 < y.toInt) : 0 ≤ ((x &&& 2147483647) % y).toInt ∧ ((x &&& 2147483647) % y).toInt < y.toInt := by
  have h := (c_and x 2147483647 (by decide)).1
  have q := (c_iremV (x &&& 2147483647) y).1 h hy
  exact ⟨q.1, q.2.1⟩
theorem own_eqi {args : Array Value} {Z : State} {t : Jvm.Term} {k : Int32} (h : (Jvm.Cond.eq t (Jvm.Term.int k)).value args Z none Z [] = some true) : t.eval args Z none [] Z = some (.int k) := by
  cases ht : t.eval args Z none [] Z with
  | none => simp [Jvm.Cond.value, ht] at h
  | some v => cases v <;> simp [Jvm.Cond.value, ht, Jvm.Term.eval] at h ⊢ <;> first | exact h | exact h.symm
theorem own_eql {args : Array Value} {Z : State} {t : Jvm.Term} {k : Int64} (h : (Jvm.Cond.eq t (Jvm.Term.long k)).value args Z none Z [] = some true) : t.eval args Z none [] Z = some (.long k) := by
  cases ht : t.eval args Z none [] Z with
  | none => simp [Jvm.Cond.value, ht] at h
  | some v => cases v <;> simp [Jvm.Cond.value, ht, Jvm.Term.eval] at h ⊢ <;> first | exact h | exact h.symm
theorem own_eqr {args : Array Value} {Z : State} {t u : Jvm.Term} {b : Addr} (h : (Jvm.Cond.eq t u).value args Z none Z [] = some true) (hu : u.eval args Z none [] Z = some (.ref b)) : t.eval args Z none [] Z = some (.ref b) := by
  cases ht : t.eval args Z none [] Z with
  | none => simp [Jvm.Cond.value, ht] at h
  | some v => cases v <;> simp [Jvm.Cond.value, ht, hu] at h ⊢ <;> first | exact h | exact h.symm
theorem own_len {args : Array Value} {Z : State} {t : Jvm.Term} {a : Addr} {c : Cell} {ty : FieldType} {k : Int32} (ev : t.eval args Z none [] Z = some (.ref a)) (A : Arr Z Z.heap a c ty) (h : (Jvm.Cond.eq (Jvm.Term.length t) (Jvm.Term.int k)).value args Z none Z [] = some true) : c.slots.size < 2 ^ 31 ∧ c.slots.size.toInt32 = k := by
  have q := own_eqi h
  have hA := Arr.fin (Vm.Alike.refl _) A
  by_cases hl : c.slots.size < 2 ^ 31
  · rw [len_f ev hA hl] at q
    exact ⟨hl, Value.int.inj (Option.some.inj q)⟩
  · simp [Jvm.Term.eval, ev, hA, hl] at q
def own_sp (x i : Int32) : Int32 := if x = i then 1 else 0
theorem own_i1 (x : Int32) : 1 ≤ ((1 : Int32) + (x &&& 1073741823)).toInt ∧ ((1 : Int32) + (x &&& 1073741823)).toInt ≤ 1073741824 := by
  have h := c_and x 1073741823 (by decide)
  have e : (1073741823 : Int32).toInt = 1073741823 := by decide
  have e1 : (1 : Int32).toInt = 1 := by decide
  have q := c_iadd (1 : Int32) (x &&& 1073741823)
  have lo := Int32.le_toInt ((1 : Int32) + (x &&& 1073741823)); have hi := Int32.toInt_lt ((1 : Int32) + (x &&& 1073741823))
  rw [e] at h; rw [e1] at q
  omega
theorem own_i2 (i x : Int32) (hi1 : 1 ≤ i.toInt ∧ i.toInt ≤ 1073741824) : i.toInt < ((i + (1 : Int32)) + (x &&& 1073741822)).toInt := by
  have h := c_and x 1073741822 (by decide)
  have e : (1073741822 : Int32).toInt = 1073741822 := by decide
  have e1 : (1 : Int32).toInt = 1 := by decide
  have q := c_iadd i (1 : Int32)
  have q2 := c_iadd (i + (1 : Int32)) (x &&& 1073741822)
  have a1 := Int32.le_toInt (i + (1 : Int32)); have a2 := Int32.toInt_lt (i + (1 : Int32))
  have lo := Int32.le_toInt ((i + (1 : Int32)) + (x &&& 1073741822)); have hi := Int32.toInt_lt ((i + (1 : Int32)) + (x &&& 1073741822))
  rw [e] at h; rw [e1] at q
  omega
theorem own_m1 (x : Int32) : (x &&& 2147483647) % 1 = (0 : Int32) := by
  obtain ⟨h1, h2⟩ := own_mod x 1 (by decide)
  have e : (1 : Int32).toInt = 1 := by decide
  have e0 : (0 : Int32).toInt = 0 := by decide
  rw [← Int32.toInt_inj, e0]; omega
theorem own_m2 (x : Int32) : (x &&& 2147483647) % 2 = (0 : Int32) ∨ (x &&& 2147483647) % 2 = (1 : Int32) := by
  obtain ⟨h1, h2⟩ := own_mod x 2 (by decide)
  have e : (2 : Int32).toInt = 2 := by decide
  have e0 : (0 : Int32).toInt = 0 := by decide
  have e1 : (1 : Int32).toInt = 1 := by decide
  simp only [← Int32.toInt_inj, e0, e1]; omega
theorem own_m3 (x : Int32) : (x &&& 2147483647) % 3 = (0 : Int32) ∨ (x &&& 2147483647) % 3 = (1 : Int32) ∨ (x &&& 2147483647) % 3 = (2 : Int32) := by
  obtain ⟨h1, h2⟩ := own_mod x 3 (by decide)
  have e : (3 : Int32).toInt = 3 := by decide
  have e0 : (0 : Int32).toInt = 0 := by decide
  have e1 : (1 : Int32).toInt = 1 := by decide
  have e2 : (2 : Int32).toInt = 2 := by decide
  simp only [← Int32.toInt_inj, e0, e1, e2]; omega
theorem own_off (z : Int32) (len off : Int64) (h : 0 < len.toInt) (ho : off = ((z &&& 2147483647).toInt64 - ((z &&& 2147483647).toInt64 / len) * len)) : 0 ≤ off.toInt ∧ off.toInt < len.toInt := by
  have a := (c_and z 2147483647 (by decide)).1
  have b := c_i2l (z &&& 2147483647)
  have q := (c_lrem (z &&& 2147483647).toInt64 len len.toInt rfl).1 (by omega)
  rw [← ho] at q
  rw [q]
  exact ⟨Int.emod_nonneg _ (by omega), Int.emod_lt_of_pos _ h⟩
theorem own_fin (x : Int32) (off : Int64) (hx : 0 ≤ x.toInt) (h0 : 0 ≤ off.toInt) (h1 : x.toInt + off.toInt < 2147483648) : own_sp x ((x.toInt64 + off).toInt32) = if off = 0 then 1 else 0 := by
  have a := c_i2l x
  have s := c_ladd x.toInt64 off
  have s1 := Int64.le_toInt (x.toInt64 + off); have s2 := Int64.toInt_lt (x.toInt64 + off)
  have t := c_l2i (x.toInt64 + off)
  have t1 := Int32.le_toInt (x.toInt64 + off).toInt32; have t2 := Int32.toInt_lt (x.toInt64 + off).toInt32
  have e0 : (0 : Int64).toInt = 0 := by decide
  have q : (x = (x.toInt64 + off).toInt32) ↔ off = 0 := by
    rw [← Int32.toInt_inj, ← Int64.toInt_inj, e0]; omega
  simp only [own_sp, q]
theorem own_fin1 (x : Int32) (off len : Int64) (h1 : 1 ≤ x.toInt) (ho : 0 ≤ off.toInt ∧ off.toInt < len.toInt) (hl : 0 < len.toInt ∧ x.toInt + len.toInt ≤ 2147483648) : own_sp x ((x.toInt64 + off).toInt32) = if off = 0 then 1 else 0 :=
  own_fin x off (by omega) ho.1 (by omega)
theorem own_fin0 (x : Int32) (h1 : 1 ≤ x.toInt) : own_sp x ((x.toInt64 + (0 : Int64)).toInt32) = 1 := by
  have e0 : (0 : Int64).toInt = 0 := by decide
  have j2 := Int32.toInt_lt x
  exact (own_fin x 0 (by omega) (by decide) (by omega)).trans rfl
theorem own_ge {a b : Int} (h : 1 ≤ a ∧ a ≤ 1073741824) (h2 : a < b) : 1 ≤ b := by omega
theorem own_l0 (i : Int32) (h : 1 ≤ i.toInt ∧ i.toInt ≤ 1073741824) : 0 < ((i.toInt64) - (0 : Int64)).toInt ∧ True := by
  have q1 := c_i2l i
  have s := c_lsub (i.toInt64) (0 : Int64)
  have r1 := Int64.le_toInt (i.toInt64 - (0 : Int64)); have r2 := Int64.toInt_lt (i.toInt64 - (0 : Int64))
  have e0 : (0 : Int64).toInt = 0 := by decide
  exact ⟨by omega, trivial⟩
theorem own_l1 (i : Int32) (h : 1 ≤ i.toInt) : 0 < ((2147483648 : Int64) - (i.toInt64)).toInt ∧ i.toInt + ((2147483648 : Int64) - (i.toInt64)).toInt ≤ 2147483648 := by
  have q1 := c_i2l i
  have s := c_lsub (2147483648 : Int64) (i.toInt64)
  have r1 := Int64.le_toInt ((2147483648 : Int64) - (i.toInt64)); have r2 := Int64.toInt_lt ((2147483648 : Int64) - (i.toInt64))
  have j2 := Int32.toInt_lt i
  have e1 : (2147483648 : Int64).toInt = 2147483648 := by decide
  constructor <;> omega
theorem own_l2 (i j : Int32) (h : 1 ≤ i.toInt ∧ i.toInt ≤ 1073741824) (h2 : i.toInt < j.toInt) : 0 < ((j.toInt64) - (i.toInt64)).toInt ∧ i.toInt + ((j.toInt64) - (i.toInt64)).toInt ≤ 2147483648 := by
  have q1 := c_i2l i; have q2 := c_i2l j
  have s := c_lsub (j.toInt64) (i.toInt64)
  have r1 := Int64.le_toInt ((j.toInt64) - (i.toInt64)); have r2 := Int64.toInt_lt ((j.toInt64) - (i.toInt64))
  have j2 := Int32.toInt_lt j
  constructor <;> omega
theorem own_nz (len : Int64) (h : 0 < len.toInt) : ¬ len = (0 : Int64) := fun q => by rw [q] at h; exact absurd h (by decide)
def own_imin (x y : Int32) : Int32 := if y < x then y else x
/-- the class C has its Class object at mr -/
def OwnMir (Z : State) (C : String) (mr : Addr) : Prop := ∃ (c : ClassId) (k : Class), Z.vm.findClass C = some c ∧ Z.vm.classes[c]? = some k ∧ k.mirror = some mr
section OwnMirror
variable {p : Program} {l : Launch} {e : Env} {R : Room} {s : State} {m : MethodId} {args : Array Value} {below : List Frame} {meth : Method} {c : Code} {T : State} {locs : List Loc} {cells slots : Nat} {Z : State} {h : Heap} {a0 : Array Value}
theorem OwnMir.at {C : String} {mr : Addr} (hZ : Z.Warmed39 s.vm) (M : OwnMir Z C mr) : ∃ (c : ClassId) (k : Class), s.vm.findClass C = some c ∧ s.vm.classes[c]? = some k ∧ k.mirror = some mr := by
  obtain ⟨c, k, h1, h2, h3⟩ := M
  obtain ⟨k', q, ek⟩ := hZ.alike.2.2 _ _ h2
  exact ⟨c, k', by rw [hZ.alike.findClass]; exact h1, q, by rw [ek]; exact h3⟩
theorem own_gcls (X : Stand p l e R s m args below meth c T locs cells slots) (hx : p.tables.exec = Jvm.exec) (hZ : Z.Warmed39 s.vm) {own C : String} {index : Nat} (hown : s.vm.findClass own = some m.cls)
    (w1 : (Jvm.Cond.methodLink own index Jvm.Stand.gcN).before a0 Z = true) (w2 : (Jvm.Cond.declares Jvm.Stand.gcN).before a0 Z = true) (w4 : (Jvm.Cond.selects C Jvm.Stand.gcN Jvm.Stand.gcN).before a0 Z = true) (w5 : (Jvm.Cond.instanceMethod Jvm.Stand.gcN).before a0 Z = true) (w6 : (Jvm.Cond.native Jvm.Stand.gcN).before a0 Z = true) (eT : T.heap = h) {a : Addr} (E : Exa Z h a C) {mr : Addr} (M : OwnMir Z C mr)
    {g : JFrame} (hg : g.method = m) (hsize : g.locals.size = c.maxLocals) {rest : List Value} (hs : g.stack = .ref a :: rest) (hd : decode c.code g.pc = .ok (.invokevirtual index, 3)) (hf : 1 ≤ R.frames) {W : Nat} (hW : 2 * g.monitorRoom + (rest.map fun v => v.category).sum ≤ W) (hl : W + (nativeFrameWords "java/lang/Object" "getClass" 1 + 11) ≤ R.locals) :
    ∃ T', Stand p l e R s m args below meth c T' locs cells slots ∧ T'.heap = h ∧ ∀ target, Steps p.tables e below (T'.setTop { g with pc := g.pc + 3, stack := .ref mr :: rest }) target → Steps p.tables e below (T.setTop g) target := by
  obtain ⟨cB, kB, i1, i2, i3⟩ := isOf hZ eT E
  obtain ⟨cc, kc, m1, m2, m3⟩ := M.at hZ
  cases i1.symm.trans m1
  obtain ⟨vm', X', st⟩ := X.getClassOf hx hown (mvT hZ w1) (mvT hZ w2) (notFace_of_selects (args := #[]) (mvT hZ w4)) (mvT hZ w4) (mvT hZ w5) (mvT hZ w6) m1 i3 m2 m3 hg hsize hs hd hf (Nat.le_trans (Nat.add_le_add_right hW _) hl)
  exact ⟨_, X', eT, st⟩
theorem own_ldcM (X : Stand p l e R s m args below meth c T locs cells slots) (hx : p.tables.exec = Jvm.exec) (hZ : Z.Warmed39 s.vm) {own C : String} {index : Nat} (hown : s.vm.findClass own = some m.cls) (w : (Jvm.Cond.classLink own index C).before a0 Z = true) (eT : T.heap = h) {mr : Addr} (M : OwnMir Z C mr)
    {g : JFrame} (hg : g.method = m) (hd : decode c.code g.pc = .ok (.ldc index, 2)) :
    ∃ T', Stand p l e R s m args below meth c T' locs cells slots ∧ T'.heap = h ∧ ∀ target, Steps p.tables e below (T'.setTop { g with pc := g.pc + 2, stack := .ref mr :: g.stack }) target → Steps p.tables e below (T.setTop g) target := by
  obtain ⟨cc, kc, m1, m2, m3⟩ := M.at hZ
  obtain ⟨vm', X', st⟩ := X.ldcMirror (a := mr) hx hown (mvT hZ w) (by simp [Jvm.Term.eval, m1, m2, m3]) hg hd
  exact ⟨_, X', eT, st⟩
end OwnMirror
theorem ef_rmMin (m : MethodId) (x0 : Int32) (x1 : Int32) : entryFrame m #[(.int x0), (.int x1)] 2 = mkF m 0 #[.val (.int x0), .val (.int x1)] [] := by first | (simp [entryFrame, mkF, argsToLocals, Value.category]; done) | rfl
theorem d7_0 : decode jdk_29_method_69_code 0 = .ok (.iload_n 0, 1) := by decide +kernel
theorem d7_1 : decode jdk_29_method_69_code 1 = .ok (.iload_n 1, 1) := by decide +kernel
theorem d7_2 : decode jdk_29_method_69_code 2 = .ok (.if_icmp .gt 7, 3) := by decide +kernel
theorem d7_9 : decode jdk_29_method_69_code 9 = .ok (.iload_n 1, 1) := by decide +kernel
theorem d7_10 : decode jdk_29_method_69_code 10 = .ok (.ireturn, 1) := by decide +kernel
theorem d7_5 : decode jdk_29_method_69_code 5 = .ok (.iload_n 0, 1) := by decide +kernel
theorem d7_6 : decode jdk_29_method_69_code 6 = .ok (.goto 4, 3) := by decide +kernel
def QMin (Z : State) (p1 : Int32) (p2 : Int32) (h0 : Heap) (n0 : Nat) (v : Option Value) (h : Heap) (L : List Loc) : Prop := v = some (.int (own_imin p1 p2)) ∧ Fr n0 L ∧ h = h0
set_option maxRecDepth 65536 in
set_option maxHeartbeats 40000000 in
theorem rmMin (l : Launch) (Z : State) (a0 : Array Value) (hw : ∀ d ∈ tables_1, d.before a0 Z = true) (ws : List Jvm.Cond) (p1 : Int32) (p2 : Int32) (h0 : Heap) (n0 : Nat) (Z0 : n0 ≤ h0.size) :
    MetFree l (⟨"java/lang/Math", "min", "(II)I"⟩ : MethodName) (head1 (Jvm.Cond.code (⟨"java/lang/Math", "min", "(II)I"⟩ : MethodName) jdk_29_method_69_code 2 (some .int) :: ws) ({ frames := 0, cells := 0, slots := 0, locals := 0 } : Room)) (fun a U => a = #[(.int p1), (.int p2)] ∧ Z.Warmed39 U.vm ∧ U.heap = h0) (fun _ _ _ _ _ => True) (fun _ U o U' => ∃ v L, o = .returned v ∧ QMin Z p1 p2 h0 n0 v U'.heap L ∧ FrameEnd U o U' L ({ frames := 0, cells := 0, slots := 0, locals := 0 } : Room).cells ({ frames := 0, cells := 0, slots := 0, locals := 0 } : Room).slots) := by
  refine MetFree.of_bodySF (Jvm.Free.JP.mathPlain rfl (by decide +kernel)) hisR ?_
  intro p e s m args below meth c s₁ Bd hml0 hP hK
  obtain ⟨rfl, hZ, hh⟩ := hP
  have hx := Bd.exec
  have hby := Bd.bytes
  have hlk := BodyLoose.notSynchronized Bd
  have hml : c.maxLocals = 2 := hml0
  have hown : s.vm.findClass "java/lang/Math" = some m.cls := findClass_of_methodNamed Bd.named
  have hnm := (name_of_methodNamed Bd.named Bd.method).1
  have X0 : Stand p l e ({ frames := 0, cells := 0, slots := 0, locals := 0 } : Room) s m #[(.int p1), (.int p2)] below meth c s₁ [] 0 0 := Stand.of_body Bd
  have e0 : s₁.heap = h0 := by rw [← hh, Bd.state]; rfl
  have N0 := Fr.nil n0
  refine OwnR.of (s := s) (Q := QMin Z p1 p2 h0 n0) (fun t k => castTop (ef_rmMin m p1 p2) k) ?_
  show OwnR _ _ _ _ _ _ _ (s₁.setTop (mkF m 0 #[.val (.int p1), .val (.int p2)] []))
  refine OwnR.of (fun _ hr => XS.iloadN X0.here hx rfl (hb hby d7_0) rfl hr) ?_
  show OwnR _ _ _ _ _ _ _ (s₁.setTop (mkF m 1 #[.val (.int p1), .val (.int p2)] [(.int p1)]))
  refine OwnR.of (fun _ hr => XS.iloadN X0.here hx rfl (hb hby d7_1) rfl hr) ?_
  show OwnR _ _ _ _ _ _ _ (s₁.setTop (mkF m 2 #[.val (.int p1), .val (.int p2)] [(.int p2), (.int p1)]))
  by_cases hc2_3 : p2 < p1
  · skip
    refine OwnR.of (fun _ hr => XS.icmpYes X0.here hx rfl (pc0 := 2) (pc' := 9) rfl (hb hby d7_2) rfl (tlt hc2_3).2.2.1 (by decide) (by decide) hr) ?_
    show OwnR _ _ _ _ _ _ _ (s₁.setTop (mkF m 9 #[.val (.int p1), .val (.int p2)] []))
    refine OwnR.of (fun _ hr => XS.iloadN X0.here hx rfl (hb hby d7_9) rfl hr) ?_
    show OwnR _ _ _ _ _ _ _ (s₁.setTop (mkF m 10 #[.val (.int p1), .val (.int p2)] [(.int p2)]))
    refine own_leafI X0 hx hlk Bd.returns (hb hby d7_10) (by decide) (by decide) ?_
    show QMin Z p1 p2 h0 n0 _ s₁.heap _
    rw [show s₁.heap = h0 from e0]
    refine ⟨?_, N0, rfl⟩
    show (some (.int p2) : Option Value) = some (.int (own_imin p1 p2))
    simp only [own_imin, if_pos hc2_3]
  · skip
    refine OwnR.of (fun _ hr => XS.icmpNo X0.here hx rfl (hb hby d7_2) rfl (flt hc2_3).2.2.1 hr) ?_
    show OwnR _ _ _ _ _ _ _ (s₁.setTop (mkF m 5 #[.val (.int p1), .val (.int p2)] []))
    refine OwnR.of (fun _ hr => XS.iloadN X0.here hx rfl (hb hby d7_5) rfl hr) ?_
    show OwnR _ _ _ _ _ _ _ (s₁.setTop (mkF m 6 #[.val (.int p1), .val (.int p2)] [(.int p1)]))
    refine OwnR.of (fun _ hr => XS.goto X0.here hx rfl (pc0 := 6) (pc' := 10) rfl (hb hby d7_6) (by decide) (by decide) hr) ?_
    show OwnR _ _ _ _ _ _ _ (s₁.setTop (mkF m 10 #[.val (.int p1), .val (.int p2)] [(.int p1)]))
    refine own_leafI X0 hx hlk Bd.returns (hb hby d7_10) (by decide) (by decide) ?_
    show QMin Z p1 p2 h0 n0 _ s₁.heap _
    rw [show s₁.heap = h0 from e0]
    refine ⟨?_, N0, rfl⟩
    show (some (.int p1) : Option Value) = some (.int (own_imin p1 p2))
    simp only [own_imin, if_neg hc2_3]
theorem pn_java_util_Arrays : plainName "java/util/Arrays" = true := by first | (simp [plainName, overriddenIn]; done) | decide +kernel
theorem ef_rmC3_1 (m : MethodId) (x0 : Addr) (x2 : Addr) : entryFrame m #[(.ref x0), (.int (2 : Int32)), (.ref x2)] 4 = mkF m 0 #[.val (.ref x0), .val (.int (2 : Int32)), .val (.ref x2), .unset] [] := by first | (simp [entryFrame, mkF, argsToLocals, Value.category]; done) | rfl
theorem d6_0 : decode jdk_65_method_120_code 0 = .ok (.aload_n 2, 1) := by decide +kernel
theorem d6_1 : decode jdk_65_method_120_code 1 = .ok (.ldc 110, 2) := by decide +kernel
theorem d6_3 : decode jdk_65_method_120_code 3 = .ok (.if_acmp .ne 10, 3) := by decide +kernel
theorem d6_6 : decode jdk_65_method_120_code 6 = .ok (.iload_n 1, 1) := by decide +kernel
theorem d6_7 : decode jdk_65_method_120_code 7 = .ok (.anewarray 2, 3) := by decide +kernel
theorem d6_10 : decode jdk_65_method_120_code 10 = .ok (.goto 14, 3) := by decide +kernel
theorem d6_24 : decode jdk_65_method_120_code 24 = .ok (.astore_n 3, 1) := by decide +kernel
theorem d6_25 : decode jdk_65_method_120_code 25 = .ok (.aload_n 0, 1) := by decide +kernel
theorem d6_26 : decode jdk_65_method_120_code 26 = .ok (.iconst 0, 1) := by decide +kernel
theorem d6_27 : decode jdk_65_method_120_code 27 = .ok (.aload_n 3, 1) := by decide +kernel
theorem d6_28 : decode jdk_65_method_120_code 28 = .ok (.iconst 0, 1) := by decide +kernel
theorem d6_29 : decode jdk_65_method_120_code 29 = .ok (.aload_n 0, 1) := by decide +kernel
theorem d6_30 : decode jdk_65_method_120_code 30 = .ok (.arraylength, 1) := by decide +kernel
theorem d6_31 : decode jdk_65_method_120_code 31 = .ok (.iload_n 1, 1) := by decide +kernel
theorem d6_32 : decode jdk_65_method_120_code 32 = .ok (.invokestatic 304, 3) := by decide +kernel
theorem pd__II_I : parseMethodDescriptor "(II)I" = some ⟨[.int, .int], some .int⟩ := by decide +kernel
theorem d6_35 : decode jdk_65_method_120_code 35 = .ok (.invokestatic 150, 3) := by decide +kernel
theorem d6_38 : decode jdk_65_method_120_code 38 = .ok (.aload_n 3, 1) := by decide +kernel
theorem d6_39 : decode jdk_65_method_120_code 39 = .ok (.areturn, 1) := by decide +kernel
def QC3_1 (Z : State) (el0 : Addr) (h0 : Heap) (n0 : Nat) (v : Option Value) (h : Heap) (L : List Loc) : Prop := ∃ (b : Addr) (kb : ClassId), v = some (.ref b) ∧ Fr n0 L ∧ Keep h0 h [] ∧ Arv Z h b kb (.object "java/lang/Object") (2 : Int32) [(.ref el0), .null] .null ∧ Ovr Z kb "java/lang/Object" ∧ Exa Z h b "[Ljava/lang/Object;" ∧ h0.size ≤ b ∧ n0 ≤ b
set_option maxRecDepth 65536 in
set_option maxHeartbeats 40000000 in
theorem rmC3_1 (l : Launch) (Z : State) (a0 : Array Value) (hw : ∀ d ∈ tables_1, d.before a0 Z = true) (ws : List Jvm.Cond) (a1 : Addr) (mo : Addr) (k1 : ClassId) (el0 : Addr) (h0 : Heap) (n0 : Nat) (Z0 : n0 ≤ h0.size) (V_a1 : Arv Z h0 a1 k1 (.object "java/lang/Object") (1 : Int32) [(.ref el0)] .null) (E_a1 : Exa Z h0 a1 "[Ljava/lang/Object;") (E_el0 : Exa Z h0 el0 "java/lang/Integer") (M_mo : OwnMir Z "[Ljava/lang/Object;" mo) :
    MetFree l (⟨"java/util/Arrays", "copyOf", "([Ljava/lang/Object;ILjava/lang/Class;)[Ljava/lang/Object;"⟩ : MethodName) (head1 (Jvm.Cond.code (⟨"java/util/Arrays", "copyOf", "([Ljava/lang/Object;ILjava/lang/Class;)[Ljava/lang/Object;"⟩ : MethodName) jdk_65_method_120_code 4 (some (.array (.object "java/lang/Object"))) :: ws) ({ frames := 1, cells := 1, slots := 2, locals := 48 } : Room)) (fun a U => a = #[(.ref a1), (.int (2 : Int32)), (.ref mo)] ∧ Z.Warmed39 U.vm ∧ U.heap = h0) (fun _ _ _ _ _ => True) (fun _ U o U' => ∃ v L, o = .returned v ∧ QC3_1 Z el0 h0 n0 v U'.heap L ∧ FrameEnd U o U' L ({ frames := 1, cells := 1, slots := 2, locals := 48 } : Room).cells ({ frames := 1, cells := 1, slots := 2, locals := 48 } : Room).slots) := by
  refine MetFree.of_bodySF (plainFor_of_name pn_java_util_Arrays) hisR ?_
  intro p e s m args below meth c s₁ Bd hml0 hP hK
  obtain ⟨rfl, hZ, hh⟩ := hP
  have hx := Bd.exec
  have hby := Bd.bytes
  have hlk := BodyLoose.notSynchronized Bd
  have hml : c.maxLocals = 4 := hml0
  have hown : s.vm.findClass "java/util/Arrays" = some m.cls := findClass_of_methodNamed Bd.named
  have hnm := (name_of_methodNamed Bd.named Bd.method).1
  have X0 : Stand p l e ({ frames := 1, cells := 1, slots := 2, locals := 48 } : Room) s m #[(.ref a1), (.int (2 : Int32)), (.ref mo)] below meth c s₁ [] 0 0 := Stand.of_body Bd
  have e0 : s₁.heap = h0 := by rw [← hh, Bd.state]; rfl
  have N0 := Fr.nil n0
  refine OwnR.of (s := s) (Q := QC3_1 Z el0 h0 n0) (fun t k => castTop (ef_rmC3_1 m a1 mo) k) ?_
  show OwnR _ _ _ _ _ _ _ (s₁.setTop (mkF m 0 #[.val (.ref a1), .val (.int (2 : Int32)), .val (.ref mo), .unset] []))
  refine OwnR.of (fun _ hr => XS.aloadN X0.here hx rfl (hb hby d6_0) rfl rfl hr) ?_
  show OwnR _ _ _ _ _ _ _ (s₁.setTop (mkF m 1 #[.val (.ref a1), .val (.int (2 : Int32)), .val (.ref mo), .unset] [(.ref mo)]))
  obtain ⟨T1, X1, e1, st1⟩ := own_ldcM X0 hx hZ hown (hw _ (List.mem_of_getElem? (i := 53) rfl)) e0 M_mo (g := (mkF m 1 #[.val (.ref a1), .val (.int (2 : Int32)), .val (.ref mo), .unset] [(.ref mo)])) rfl (hb hby d6_1)
  refine OwnR.of (st1) ?_
  show OwnR _ _ _ _ _ _ _ (T1.setTop (mkF m 3 #[.val (.ref a1), .val (.int (2 : Int32)), .val (.ref mo), .unset] [(.ref mo), (.ref mo)]))
  refine OwnR.of (fun _ hr => Jvm.RoadKit.acmp (g := (mkF m 3 #[.val (.ref a1), .val (.int (2 : Int32)), .val (.ref mo), .unset] [(.ref mo), (.ref mo)])) X1 hx rfl rfl rfl (pc0 := 3) (pc' := 6) (same := true) rfl (hb hby d6_3) rfl (decide_eq_true rfl) (by decide) (by decide) hr) ?_
  show OwnR _ _ _ _ _ _ _ (T1.setTop (mkF m 6 #[.val (.ref a1), .val (.int (2 : Int32)), .val (.ref mo), .unset] []))
  refine OwnR.of (fun _ hr => XS.iloadN X1.here hx rfl (hb hby d6_6) rfl hr) ?_
  show OwnR _ _ _ _ _ _ _ (T1.setTop (mkF m 7 #[.val (.ref a1), .val (.int (2 : Int32)), .val (.ref mo), .unset] [(.int (2 : Int32))]))
  obtain ⟨T2, h2, k2, X2, e2, E2, A2, AE2, O2, st2⟩ := newRE X1 hx hZ hown (hw _ (List.mem_of_getElem? (i := 54) rfl)) (hw _ (List.mem_of_getElem? (i := 26) rfl)) e1 (g := (mkF m 7 #[.val (.ref a1), .val (.int (2 : Int32)), .val (.ref mo), .unset] [(.int (2 : Int32))])) rfl (hb hby d6_7) rfl (by decide) (cap := 2) (by decide) (by decide) (by decide) (by decide) (ad := "[Ljava/lang/Object;") rfl
  obtain ⟨b2, g2⟩ : ∃ z, z = h0.size := ⟨_, rfl⟩
  rw [← g2] at A2 AE2 st2
  refine OwnR.of (st2) ?_
  have gn_b2 : n0 ≤ b2 := Nat.le_trans (Nat.le_trans Z0 (Keep.refl h0 []).1) (Nat.le_of_eq g2.symm)
  have sz_b2 : h0.size ≤ b2 := Nat.le_trans (Keep.refl h0 []).1 (Nat.le_of_eq g2.symm)
  have K2 : Keep h0 h2 [] := Keep.ext (Keep.refl h0 []) E2
  have V2 : Arv Z h2 b2 k2 (.object "java/lang/Object") (2 : Int32) [.null, .null] .null := (Arv.new A2 (by decide)).pad (pad_rep [] .null 2)
  show OwnR _ _ _ _ _ _ _ (T2.setTop (mkF m 10 #[.val (.ref a1), .val (.int (2 : Int32)), .val (.ref mo), .unset] [(.ref b2)]))
  refine OwnR.of (fun _ hr => XS.goto X2.here hx rfl (pc0 := 10) (pc' := 24) rfl (hb hby d6_10) (by decide) (by decide) hr) ?_
  show OwnR _ _ _ _ _ _ _ (T2.setTop (mkF m 24 #[.val (.ref a1), .val (.int (2 : Int32)), .val (.ref mo), .unset] [(.ref b2)]))
  refine OwnR.of (fun _ hr => XS.astoreN X2.here hx rfl (hb hby d6_24) rfl rfl (l' := #[.val (.ref a1), .val (.int (2 : Int32)), .val (.ref mo), .val (.ref b2)]) rfl hr) ?_
  show OwnR _ _ _ _ _ _ _ (T2.setTop (mkF m 25 #[.val (.ref a1), .val (.int (2 : Int32)), .val (.ref mo), .val (.ref b2)] []))
  refine OwnR.of (fun _ hr => XS.aloadN X2.here hx rfl (hb hby d6_25) rfl rfl hr) ?_
  show OwnR _ _ _ _ _ _ _ (T2.setTop (mkF m 26 #[.val (.ref a1), .val (.int (2 : Int32)), .val (.ref mo), .val (.ref b2)] [(.ref a1)]))
  refine OwnR.of (fun _ hr => XS.iconst X2.here hx rfl (hb hby d6_26) hr) ?_
  show OwnR _ _ _ _ _ _ _ (T2.setTop (mkF m 27 #[.val (.ref a1), .val (.int (2 : Int32)), .val (.ref mo), .val (.ref b2)] [(.int (0 : Int32)), (.ref a1)]))
  refine OwnR.of (fun _ hr => XS.aloadN X2.here hx rfl (hb hby d6_27) rfl rfl hr) ?_
  show OwnR _ _ _ _ _ _ _ (T2.setTop (mkF m 28 #[.val (.ref a1), .val (.int (2 : Int32)), .val (.ref mo), .val (.ref b2)] [(.ref b2), (.int (0 : Int32)), (.ref a1)]))
  refine OwnR.of (fun _ hr => XS.iconst X2.here hx rfl (hb hby d6_28) hr) ?_
  show OwnR _ _ _ _ _ _ _ (T2.setTop (mkF m 29 #[.val (.ref a1), .val (.int (2 : Int32)), .val (.ref mo), .val (.ref b2)] [(.int (0 : Int32)), (.ref b2), (.int (0 : Int32)), (.ref a1)]))
  refine OwnR.of (fun _ hr => XS.aloadN X2.here hx rfl (hb hby d6_29) rfl rfl hr) ?_
  show OwnR _ _ _ _ _ _ _ (T2.setTop (mkF m 30 #[.val (.ref a1), .val (.int (2 : Int32)), .val (.ref mo), .val (.ref b2)] [(.ref a1), (.int (0 : Int32)), (.ref b2), (.int (0 : Int32)), (.ref a1)]))
  obtain ⟨cl3, Ar3, -, S3, N3, -, -⟩ := id (Arv.keep V_a1 K2 nin0)
  refine OwnR.of (X2.arraylength hx (by rw [e2]; exact Ar3.1) (State.isArrayOf_alike hZ.alike Ar3.2.1) (g := (mkF m 30 #[.val (.ref a1), .val (.int (2 : Int32)), .val (.ref mo), .val (.ref b2)] [(.ref a1), (.int (0 : Int32)), (.ref b2), (.int (0 : Int32)), (.ref a1)])) rfl rfl (hb hby d6_30)) ?_
  show OwnR _ _ _ _ _ _ _ (T2.setTop (mkF m 31 #[.val (.ref a1), .val (.int (2 : Int32)), .val (.ref mo), .val (.ref b2)] [(.int cl3.slots.size.toInt32), (.int (0 : Int32)), (.ref b2), (.int (0 : Int32)), (.ref a1)]))
  rw [len_of S3 N3]
  show OwnR _ _ _ _ _ _ _ (T2.setTop (mkF m 31 #[.val (.ref a1), .val (.int (2 : Int32)), .val (.ref mo), .val (.ref b2)] [(.int (1 : Int32)), (.int (0 : Int32)), (.ref b2), (.int (0 : Int32)), (.ref a1)]))
  refine OwnR.of (fun _ hr => XS.iloadN X2.here hx rfl (hb hby d6_31) rfl hr) ?_
  show OwnR _ _ _ _ _ _ _ (T2.setTop (mkF m 32 #[.val (.ref a1), .val (.int (2 : Int32)), .val (.ref mo), .val (.ref b2)] [(.int (2 : Int32)), (.int (1 : Int32)), (.int (0 : Int32)), (.ref b2), (.int (0 : Int32)), (.ref a1)]))
  obtain ⟨_, _, ⟨T4, L4, kc4, ns4⟩, -, X4, ⟨Lc4, hQ4, l4, y4, z4⟩, st4⟩ := Jvm.LawKit.callS X2 hx (y := (⟨"java/lang/Math", "min", "(II)I"⟩ : MethodName)) hown (mvT hZ (hw _ (List.mem_of_getElem? (i := 55) rfl))) (mvT hZ (hw _ (List.mem_of_getElem? (i := 56) rfl))) (mvT hZ (hw _ (List.mem_of_getElem? (i := 57) rfl))) (mvT hZ (hw _ (List.mem_of_getElem? (i := 58) rfl))) (by decide) (backOf (W := 4) (rmMin l Z a0 hw [] (1 : Int32) (2 : Int32) h2 n0 (Nat.le_trans Z0 K2.1) ) hZ (hw _ (List.mem_of_getElem? (i := 58) rfl)) (hw _ (List.mem_of_getElem? (i := 57) rfl)) (by decide) (by decide)) (g := (mkF m 32 #[.val (.ref a1), .val (.int (2 : Int32)), .val (.ref mo), .val (.ref b2)] [(.int (2 : Int32)), (.int (1 : Int32)), (.int (0 : Int32)), (.ref b2), (.int (0 : Int32)), (.ref a1)])) rfl (by rw [hml]; rfl) (argsL := [(.int (1 : Int32)), (.int (2 : Int32))]) (rest := [(.int (0 : Int32)), (.ref b2), (.int (0 : Int32)), (.ref a1)]) (lenOf pd__II_I rfl) rfl (by show 2 * 0 + _ ≤ _; exact Nat.le_of_eq rfl) (hb hby d6_32) (fun _ _ => ⟨rfl, e2, (by decide : 1 + 0 ≤ _), (by decide : 2 + 0 ≤ _)⟩)
  dsimp only [Pt.U, Pt.locs, Pt.cells, Pt.slots] at X4 l4 y4 z4 st4 hQ4
  subst l4 y4 z4
  obtain ⟨rfl, N4q, e4⟩ := hQ4
  have N4 := Fr.app N0 N4q
  refine OwnR.of (st4) ?_
  show OwnR _ _ _ _ _ _ _ (T4.setTop (mkF m 35 #[.val (.ref a1), .val (.int (2 : Int32)), .val (.ref mo), .val (.ref b2)] [(.int (own_imin (1 : Int32) (2 : Int32))), (.int (0 : Int32)), (.ref b2), (.int (0 : Int32)), (.ref a1)]))
  rw [(by decide : (own_imin (1 : Int32) (2 : Int32)) = (1 : Int32))]
  show OwnR _ _ _ _ _ _ _ (T4.setTop (mkF m 35 #[.val (.ref a1), .val (.int (2 : Int32)), .val (.ref mo), .val (.ref b2)] [(.int (1 : Int32)), (.int (0 : Int32)), (.ref b2), (.int (0 : Int32)), (.ref a1)]))
  obtain ⟨cd5, Ard5, qd5, -⟩ := id V2
  obtain ⟨T5, h5, L5, X5, e5, N5, Kp5, V5, st5⟩ := cpA X4 hx hZ hown (hw _ (List.mem_of_getElem? (i := 59) rfl)) (hw _ (List.mem_of_getElem? (i := 62) rfl)) (hw _ (List.mem_of_getElem? (i := 60) rfl)) (hw _ (List.mem_of_getElem? (i := 61) rfl)) e4 (Arv.keep V_a1 K2 nin0) V2 (Or.inr ⟨rfl, rfl, ⟨Sto.ofV Ard5 qd5 O2 (Ins.of_exa (Exa.keep E_el0 K2) (hw _ (List.mem_of_getElem? (i := 27) rfl))), trivial⟩⟩) (us := [(.ref el0)]) (by decide) (by decide) (by decide) (by decide) (by decide) rfl (by decide) N4 gn_b2 (g := (mkF m 35 #[.val (.ref a1), .val (.int (2 : Int32)), .val (.ref mo), .val (.ref b2)] [(.int (1 : Int32)), (.int (0 : Int32)), (.ref b2), (.int (0 : Int32)), (.ref a1)])) rfl (by rw [hml]; rfl) rfl (hb hby d6_35) (by decide) (W := 0) (by show 2 * 0 + _ ≤ _; exact Nat.le_of_eq rfl) (by decide)
  refine OwnR.of (st5) ?_
  have K5 : Keep h0 h5 [] := Keep.trans K2 Kp5 (allS (Or.inr sz_b2) all0)
  have V5 : Arv Z h5 b2 k2 (.object "java/lang/Object") (2 : Int32) [(.ref el0), .null] .null := V5
  show OwnR _ _ _ _ _ _ _ (T5.setTop (mkF m 38 #[.val (.ref a1), .val (.int (2 : Int32)), .val (.ref mo), .val (.ref b2)] []))
  refine OwnR.of (fun _ hr => XS.aloadN X5.here hx rfl (hb hby d6_38) rfl rfl hr) ?_
  show OwnR _ _ _ _ _ _ _ (T5.setTop (mkF m 39 #[.val (.ref a1), .val (.int (2 : Int32)), .val (.ref mo), .val (.ref b2)] [(.ref b2)]))
  refine own_leafA X5 hx hlk Bd.returns rfl rfl (hb hby d6_39) (by decide) (by decide) ?_
  show QC3_1 Z el0 h0 n0 _ T5.heap _
  rw [show T5.heap = h5 from e5]
  refine ⟨b2, k2, ?_, N5, ⟨K5, V5, O2, (AE2.keep Kp5), sz_b2, gn_b2⟩⟩
  show (some (.ref b2) : Option Value) = some (.ref b2)
  rfl
theorem ef_rmC2_1 (m : MethodId) (x0 : Addr) : entryFrame m #[(.ref x0), (.int (2 : Int32))] 2 = mkF m 0 #[.val (.ref x0), .val (.int (2 : Int32))] [] := by first | (simp [entryFrame, mkF, argsToLocals, Value.category]; done) | rfl
theorem d5_0 : decode jdk_65_method_119_code 0 = .ok (.aload_n 0, 1) := by decide +kernel
theorem d5_1 : decode jdk_65_method_119_code 1 = .ok (.iload_n 1, 1) := by decide +kernel
theorem d5_2 : decode jdk_65_method_119_code 2 = .ok (.aload_n 0, 1) := by decide +kernel
theorem d5_3 : decode jdk_65_method_119_code 3 = .ok (.invokevirtual 86, 3) := by decide +kernel
theorem d5_6 : decode jdk_65_method_119_code 6 = .ok (.invokestatic 300, 3) := by decide +kernel
theorem pd___Ljava_lang_Object_ILjava_lang_Class___Ljava_lang_Object_ : parseMethodDescriptor "([Ljava/lang/Object;ILjava/lang/Class;)[Ljava/lang/Object;" = some ⟨[(.array (.object "java/lang/Object")), .int, (.object "java/lang/Class")], some (.array (.object "java/lang/Object"))⟩ := by decide +kernel
theorem d5_9 : decode jdk_65_method_119_code 9 = .ok (.areturn, 1) := by decide +kernel
def QC2_1 (Z : State) (el0 : Addr) (h0 : Heap) (n0 : Nat) (v : Option Value) (h : Heap) (L : List Loc) : Prop := ∃ (b : Addr) (kb : ClassId), v = some (.ref b) ∧ Fr n0 L ∧ Keep h0 h [] ∧ Arv Z h b kb (.object "java/lang/Object") (2 : Int32) [(.ref el0), .null] .null ∧ Ovr Z kb "java/lang/Object" ∧ Exa Z h b "[Ljava/lang/Object;" ∧ h0.size ≤ b ∧ n0 ≤ b
set_option maxRecDepth 65536 in
set_option maxHeartbeats 40000000 in
theorem rmC2_1 (l : Launch) (Z : State) (a0 : Array Value) (hw : ∀ d ∈ tables_1, d.before a0 Z = true) (ws : List Jvm.Cond) (a1 : Addr) (k1 : ClassId) (el0 : Addr) (mo : Addr) (h0 : Heap) (n0 : Nat) (Z0 : n0 ≤ h0.size) (V_a1 : Arv Z h0 a1 k1 (.object "java/lang/Object") (1 : Int32) [(.ref el0)] .null) (E_a1 : Exa Z h0 a1 "[Ljava/lang/Object;") (E_el0 : Exa Z h0 el0 "java/lang/Integer") (M_mo : OwnMir Z "[Ljava/lang/Object;" mo) :
    MetFree l (⟨"java/util/Arrays", "copyOf", "([Ljava/lang/Object;I)[Ljava/lang/Object;"⟩ : MethodName) (head1 (Jvm.Cond.code (⟨"java/util/Arrays", "copyOf", "([Ljava/lang/Object;I)[Ljava/lang/Object;"⟩ : MethodName) jdk_65_method_119_code 2 (some (.array (.object "java/lang/Object"))) :: ws) ({ frames := 2, cells := 1, slots := 2, locals := 64 } : Room)) (fun a U => a = #[(.ref a1), (.int (2 : Int32))] ∧ Z.Warmed39 U.vm ∧ U.heap = h0) (fun _ _ _ _ _ => True) (fun _ U o U' => ∃ v L, o = .returned v ∧ QC2_1 Z el0 h0 n0 v U'.heap L ∧ FrameEnd U o U' L ({ frames := 2, cells := 1, slots := 2, locals := 64 } : Room).cells ({ frames := 2, cells := 1, slots := 2, locals := 64 } : Room).slots) := by
  refine MetFree.of_bodySF (plainFor_of_name pn_java_util_Arrays) hisR ?_
  intro p e s m args below meth c s₁ Bd hml0 hP hK
  obtain ⟨rfl, hZ, hh⟩ := hP
  have hx := Bd.exec
  have hby := Bd.bytes
  have hlk := BodyLoose.notSynchronized Bd
  have hml : c.maxLocals = 2 := hml0
  have hown : s.vm.findClass "java/util/Arrays" = some m.cls := findClass_of_methodNamed Bd.named
  have hnm := (name_of_methodNamed Bd.named Bd.method).1
  have X0 : Stand p l e ({ frames := 2, cells := 1, slots := 2, locals := 64 } : Room) s m #[(.ref a1), (.int (2 : Int32))] below meth c s₁ [] 0 0 := Stand.of_body Bd
  have e0 : s₁.heap = h0 := by rw [← hh, Bd.state]; rfl
  have N0 := Fr.nil n0
  refine OwnR.of (s := s) (Q := QC2_1 Z el0 h0 n0) (fun t k => castTop (ef_rmC2_1 m a1) k) ?_
  show OwnR _ _ _ _ _ _ _ (s₁.setTop (mkF m 0 #[.val (.ref a1), .val (.int (2 : Int32))] []))
  refine OwnR.of (fun _ hr => XS.aloadN X0.here hx rfl (hb hby d5_0) rfl rfl hr) ?_
  show OwnR _ _ _ _ _ _ _ (s₁.setTop (mkF m 1 #[.val (.ref a1), .val (.int (2 : Int32))] [(.ref a1)]))
  refine OwnR.of (fun _ hr => XS.iloadN X0.here hx rfl (hb hby d5_1) rfl hr) ?_
  show OwnR _ _ _ _ _ _ _ (s₁.setTop (mkF m 2 #[.val (.ref a1), .val (.int (2 : Int32))] [(.int (2 : Int32)), (.ref a1)]))
  refine OwnR.of (fun _ hr => XS.aloadN X0.here hx rfl (hb hby d5_2) rfl rfl hr) ?_
  show OwnR _ _ _ _ _ _ _ (s₁.setTop (mkF m 3 #[.val (.ref a1), .val (.int (2 : Int32))] [(.ref a1), (.int (2 : Int32)), (.ref a1)]))
  obtain ⟨T1, X1, e1, st1⟩ := own_gcls X0 hx hZ hown (hw _ (List.mem_of_getElem? (i := 44) rfl)) (hw _ (List.mem_of_getElem? (i := 45) rfl)) (hw _ (List.mem_of_getElem? (i := 47) rfl)) (hw _ (List.mem_of_getElem? (i := 46) rfl)) (hw _ (List.mem_of_getElem? (i := 48) rfl)) e0 E_a1 M_mo (g := (mkF m 3 #[.val (.ref a1), .val (.int (2 : Int32))] [(.ref a1), (.int (2 : Int32)), (.ref a1)])) rfl (by rw [hml]; rfl) rfl (hb hby d5_3) (by decide) (W := 2) (by show 2 * 0 + _ ≤ _; exact Nat.le_of_eq rfl) (by decide)
  refine OwnR.of (st1) ?_
  show OwnR _ _ _ _ _ _ _ (T1.setTop (mkF m 6 #[.val (.ref a1), .val (.int (2 : Int32))] [(.ref mo), (.int (2 : Int32)), (.ref a1)]))
  obtain ⟨_, _, ⟨T2, L2, kc2, ns2⟩, -, X2, ⟨Lc2, hQ2, l2, y2, z2⟩, st2⟩ := Jvm.LawKit.callS X1 hx (y := (⟨"java/util/Arrays", "copyOf", "([Ljava/lang/Object;ILjava/lang/Class;)[Ljava/lang/Object;"⟩ : MethodName)) hown (mvT hZ (hw _ (List.mem_of_getElem? (i := 50) rfl))) (mvT hZ (hw _ (List.mem_of_getElem? (i := 51) rfl))) (mvT hZ (hw _ (List.mem_of_getElem? (i := 42) rfl))) (mvT hZ (hw _ (List.mem_of_getElem? (i := 52) rfl))) (by decide) (backOf (W := 0) (rmC3_1 l Z a0 hw [] a1 mo k1 el0 h0 n0 (Nat.le_trans Z0 (Keep.refl h0 []).1) V_a1 E_a1 E_el0 M_mo) hZ (hw _ (List.mem_of_getElem? (i := 52) rfl)) (hw _ (List.mem_of_getElem? (i := 42) rfl)) (by decide) (by decide)) (g := (mkF m 6 #[.val (.ref a1), .val (.int (2 : Int32))] [(.ref mo), (.int (2 : Int32)), (.ref a1)])) rfl (by rw [hml]; rfl) (argsL := [(.ref a1), (.int (2 : Int32)), (.ref mo)]) (rest := []) (lenOf pd___Ljava_lang_Object_ILjava_lang_Class___Ljava_lang_Object_ rfl) rfl (by show 2 * 0 + _ ≤ _; exact Nat.le_of_eq rfl) (hb hby d5_6) (fun _ _ => ⟨rfl, e1, (by decide : 0 + 1 ≤ _), (by decide : 0 + 2 ≤ _)⟩)
  dsimp only [Pt.U, Pt.locs, Pt.cells, Pt.slots] at X2 l2 y2 z2 st2 hQ2
  subst l2 y2 z2
  obtain ⟨b_2, kb_2, rfl, N2q, P2_0, P2_1, P2_2, P2_3, P2_4, P2_5⟩ := hQ2
  have K2 : Keep h0 T2.heap [] := Keep.trans (Keep.refl h0 []) P2_0 all0
  have sz_b_2 : h0.size ≤ b_2 := Nat.le_trans (Keep.refl h0 []).1 P2_4
  have N2 := Fr.app N0 N2q
  refine OwnR.of (st2) ?_
  show OwnR _ _ _ _ _ _ _ (T2.setTop (mkF m 9 #[.val (.ref a1), .val (.int (2 : Int32))] [(.ref b_2)]))
  refine own_leafA X2 hx hlk Bd.returns rfl rfl (hb hby d5_9) (by decide) (by decide) ?_
  show QC2_1 Z el0 h0 n0 _ T2.heap _
  skip
  refine ⟨b_2, kb_2, ?_, N2, ⟨K2, P2_1, P2_2, P2_3, sz_b_2, P2_5⟩⟩
  show (some (.ref b_2) : Option Value) = some (.ref b_2)
  rfl
theorem ef_rmCI_1 (m : MethodId) (x0 : Addr) : entryFrame m #[(.ref x0), (.int (2 : Int32))] 3 = mkF m 0 #[.val (.ref x0), .val (.int (2 : Int32)), .unset] [] := by first | (simp [entryFrame, mkF, argsToLocals, Value.category]; done) | rfl
theorem d8_0 : decode jdk_65_method_123_code 0 = .ok (.iload_n 1, 1) := by decide +kernel
theorem d8_1 : decode jdk_65_method_123_code 1 = .ok (.aload_n 0, 1) := by decide +kernel
theorem d8_2 : decode jdk_65_method_123_code 2 = .ok (.arraylength, 1) := by decide +kernel
theorem d8_3 : decode jdk_65_method_123_code 3 = .ok (.if_icmp .ne 11, 3) := by decide +kernel
theorem d8_14 : decode jdk_65_method_123_code 14 = .ok (.iload_n 1, 1) := by decide +kernel
theorem d8_15 : decode jdk_65_method_123_code 15 = .ok (.newarray .int, 2) := by decide +kernel
theorem d8_17 : decode jdk_65_method_123_code 17 = .ok (.astore_n 2, 1) := by decide +kernel
theorem d8_18 : decode jdk_65_method_123_code 18 = .ok (.aload_n 0, 1) := by decide +kernel
theorem d8_19 : decode jdk_65_method_123_code 19 = .ok (.iconst 0, 1) := by decide +kernel
theorem d8_20 : decode jdk_65_method_123_code 20 = .ok (.aload_n 2, 1) := by decide +kernel
theorem d8_21 : decode jdk_65_method_123_code 21 = .ok (.iconst 0, 1) := by decide +kernel
theorem d8_22 : decode jdk_65_method_123_code 22 = .ok (.aload_n 0, 1) := by decide +kernel
theorem d8_23 : decode jdk_65_method_123_code 23 = .ok (.arraylength, 1) := by decide +kernel
theorem d8_24 : decode jdk_65_method_123_code 24 = .ok (.iload_n 1, 1) := by decide +kernel
theorem d8_25 : decode jdk_65_method_123_code 25 = .ok (.invokestatic 304, 3) := by decide +kernel
theorem d8_28 : decode jdk_65_method_123_code 28 = .ok (.invokestatic 150, 3) := by decide +kernel
theorem d8_31 : decode jdk_65_method_123_code 31 = .ok (.aload_n 2, 1) := by decide +kernel
theorem d8_32 : decode jdk_65_method_123_code 32 = .ok (.areturn, 1) := by decide +kernel
def QCI_1 (Z : State) (f0 : Int32) (h0 : Heap) (n0 : Nat) (v : Option Value) (h : Heap) (L : List Loc) : Prop := ∃ (b : Addr) (kb : ClassId), v = some (.ref b) ∧ Fr n0 L ∧ Keep h0 h [] ∧ Arv Z h b kb .int (2 : Int32) [(.int f0), (.int (0 : Int32))] (.int (0 : Int32)) ∧ h0.size ≤ b ∧ n0 ≤ b
set_option maxRecDepth 65536 in
set_option maxHeartbeats 40000000 in
theorem rmCI_1 (l : Launch) (Z : State) (a0 : Array Value) (hw : ∀ d ∈ tables_1, d.before a0 Z = true) (ws : List Jvm.Cond) (a1 : Addr) (k1 : ClassId) (f0 : Int32) (h0 : Heap) (n0 : Nat) (Z0 : n0 ≤ h0.size) (V_a1 : Arv Z h0 a1 k1 .int (1 : Int32) [(.int f0)] (.int (0 : Int32))) :
    MetFree l (⟨"java/util/Arrays", "copyOf", "([II)[I"⟩ : MethodName) (head1 (Jvm.Cond.code (⟨"java/util/Arrays", "copyOf", "([II)[I"⟩ : MethodName) jdk_65_method_123_code 3 (some (.array .int)) :: ws) ({ frames := 1, cells := 1, slots := 2, locals := 48 } : Room)) (fun a U => a = #[(.ref a1), (.int (2 : Int32))] ∧ Z.Warmed39 U.vm ∧ U.heap = h0) (fun _ _ _ _ _ => True) (fun _ U o U' => ∃ v L, o = .returned v ∧ QCI_1 Z f0 h0 n0 v U'.heap L ∧ FrameEnd U o U' L ({ frames := 1, cells := 1, slots := 2, locals := 48 } : Room).cells ({ frames := 1, cells := 1, slots := 2, locals := 48 } : Room).slots) := by
  refine MetFree.of_bodySF (plainFor_of_name pn_java_util_Arrays) hisR ?_
  intro p e s m args below meth c s₁ Bd hml0 hP hK
  obtain ⟨rfl, hZ, hh⟩ := hP
  have hx := Bd.exec
  have hby := Bd.bytes
  have hlk := BodyLoose.notSynchronized Bd
  have hml : c.maxLocals = 3 := hml0
  have hown : s.vm.findClass "java/util/Arrays" = some m.cls := findClass_of_methodNamed Bd.named
  have hnm := (name_of_methodNamed Bd.named Bd.method).1
  have X0 : Stand p l e ({ frames := 1, cells := 1, slots := 2, locals := 48 } : Room) s m #[(.ref a1), (.int (2 : Int32))] below meth c s₁ [] 0 0 := Stand.of_body Bd
  have e0 : s₁.heap = h0 := by rw [← hh, Bd.state]; rfl
  have N0 := Fr.nil n0
  refine OwnR.of (s := s) (Q := QCI_1 Z f0 h0 n0) (fun t k => castTop (ef_rmCI_1 m a1) k) ?_
  show OwnR _ _ _ _ _ _ _ (s₁.setTop (mkF m 0 #[.val (.ref a1), .val (.int (2 : Int32)), .unset] []))
  refine OwnR.of (fun _ hr => XS.iloadN X0.here hx rfl (hb hby d8_0) rfl hr) ?_
  show OwnR _ _ _ _ _ _ _ (s₁.setTop (mkF m 1 #[.val (.ref a1), .val (.int (2 : Int32)), .unset] [(.int (2 : Int32))]))
  refine OwnR.of (fun _ hr => XS.aloadN X0.here hx rfl (hb hby d8_1) rfl rfl hr) ?_
  show OwnR _ _ _ _ _ _ _ (s₁.setTop (mkF m 2 #[.val (.ref a1), .val (.int (2 : Int32)), .unset] [(.ref a1), (.int (2 : Int32))]))
  obtain ⟨cl1, Ar1, -, S1, N1, -, -⟩ := id V_a1
  refine OwnR.of (X0.arraylength hx (by rw [e0]; exact Ar1.1) (State.isArrayOf_alike hZ.alike Ar1.2.1) (g := (mkF m 2 #[.val (.ref a1), .val (.int (2 : Int32)), .unset] [(.ref a1), (.int (2 : Int32))])) rfl rfl (hb hby d8_2)) ?_
  show OwnR _ _ _ _ _ _ _ (s₁.setTop (mkF m 3 #[.val (.ref a1), .val (.int (2 : Int32)), .unset] [(.int cl1.slots.size.toInt32), (.int (2 : Int32))]))
  rw [len_of S1 N1]
  show OwnR _ _ _ _ _ _ _ (s₁.setTop (mkF m 3 #[.val (.ref a1), .val (.int (2 : Int32)), .unset] [(.int (1 : Int32)), (.int (2 : Int32))]))
  refine OwnR.of (fun _ hr => XS.icmpYes X0.here hx rfl (pc0 := 3) (pc' := 14) rfl (hb hby d8_3) rfl (feq (by decide : ¬ ((2 : Int32) = (1 : Int32)))).2 (by decide) (by decide) hr) ?_
  show OwnR _ _ _ _ _ _ _ (s₁.setTop (mkF m 14 #[.val (.ref a1), .val (.int (2 : Int32)), .unset] []))
  refine OwnR.of (fun _ hr => XS.iloadN X0.here hx rfl (hb hby d8_14) rfl hr) ?_
  show OwnR _ _ _ _ _ _ _ (s₁.setTop (mkF m 15 #[.val (.ref a1), .val (.int (2 : Int32)), .unset] [(.int (2 : Int32))]))
  obtain ⟨T2, h2, k2, X2, e2, E2, A2, AE2, st2⟩ := newPE X0 hx hZ (hw _ (List.mem_of_getElem? (i := 30) rfl)) e0 (g := (mkF m 15 #[.val (.ref a1), .val (.int (2 : Int32)), .unset] [(.int (2 : Int32))])) rfl (hb hby d8_15) rfl (by decide) (cap := 2) (by decide) (by decide) (by decide) (by decide) (ad := "[I") rfl
  obtain ⟨b2, g2⟩ : ∃ z, z = h0.size := ⟨_, rfl⟩
  rw [← g2] at A2 AE2 st2
  refine OwnR.of (st2) ?_
  have gn_b2 : n0 ≤ b2 := Nat.le_trans (Nat.le_trans Z0 (Keep.refl h0 []).1) (Nat.le_of_eq g2.symm)
  have sz_b2 : h0.size ≤ b2 := Nat.le_trans (Keep.refl h0 []).1 (Nat.le_of_eq g2.symm)
  have K2 : Keep h0 h2 [] := Keep.ext (Keep.refl h0 []) E2
  have V2 : Arv Z h2 b2 k2 .int (2 : Int32) [(.int (0 : Int32)), (.int (0 : Int32))] (.int (0 : Int32)) := (Arv.new A2 (by decide)).pad (pad_rep [] (.int (0 : Int32)) 2)
  show OwnR _ _ _ _ _ _ _ (T2.setTop (mkF m 17 #[.val (.ref a1), .val (.int (2 : Int32)), .unset] [(.ref b2)]))
  refine OwnR.of (fun _ hr => XS.astoreN X2.here hx rfl (hb hby d8_17) rfl rfl (l' := #[.val (.ref a1), .val (.int (2 : Int32)), .val (.ref b2)]) rfl hr) ?_
  show OwnR _ _ _ _ _ _ _ (T2.setTop (mkF m 18 #[.val (.ref a1), .val (.int (2 : Int32)), .val (.ref b2)] []))
  refine OwnR.of (fun _ hr => XS.aloadN X2.here hx rfl (hb hby d8_18) rfl rfl hr) ?_
  show OwnR _ _ _ _ _ _ _ (T2.setTop (mkF m 19 #[.val (.ref a1), .val (.int (2 : Int32)), .val (.ref b2)] [(.ref a1)]))
  refine OwnR.of (fun _ hr => XS.iconst X2.here hx rfl (hb hby d8_19) hr) ?_
  show OwnR _ _ _ _ _ _ _ (T2.setTop (mkF m 20 #[.val (.ref a1), .val (.int (2 : Int32)), .val (.ref b2)] [(.int (0 : Int32)), (.ref a1)]))
  refine OwnR.of (fun _ hr => XS.aloadN X2.here hx rfl (hb hby d8_20) rfl rfl hr) ?_
  show OwnR _ _ _ _ _ _ _ (T2.setTop (mkF m 21 #[.val (.ref a1), .val (.int (2 : Int32)), .val (.ref b2)] [(.ref b2), (.int (0 : Int32)), (.ref a1)]))
  refine OwnR.of (fun _ hr => XS.iconst X2.here hx rfl (hb hby d8_21) hr) ?_
  show OwnR _ _ _ _ _ _ _ (T2.setTop (mkF m 22 #[.val (.ref a1), .val (.int (2 : Int32)), .val (.ref b2)] [(.int (0 : Int32)), (.ref b2), (.int (0 : Int32)), (.ref a1)]))
  refine OwnR.of (fun _ hr => XS.aloadN X2.here hx rfl (hb hby d8_22) rfl rfl hr) ?_
  show OwnR _ _ _ _ _ _ _ (T2.setTop (mkF m 23 #[.val (.ref a1), .val (.int (2 : Int32)), .val (.ref b2)] [(.ref a1), (.int (0 : Int32)), (.ref b2), (.int (0 : Int32)), (.ref a1)]))
  obtain ⟨cl3, Ar3, -, S3, N3, -, -⟩ := id (Arv.keep V_a1 K2 nin0)
  refine OwnR.of (X2.arraylength hx (by rw [e2]; exact Ar3.1) (State.isArrayOf_alike hZ.alike Ar3.2.1) (g := (mkF m 23 #[.val (.ref a1), .val (.int (2 : Int32)), .val (.ref b2)] [(.ref a1), (.int (0 : Int32)), (.ref b2), (.int (0 : Int32)), (.ref a1)])) rfl rfl (hb hby d8_23)) ?_
  show OwnR _ _ _ _ _ _ _ (T2.setTop (mkF m 24 #[.val (.ref a1), .val (.int (2 : Int32)), .val (.ref b2)] [(.int cl3.slots.size.toInt32), (.int (0 : Int32)), (.ref b2), (.int (0 : Int32)), (.ref a1)]))
  rw [len_of S3 N3]
  show OwnR _ _ _ _ _ _ _ (T2.setTop (mkF m 24 #[.val (.ref a1), .val (.int (2 : Int32)), .val (.ref b2)] [(.int (1 : Int32)), (.int (0 : Int32)), (.ref b2), (.int (0 : Int32)), (.ref a1)]))
  refine OwnR.of (fun _ hr => XS.iloadN X2.here hx rfl (hb hby d8_24) rfl hr) ?_
  show OwnR _ _ _ _ _ _ _ (T2.setTop (mkF m 25 #[.val (.ref a1), .val (.int (2 : Int32)), .val (.ref b2)] [(.int (2 : Int32)), (.int (1 : Int32)), (.int (0 : Int32)), (.ref b2), (.int (0 : Int32)), (.ref a1)]))
  obtain ⟨_, _, ⟨T4, L4, kc4, ns4⟩, -, X4, ⟨Lc4, hQ4, l4, y4, z4⟩, st4⟩ := Jvm.LawKit.callS X2 hx (y := (⟨"java/lang/Math", "min", "(II)I"⟩ : MethodName)) hown (mvT hZ (hw _ (List.mem_of_getElem? (i := 55) rfl))) (mvT hZ (hw _ (List.mem_of_getElem? (i := 56) rfl))) (mvT hZ (hw _ (List.mem_of_getElem? (i := 57) rfl))) (mvT hZ (hw _ (List.mem_of_getElem? (i := 58) rfl))) (by decide) (backOf (W := 4) (rmMin l Z a0 hw [] (1 : Int32) (2 : Int32) h2 n0 (Nat.le_trans Z0 K2.1) ) hZ (hw _ (List.mem_of_getElem? (i := 58) rfl)) (hw _ (List.mem_of_getElem? (i := 57) rfl)) (by decide) (by decide)) (g := (mkF m 25 #[.val (.ref a1), .val (.int (2 : Int32)), .val (.ref b2)] [(.int (2 : Int32)), (.int (1 : Int32)), (.int (0 : Int32)), (.ref b2), (.int (0 : Int32)), (.ref a1)])) rfl (by rw [hml]; rfl) (argsL := [(.int (1 : Int32)), (.int (2 : Int32))]) (rest := [(.int (0 : Int32)), (.ref b2), (.int (0 : Int32)), (.ref a1)]) (lenOf pd__II_I rfl) rfl (by show 2 * 0 + _ ≤ _; exact Nat.le_of_eq rfl) (hb hby d8_25) (fun _ _ => ⟨rfl, e2, (by decide : 1 + 0 ≤ _), (by decide : 2 + 0 ≤ _)⟩)
  dsimp only [Pt.U, Pt.locs, Pt.cells, Pt.slots] at X4 l4 y4 z4 st4 hQ4
  subst l4 y4 z4
  obtain ⟨rfl, N4q, e4⟩ := hQ4
  have N4 := Fr.app N0 N4q
  refine OwnR.of (st4) ?_
  show OwnR _ _ _ _ _ _ _ (T4.setTop (mkF m 28 #[.val (.ref a1), .val (.int (2 : Int32)), .val (.ref b2)] [(.int (own_imin (1 : Int32) (2 : Int32))), (.int (0 : Int32)), (.ref b2), (.int (0 : Int32)), (.ref a1)]))
  rw [(by decide : (own_imin (1 : Int32) (2 : Int32)) = (1 : Int32))]
  show OwnR _ _ _ _ _ _ _ (T4.setTop (mkF m 28 #[.val (.ref a1), .val (.int (2 : Int32)), .val (.ref b2)] [(.int (1 : Int32)), (.int (0 : Int32)), (.ref b2), (.int (0 : Int32)), (.ref a1)]))
  obtain ⟨T5, h5, L5, X5, e5, N5, Kp5, V5, st5⟩ := cpA X4 hx hZ hown (hw _ (List.mem_of_getElem? (i := 59) rfl)) (hw _ (List.mem_of_getElem? (i := 62) rfl)) (hw _ (List.mem_of_getElem? (i := 60) rfl)) (hw _ (List.mem_of_getElem? (i := 61) rfl)) e4 (Arv.keep V_a1 K2 nin0) V2 (Or.inl ⟨rfl, rfl⟩) (us := [(.int f0)]) (by decide) (by decide) (by decide) (by decide) (by decide) rfl (by decide) N4 gn_b2 (g := (mkF m 28 #[.val (.ref a1), .val (.int (2 : Int32)), .val (.ref b2)] [(.int (1 : Int32)), (.int (0 : Int32)), (.ref b2), (.int (0 : Int32)), (.ref a1)])) rfl (by rw [hml]; rfl) rfl (hb hby d8_28) (by decide) (W := 0) (by show 2 * 0 + _ ≤ _; exact Nat.le_of_eq rfl) (by decide)
  refine OwnR.of (st5) ?_
  have K5 : Keep h0 h5 [] := Keep.trans K2 Kp5 (allS (Or.inr sz_b2) all0)
  have V5 : Arv Z h5 b2 k2 .int (2 : Int32) [(.int f0), (.int (0 : Int32))] (.int (0 : Int32)) := V5
  show OwnR _ _ _ _ _ _ _ (T5.setTop (mkF m 31 #[.val (.ref a1), .val (.int (2 : Int32)), .val (.ref b2)] []))
  refine OwnR.of (fun _ hr => XS.aloadN X5.here hx rfl (hb hby d8_31) rfl rfl hr) ?_
  show OwnR _ _ _ _ _ _ _ (T5.setTop (mkF m 32 #[.val (.ref a1), .val (.int (2 : Int32)), .val (.ref b2)] [(.ref b2)]))
  refine own_leafA X5 hx hlk Bd.returns rfl rfl (hb hby d8_32) (by decide) (by decide) ?_
  show QCI_1 Z f0 h0 n0 _ T5.heap _
  rw [show T5.heap = h5 from e5]
  refine ⟨b2, k2, ?_, N5, ⟨K5, V5, sz_b2, gn_b2⟩⟩
  show (some (.ref b2) : Option Value) = some (.ref b2)
  rfl
theorem pn_com_example_tercet_tercet_core_Pages : plainName "com/example/tercet/tercet/core/Pages" = true := by first | (simp [plainName, overriddenIn]; done) | decide +kernel
theorem ef_rmT_1 (m : MethodId) (x0 : Addr) (x1 : Int32) (x2 : Addr) : entryFrame m #[(.ref x0), (.int x1), (.ref x2)] 3 = mkF m 0 #[.val (.ref x0), .val (.int x1), .val (.ref x2)] [] := by first | (simp [entryFrame, mkF, argsToLocals, Value.category]; done) | rfl
theorem d4_0 : decode prog_34_method_4_code 0 = .ok (.aload_n 0, 1) := by decide +kernel
theorem d4_1 : decode prog_34_method_4_code 1 = .ok (.getfield 28, 3) := by decide +kernel
theorem d4_4 : decode prog_34_method_4_code 4 = .ok (.aload_n 0, 1) := by decide +kernel
theorem d4_5 : decode prog_34_method_4_code 5 = .ok (.getfield 20, 3) := by decide +kernel
theorem d4_8 : decode prog_34_method_4_code 8 = .ok (.arraylength, 1) := by decide +kernel
theorem d4_9 : decode prog_34_method_4_code 9 = .ok (.if_icmp .ne 37, 3) := by decide +kernel
theorem d4_12 : decode prog_34_method_4_code 12 = .ok (.aload_n 0, 1) := by decide +kernel
theorem d4_13 : decode prog_34_method_4_code 13 = .ok (.aload_n 0, 1) := by decide +kernel
theorem d4_14 : decode prog_34_method_4_code 14 = .ok (.getfield 20, 3) := by decide +kernel
theorem d4_17 : decode prog_34_method_4_code 17 = .ok (.iconst 2, 1) := by decide +kernel
theorem d4_18 : decode prog_34_method_4_code 18 = .ok (.aload_n 0, 1) := by decide +kernel
theorem d4_19 : decode prog_34_method_4_code 19 = .ok (.getfield 28, 3) := by decide +kernel
theorem d4_22 : decode prog_34_method_4_code 22 = .ok (.imul, 1) := by decide +kernel
theorem d4_23 : decode prog_34_method_4_code 23 = .ok (.invokestatic 37, 3) := by decide +kernel
theorem pd___Ljava_lang_Object_I__Ljava_lang_Object_ : parseMethodDescriptor "([Ljava/lang/Object;I)[Ljava/lang/Object;" = some ⟨[(.array (.object "java/lang/Object")), .int], some (.array (.object "java/lang/Object"))⟩ := by decide +kernel
theorem d4_26 : decode prog_34_method_4_code 26 = .ok (.putfield 20, 3) := by decide +kernel
theorem d4_29 : decode prog_34_method_4_code 29 = .ok (.aload_n 0, 1) := by decide +kernel
theorem d4_30 : decode prog_34_method_4_code 30 = .ok (.aload_n 0, 1) := by decide +kernel
theorem d4_31 : decode prog_34_method_4_code 31 = .ok (.getfield 24, 3) := by decide +kernel
theorem d4_34 : decode prog_34_method_4_code 34 = .ok (.iconst 2, 1) := by decide +kernel
theorem d4_35 : decode prog_34_method_4_code 35 = .ok (.aload_n 0, 1) := by decide +kernel
theorem d4_36 : decode prog_34_method_4_code 36 = .ok (.getfield 28, 3) := by decide +kernel
theorem d4_39 : decode prog_34_method_4_code 39 = .ok (.imul, 1) := by decide +kernel
theorem d4_40 : decode prog_34_method_4_code 40 = .ok (.invokestatic 43, 3) := by decide +kernel
theorem pd___II__I : parseMethodDescriptor "([II)[I" = some ⟨[(.array .int), .int], some (.array .int)⟩ := by decide +kernel
theorem d4_43 : decode prog_34_method_4_code 43 = .ok (.putfield 24, 3) := by decide +kernel
theorem d4_46 : decode prog_34_method_4_code 46 = .ok (.aload_n 0, 1) := by decide +kernel
theorem d4_47 : decode prog_34_method_4_code 47 = .ok (.getfield 20, 3) := by decide +kernel
theorem d4_50 : decode prog_34_method_4_code 50 = .ok (.aload_n 0, 1) := by decide +kernel
theorem d4_51 : decode prog_34_method_4_code 51 = .ok (.getfield 28, 3) := by decide +kernel
theorem d4_54 : decode prog_34_method_4_code 54 = .ok (.aload_n 2, 1) := by decide +kernel
theorem d4_55 : decode prog_34_method_4_code 55 = .ok (.aastore, 1) := by decide +kernel
theorem d4_56 : decode prog_34_method_4_code 56 = .ok (.aload_n 0, 1) := by decide +kernel
theorem d4_57 : decode prog_34_method_4_code 57 = .ok (.getfield 24, 3) := by decide +kernel
theorem d4_60 : decode prog_34_method_4_code 60 = .ok (.aload_n 0, 1) := by decide +kernel
theorem d4_61 : decode prog_34_method_4_code 61 = .ok (.getfield 28, 3) := by decide +kernel
theorem d4_64 : decode prog_34_method_4_code 64 = .ok (.iload_n 1, 1) := by decide +kernel
theorem d4_65 : decode prog_34_method_4_code 65 = .ok (.iastore, 1) := by decide +kernel
theorem d4_66 : decode prog_34_method_4_code 66 = .ok (.aload_n 0, 1) := by decide +kernel
theorem d4_67 : decode prog_34_method_4_code 67 = .ok (.dup, 1) := by decide +kernel
theorem d4_68 : decode prog_34_method_4_code 68 = .ok (.getfield 28, 3) := by decide +kernel
theorem d4_71 : decode prog_34_method_4_code 71 = .ok (.iconst 1, 1) := by decide +kernel
theorem d4_72 : decode prog_34_method_4_code 72 = .ok (.iadd, 1) := by decide +kernel
theorem d4_73 : decode prog_34_method_4_code 73 = .ok (.putfield 28, 3) := by decide +kernel
theorem d4_76 : decode prog_34_method_4_code 76 = .ok (.aload_n 0, 1) := by decide +kernel
theorem d4_77 : decode prog_34_method_4_code 77 = .ok (.aload_n 0, 1) := by decide +kernel
theorem d4_78 : decode prog_34_method_4_code 78 = .ok (.getfield 7, 3) := by decide +kernel
theorem d4_81 : decode prog_34_method_4_code 81 = .ok (.putfield 13, 3) := by decide +kernel
theorem d4_84 : decode prog_34_method_4_code 84 = .ok (.aload_n 0, 1) := by decide +kernel
theorem d4_85 : decode prog_34_method_4_code 85 = .ok (.aload_n 2, 1) := by decide +kernel
theorem d4_86 : decode prog_34_method_4_code 86 = .ok (.putfield 16, 3) := by decide +kernel
theorem d4_89 : decode prog_34_method_4_code 89 = .ok (.return_, 1) := by decide +kernel
def QT_1 (Z : State) (a1 : Addr) (p2 : Int32) (a3 : Addr) (pl : Int32) (el0 : Addr) (f0 : Int32) (h0 : Heap) (n0 : Nat) (v : Option Value) (h : Heap) (L : List Loc) : Prop := ∃ (b : Addr) (kb : ClassId) (c : Addr) (kc : ClassId), v = none ∧ Fr n0 L ∧ Keep h0 h [a1] ∧ Exa Z h a1 "com/example/tercet/tercet/core/Pages" ∧ Fld Z h a1 "com/example/tercet/tercet/core/Pages" "pageLength" "I" (.int pl) ∧ Fld Z h a1 "com/example/tercet/tercet/core/Pages" "limit" "I" (.int pl) ∧ Fld Z h a1 "com/example/tercet/tercet/core/Pages" "last" "Ljava/lang/Object;" (.ref a3) ∧ Fld Z h a1 "com/example/tercet/tercet/core/Pages" "pages" "[Ljava/lang/Object;" (.ref b) ∧ Fld Z h a1 "com/example/tercet/tercet/core/Pages" "firsts" "[I" (.ref c) ∧ Fld Z h a1 "com/example/tercet/tercet/core/Pages" "count" "I" (.int (2 : Int32)) ∧ Arv Z h b kb (.object "java/lang/Object") (2 : Int32) [(.ref el0), (.ref a3)] .null ∧ Ovr Z kb "java/lang/Object" ∧ Exa Z h b "[Ljava/lang/Object;" ∧ Arv Z h c kc .int (2 : Int32) [(.int f0), (.int p2)] (.int (0 : Int32)) ∧ h0.size ≤ b ∧ n0 ≤ b ∧ h0.size ≤ c ∧ n0 ≤ c
set_option maxRecDepth 65536 in
set_option maxHeartbeats 40000000 in
theorem rmT_1 (l : Launch) (Z : State) (a0 : Array Value) (hw : ∀ d ∈ tables_1, d.before a0 Z = true) (ws : List Jvm.Cond) (a1 : Addr) (p2 : Int32) (a3 : Addr) (pl lm : Int32) (ls bp bf : Addr) (kp kf : ClassId) (el0 : Addr) (f0 : Int32) (mo : Addr) (h0 : Heap) (n0 : Nat) (Z0 : n0 ≤ h0.size) (E_a1 : Exa Z h0 a1 "com/example/tercet/tercet/core/Pages") (F_pageLength_a1 : Fld Z h0 a1 "com/example/tercet/tercet/core/Pages" "pageLength" "I" (.int pl)) (F_limit_a1 : Fld Z h0 a1 "com/example/tercet/tercet/core/Pages" "limit" "I" (.int lm)) (F_last_a1 : Fld Z h0 a1 "com/example/tercet/tercet/core/Pages" "last" "Ljava/lang/Object;" (.ref ls)) (F_pages_a1 : Fld Z h0 a1 "com/example/tercet/tercet/core/Pages" "pages" "[Ljava/lang/Object;" (.ref bp)) (F_firsts_a1 : Fld Z h0 a1 "com/example/tercet/tercet/core/Pages" "firsts" "[I" (.ref bf)) (F_count_a1 : Fld Z h0 a1 "com/example/tercet/tercet/core/Pages" "count" "I" (.int (1 : Int32))) (V_bp : Arv Z h0 bp kp (.object "java/lang/Object") (1 : Int32) [(.ref el0)] .null) (V_bf : Arv Z h0 bf kf .int (1 : Int32) [(.int f0)] (.int (0 : Int32))) (E_bp : Exa Z h0 bp "[Ljava/lang/Object;") (E_a3 : Exa Z h0 a3 "java/lang/Integer") (E_el0 : Exa Z h0 el0 "java/lang/Integer") (M_mo : OwnMir Z "[Ljava/lang/Object;" mo) (g_a1 : n0 ≤ a1) (ne_1p : a1 ≠ bp) (ne_1f : a1 ≠ bf) :
    MetFree l (⟨"com/example/tercet/tercet/core/Pages", "turn", "(ILjava/lang/Object;)V"⟩ : MethodName) (head1 (Jvm.Cond.code (⟨"com/example/tercet/tercet/core/Pages", "turn", "(ILjava/lang/Object;)V"⟩ : MethodName) prog_34_method_4_code 3 none :: ws) ({ frames := 3, cells := 2, slots := 4, locals := 96 } : Room)) (fun a U => a = #[(.ref a1), (.int p2), (.ref a3)] ∧ Z.Warmed39 U.vm ∧ U.heap = h0) (fun _ _ _ _ _ => True) (fun _ U o U' => ∃ v L, o = .returned v ∧ QT_1 Z a1 p2 a3 pl el0 f0 h0 n0 v U'.heap L ∧ FrameEnd U o U' L ({ frames := 3, cells := 2, slots := 4, locals := 96 } : Room).cells ({ frames := 3, cells := 2, slots := 4, locals := 96 } : Room).slots) := by
  refine MetFree.of_bodySF (plainFor_of_name pn_com_example_tercet_tercet_core_Pages) hisR ?_
  intro p e s m args below meth c s₁ Bd hml0 hP hK
  obtain ⟨rfl, hZ, hh⟩ := hP
  have hx := Bd.exec
  have hby := Bd.bytes
  have hlk := BodyLoose.notSynchronized Bd
  have hml : c.maxLocals = 3 := hml0
  have hown : s.vm.findClass "com/example/tercet/tercet/core/Pages" = some m.cls := findClass_of_methodNamed Bd.named
  have hnm := (name_of_methodNamed Bd.named Bd.method).1
  have X0 : Stand p l e ({ frames := 3, cells := 2, slots := 4, locals := 96 } : Room) s m #[(.ref a1), (.int p2), (.ref a3)] below meth c s₁ [] 0 0 := Stand.of_body Bd
  have e0 : s₁.heap = h0 := by rw [← hh, Bd.state]; rfl
  have N0 := Fr.nil n0
  refine OwnR.of (s := s) (Q := QT_1 Z a1 p2 a3 pl el0 f0 h0 n0) (fun t k => castTop (ef_rmT_1 m a1 p2 a3) k) ?_
  show OwnR _ _ _ _ _ _ _ (s₁.setTop (mkF m 0 #[.val (.ref a1), .val (.int p2), .val (.ref a3)] []))
  refine OwnR.of (fun _ hr => XS.aloadN X0.here hx rfl (hb hby d4_0) rfl rfl hr) ?_
  show OwnR _ _ _ _ _ _ _ (s₁.setTop (mkF m 1 #[.val (.ref a1), .val (.int p2), .val (.ref a3)] [(.ref a1)]))
  obtain ⟨T1, X1, e1, st1⟩ := getF X0 hx hZ hown (host := "") (Or.inl (hw _ (List.mem_of_getElem? (i := 33) rfl))) Via.refl e0 F_count_a1 (g := (mkF m 1 #[.val (.ref a1), .val (.int p2), .val (.ref a3)] [(.ref a1)])) rfl rfl (hb hby d4_1)
  refine OwnR.of (st1) ?_
  show OwnR _ _ _ _ _ _ _ (T1.setTop (mkF m 4 #[.val (.ref a1), .val (.int p2), .val (.ref a3)] [(.int (1 : Int32))]))
  refine OwnR.of (fun _ hr => XS.aloadN X1.here hx rfl (hb hby d4_4) rfl rfl hr) ?_
  show OwnR _ _ _ _ _ _ _ (T1.setTop (mkF m 5 #[.val (.ref a1), .val (.int p2), .val (.ref a3)] [(.ref a1), (.int (1 : Int32))]))
  obtain ⟨T2, X2, e2, st2⟩ := getF X1 hx hZ hown (host := "") (Or.inl (hw _ (List.mem_of_getElem? (i := 28) rfl))) Via.refl e1 F_pages_a1 (g := (mkF m 5 #[.val (.ref a1), .val (.int p2), .val (.ref a3)] [(.ref a1), (.int (1 : Int32))])) rfl rfl (hb hby d4_5)
  refine OwnR.of (st2) ?_
  show OwnR _ _ _ _ _ _ _ (T2.setTop (mkF m 8 #[.val (.ref a1), .val (.int p2), .val (.ref a3)] [(.ref bp), (.int (1 : Int32))]))
  obtain ⟨cl3, Ar3, -, S3, N3, -, -⟩ := id V_bp
  refine OwnR.of (X2.arraylength hx (by rw [e2]; exact Ar3.1) (State.isArrayOf_alike hZ.alike Ar3.2.1) (g := (mkF m 8 #[.val (.ref a1), .val (.int p2), .val (.ref a3)] [(.ref bp), (.int (1 : Int32))])) rfl rfl (hb hby d4_8)) ?_
  show OwnR _ _ _ _ _ _ _ (T2.setTop (mkF m 9 #[.val (.ref a1), .val (.int p2), .val (.ref a3)] [(.int cl3.slots.size.toInt32), (.int (1 : Int32))]))
  rw [len_of S3 N3]
  show OwnR _ _ _ _ _ _ _ (T2.setTop (mkF m 9 #[.val (.ref a1), .val (.int p2), .val (.ref a3)] [(.int (1 : Int32)), (.int (1 : Int32))]))
  refine OwnR.of (fun _ hr => XS.icmpNo X2.here hx rfl (hb hby d4_9) rfl (teq (by decide : (1 : Int32) = (1 : Int32))).2 hr) ?_
  show OwnR _ _ _ _ _ _ _ (T2.setTop (mkF m 12 #[.val (.ref a1), .val (.int p2), .val (.ref a3)] []))
  refine OwnR.of (fun _ hr => XS.aloadN X2.here hx rfl (hb hby d4_12) rfl rfl hr) ?_
  show OwnR _ _ _ _ _ _ _ (T2.setTop (mkF m 13 #[.val (.ref a1), .val (.int p2), .val (.ref a3)] [(.ref a1)]))
  refine OwnR.of (fun _ hr => XS.aloadN X2.here hx rfl (hb hby d4_13) rfl rfl hr) ?_
  show OwnR _ _ _ _ _ _ _ (T2.setTop (mkF m 14 #[.val (.ref a1), .val (.int p2), .val (.ref a3)] [(.ref a1), (.ref a1)]))
  obtain ⟨T4, X4, e4, st4⟩ := getF X2 hx hZ hown (host := "") (Or.inl (hw _ (List.mem_of_getElem? (i := 28) rfl))) Via.refl e2 F_pages_a1 (g := (mkF m 14 #[.val (.ref a1), .val (.int p2), .val (.ref a3)] [(.ref a1), (.ref a1)])) rfl rfl (hb hby d4_14)
  refine OwnR.of (st4) ?_
  show OwnR _ _ _ _ _ _ _ (T4.setTop (mkF m 17 #[.val (.ref a1), .val (.int p2), .val (.ref a3)] [(.ref bp), (.ref a1)]))
  refine OwnR.of (fun _ hr => XS.iconst X4.here hx rfl (hb hby d4_17) hr) ?_
  show OwnR _ _ _ _ _ _ _ (T4.setTop (mkF m 18 #[.val (.ref a1), .val (.int p2), .val (.ref a3)] [(.int (2 : Int32)), (.ref bp), (.ref a1)]))
  refine OwnR.of (fun _ hr => XS.aloadN X4.here hx rfl (hb hby d4_18) rfl rfl hr) ?_
  show OwnR _ _ _ _ _ _ _ (T4.setTop (mkF m 19 #[.val (.ref a1), .val (.int p2), .val (.ref a3)] [(.ref a1), (.int (2 : Int32)), (.ref bp), (.ref a1)]))
  obtain ⟨T5, X5, e5, st5⟩ := getF X4 hx hZ hown (host := "") (Or.inl (hw _ (List.mem_of_getElem? (i := 33) rfl))) Via.refl e4 F_count_a1 (g := (mkF m 19 #[.val (.ref a1), .val (.int p2), .val (.ref a3)] [(.ref a1), (.int (2 : Int32)), (.ref bp), (.ref a1)])) rfl rfl (hb hby d4_19)
  refine OwnR.of (st5) ?_
  show OwnR _ _ _ _ _ _ _ (T5.setTop (mkF m 22 #[.val (.ref a1), .val (.int p2), .val (.ref a3)] [(.int (1 : Int32)), (.int (2 : Int32)), (.ref bp), (.ref a1)]))
  refine OwnR.of (fun _ hr => XS.imul X5.here hx rfl (hb hby d4_22) rfl hr) ?_
  show OwnR _ _ _ _ _ _ _ (T5.setTop (mkF m 23 #[.val (.ref a1), .val (.int p2), .val (.ref a3)] [(.int ((2 : Int32) * (1 : Int32))), (.ref bp), (.ref a1)]))
  rw [(by decide : ((2 : Int32) * (1 : Int32)) = (2 : Int32))]
  show OwnR _ _ _ _ _ _ _ (T5.setTop (mkF m 23 #[.val (.ref a1), .val (.int p2), .val (.ref a3)] [(.int (2 : Int32)), (.ref bp), (.ref a1)]))
  obtain ⟨_, _, ⟨T6, L6, kc6, ns6⟩, -, X6, ⟨Lc6, hQ6, l6, y6, z6⟩, st6⟩ := Jvm.LawKit.callS X5 hx (y := (⟨"java/util/Arrays", "copyOf", "([Ljava/lang/Object;I)[Ljava/lang/Object;"⟩ : MethodName)) hown (mvT hZ (hw _ (List.mem_of_getElem? (i := 40) rfl))) (mvT hZ (hw _ (List.mem_of_getElem? (i := 41) rfl))) (mvT hZ (hw _ (List.mem_of_getElem? (i := 42) rfl))) (mvT hZ (hw _ (List.mem_of_getElem? (i := 43) rfl))) (by decide) (backOf (W := 1) (rmC2_1 l Z a0 hw [] bp kp el0 mo h0 n0 (Nat.le_trans Z0 (Keep.refl h0 [a1]).1) V_bp E_bp E_el0 M_mo) hZ (hw _ (List.mem_of_getElem? (i := 43) rfl)) (hw _ (List.mem_of_getElem? (i := 42) rfl)) (by decide) (by decide)) (g := (mkF m 23 #[.val (.ref a1), .val (.int p2), .val (.ref a3)] [(.int (2 : Int32)), (.ref bp), (.ref a1)])) rfl (by rw [hml]; rfl) (argsL := [(.ref bp), (.int (2 : Int32))]) (rest := [(.ref a1)]) (lenOf pd___Ljava_lang_Object_I__Ljava_lang_Object_ rfl) rfl (by show 2 * 0 + _ ≤ _; exact Nat.le_of_eq rfl) (hb hby d4_23) (fun _ _ => ⟨rfl, e5, (by decide : 0 + 1 ≤ _), (by decide : 0 + 2 ≤ _)⟩)
  dsimp only [Pt.U, Pt.locs, Pt.cells, Pt.slots] at X6 l6 y6 z6 st6 hQ6
  subst l6 y6 z6
  obtain ⟨b_6, kb_6, rfl, N6q, P6_0, P6_1, P6_2, P6_3, P6_4, P6_5⟩ := hQ6
  have K6 : Keep h0 T6.heap [a1] := Keep.trans (Keep.refl h0 [a1]) P6_0 all0
  have sz_b_6 : h0.size ≤ b_6 := Nat.le_trans (Keep.refl h0 [a1]).1 P6_4
  have N6 := Fr.app N0 N6q
  refine OwnR.of (st6) ?_
  show OwnR _ _ _ _ _ _ _ (T6.setTop (mkF m 26 #[.val (.ref a1), .val (.int p2), .val (.ref a3)] [(.ref b_6), (.ref a1)]))
  obtain ⟨T7, h7, X7, e7, W7, st7⟩ := putF X6 hx hZ hown (host := "") (Or.inl (hw _ (List.mem_of_getElem? (i := 28) rfl))) Via.refl rfl (F_pages_a1.keep P6_0 nin0) (Exa.keep E_a1 K6) (Or.inl (hw _ (List.mem_of_getElem? (i := 29) rfl))) (hw _ (List.mem_of_getElem? (i := 4) rfl)) (ty := (.array (.object "java/lang/Object"))) (by decide) rfl rfl (g := (mkF m 26 #[.val (.ref a1), .val (.int p2), .val (.ref a3)] [(.ref b_6), (.ref a1)])) rfl rfl (hb hby d4_26)
  refine OwnR.of (st7) ?_
  have F7 := Fld.same W7 (F_pages_a1.keep P6_0 nin0)
  have K7 : Keep h0 h7 [a1] := Keep.wr K6 W7 (Or.inl (List.mem_of_getElem? (i := 0) rfl))
  have N7 := Fr.snoc X7 N6 g_a1
  show OwnR _ _ _ _ _ _ _ (T7.setTop (mkF m 29 #[.val (.ref a1), .val (.int p2), .val (.ref a3)] []))
  refine OwnR.of (fun _ hr => XS.aloadN X7.here hx rfl (hb hby d4_29) rfl rfl hr) ?_
  show OwnR _ _ _ _ _ _ _ (T7.setTop (mkF m 30 #[.val (.ref a1), .val (.int p2), .val (.ref a3)] [(.ref a1)]))
  refine OwnR.of (fun _ hr => XS.aloadN X7.here hx rfl (hb hby d4_30) rfl rfl hr) ?_
  show OwnR _ _ _ _ _ _ _ (T7.setTop (mkF m 31 #[.val (.ref a1), .val (.int p2), .val (.ref a3)] [(.ref a1), (.ref a1)]))
  obtain ⟨T8, X8, e8, st8⟩ := getF X7 hx hZ hown (host := "") (Or.inl (hw _ (List.mem_of_getElem? (i := 31) rfl))) Via.refl e7 (Fld.other W7 (F_firsts_a1.keep P6_0 nin0) (Or.inr (slot_ne (Or.inl (hw _ (List.mem_of_getElem? (i := 32) rfl))) (Or.inl (hw _ (List.mem_of_getElem? (i := 29) rfl))) (by decide) (t := (.array .int)) (t' := (.array (.object "java/lang/Object"))) (by decide) (by decide)))) (g := (mkF m 31 #[.val (.ref a1), .val (.int p2), .val (.ref a3)] [(.ref a1), (.ref a1)])) rfl rfl (hb hby d4_31)
  refine OwnR.of (st8) ?_
  show OwnR _ _ _ _ _ _ _ (T8.setTop (mkF m 34 #[.val (.ref a1), .val (.int p2), .val (.ref a3)] [(.ref bf), (.ref a1)]))
  refine OwnR.of (fun _ hr => XS.iconst X8.here hx rfl (hb hby d4_34) hr) ?_
  show OwnR _ _ _ _ _ _ _ (T8.setTop (mkF m 35 #[.val (.ref a1), .val (.int p2), .val (.ref a3)] [(.int (2 : Int32)), (.ref bf), (.ref a1)]))
  refine OwnR.of (fun _ hr => XS.aloadN X8.here hx rfl (hb hby d4_35) rfl rfl hr) ?_
  show OwnR _ _ _ _ _ _ _ (T8.setTop (mkF m 36 #[.val (.ref a1), .val (.int p2), .val (.ref a3)] [(.ref a1), (.int (2 : Int32)), (.ref bf), (.ref a1)]))
  obtain ⟨T9, X9, e9, st9⟩ := getF X8 hx hZ hown (host := "") (Or.inl (hw _ (List.mem_of_getElem? (i := 33) rfl))) Via.refl e8 (Fld.other W7 (F_count_a1.keep P6_0 nin0) (Or.inr (slot_ne (Or.inl (hw _ (List.mem_of_getElem? (i := 34) rfl))) (Or.inl (hw _ (List.mem_of_getElem? (i := 29) rfl))) (by decide) (t := .int) (t' := (.array (.object "java/lang/Object"))) (by decide) (by decide)))) (g := (mkF m 36 #[.val (.ref a1), .val (.int p2), .val (.ref a3)] [(.ref a1), (.int (2 : Int32)), (.ref bf), (.ref a1)])) rfl rfl (hb hby d4_36)
  refine OwnR.of (st9) ?_
  show OwnR _ _ _ _ _ _ _ (T9.setTop (mkF m 39 #[.val (.ref a1), .val (.int p2), .val (.ref a3)] [(.int (1 : Int32)), (.int (2 : Int32)), (.ref bf), (.ref a1)]))
  refine OwnR.of (fun _ hr => XS.imul X9.here hx rfl (hb hby d4_39) rfl hr) ?_
  show OwnR _ _ _ _ _ _ _ (T9.setTop (mkF m 40 #[.val (.ref a1), .val (.int p2), .val (.ref a3)] [(.int ((2 : Int32) * (1 : Int32))), (.ref bf), (.ref a1)]))
  rw [(by decide : ((2 : Int32) * (1 : Int32)) = (2 : Int32))]
  show OwnR _ _ _ _ _ _ _ (T9.setTop (mkF m 40 #[.val (.ref a1), .val (.int p2), .val (.ref a3)] [(.int (2 : Int32)), (.ref bf), (.ref a1)]))
  obtain ⟨_, _, ⟨T10, L10, kc10, ns10⟩, -, X10, ⟨Lc10, hQ10, l10, y10, z10⟩, st10⟩ := Jvm.LawKit.callS X9 hx (y := (⟨"java/util/Arrays", "copyOf", "([II)[I"⟩ : MethodName)) hown (mvT hZ (hw _ (List.mem_of_getElem? (i := 63) rfl))) (mvT hZ (hw _ (List.mem_of_getElem? (i := 64) rfl))) (mvT hZ (hw _ (List.mem_of_getElem? (i := 42) rfl))) (mvT hZ (hw _ (List.mem_of_getElem? (i := 65) rfl))) (by decide) (backOf (W := 1) (rmCI_1 l Z a0 hw [] bf kf f0 h7 n0 (Nat.le_trans Z0 K7.1) (Arv.keep V_bf K7 (ninS (Ne.symm ne_1f) nin0))) hZ (hw _ (List.mem_of_getElem? (i := 65) rfl)) (hw _ (List.mem_of_getElem? (i := 42) rfl)) (by decide) (by decide)) (g := (mkF m 40 #[.val (.ref a1), .val (.int p2), .val (.ref a3)] [(.int (2 : Int32)), (.ref bf), (.ref a1)])) rfl (by rw [hml]; rfl) (argsL := [(.ref bf), (.int (2 : Int32))]) (rest := [(.ref a1)]) (lenOf pd___II__I rfl) rfl (by show 2 * 0 + _ ≤ _; exact Nat.le_of_eq rfl) (hb hby d4_40) (fun _ _ => ⟨rfl, e9, (by decide : 1 + 1 ≤ _), (by decide : 2 + 2 ≤ _)⟩)
  dsimp only [Pt.U, Pt.locs, Pt.cells, Pt.slots] at X10 l10 y10 z10 st10 hQ10
  subst l10 y10 z10
  obtain ⟨b_10, kb_10, rfl, N10q, P10_0, P10_1, P10_2, P10_3⟩ := hQ10
  have K10 : Keep h0 T10.heap [a1] := Keep.trans K7 P10_0 all0
  have sz_b_10 : h0.size ≤ b_10 := Nat.le_trans K7.1 P10_2
  have N10 := Fr.app N7 N10q
  refine OwnR.of (st10) ?_
  show OwnR _ _ _ _ _ _ _ (T10.setTop (mkF m 43 #[.val (.ref a1), .val (.int p2), .val (.ref a3)] [(.ref b_10), (.ref a1)]))
  obtain ⟨T11, h11, X11, e11, W11, st11⟩ := putF X10 hx hZ hown (host := "") (Or.inl (hw _ (List.mem_of_getElem? (i := 31) rfl))) Via.refl rfl ((Fld.other W7 (F_firsts_a1.keep P6_0 nin0) (Or.inr (slot_ne (Or.inl (hw _ (List.mem_of_getElem? (i := 32) rfl))) (Or.inl (hw _ (List.mem_of_getElem? (i := 29) rfl))) (by decide) (t := (.array .int)) (t' := (.array (.object "java/lang/Object"))) (by decide) (by decide)))).keep P10_0 nin0) (Exa.keep E_a1 K10) (Or.inl (hw _ (List.mem_of_getElem? (i := 32) rfl))) (hw _ (List.mem_of_getElem? (i := 4) rfl)) (ty := (.array .int)) (by decide) rfl rfl (g := (mkF m 43 #[.val (.ref a1), .val (.int p2), .val (.ref a3)] [(.ref b_10), (.ref a1)])) rfl rfl (hb hby d4_43)
  refine OwnR.of (st11) ?_
  have F11 := Fld.same W11 ((Fld.other W7 (F_firsts_a1.keep P6_0 nin0) (Or.inr (slot_ne (Or.inl (hw _ (List.mem_of_getElem? (i := 32) rfl))) (Or.inl (hw _ (List.mem_of_getElem? (i := 29) rfl))) (by decide) (t := (.array .int)) (t' := (.array (.object "java/lang/Object"))) (by decide) (by decide)))).keep P10_0 nin0)
  have K11 : Keep h0 h11 [a1] := Keep.wr K10 W11 (Or.inl (List.mem_of_getElem? (i := 0) rfl))
  have N11 := Fr.snoc X11 N10 g_a1
  show OwnR _ _ _ _ _ _ _ (T11.setTop (mkF m 46 #[.val (.ref a1), .val (.int p2), .val (.ref a3)] []))
  refine OwnR.of (fun _ hr => XS.aloadN X11.here hx rfl (hb hby d4_46) rfl rfl hr) ?_
  show OwnR _ _ _ _ _ _ _ (T11.setTop (mkF m 47 #[.val (.ref a1), .val (.int p2), .val (.ref a3)] [(.ref a1)]))
  obtain ⟨T12, X12, e12, st12⟩ := getF X11 hx hZ hown (host := "") (Or.inl (hw _ (List.mem_of_getElem? (i := 28) rfl))) Via.refl e11 (Fld.other W11 (F7.keep P10_0 nin0) (Or.inr (slot_ne (Or.inl (hw _ (List.mem_of_getElem? (i := 29) rfl))) (Or.inl (hw _ (List.mem_of_getElem? (i := 32) rfl))) (by decide) (t := (.array (.object "java/lang/Object"))) (t' := (.array .int)) (by decide) (by decide)))) (g := (mkF m 47 #[.val (.ref a1), .val (.int p2), .val (.ref a3)] [(.ref a1)])) rfl rfl (hb hby d4_47)
  refine OwnR.of (st12) ?_
  show OwnR _ _ _ _ _ _ _ (T12.setTop (mkF m 50 #[.val (.ref a1), .val (.int p2), .val (.ref a3)] [(.ref b_6)]))
  refine OwnR.of (fun _ hr => XS.aloadN X12.here hx rfl (hb hby d4_50) rfl rfl hr) ?_
  show OwnR _ _ _ _ _ _ _ (T12.setTop (mkF m 51 #[.val (.ref a1), .val (.int p2), .val (.ref a3)] [(.ref a1), (.ref b_6)]))
  obtain ⟨T13, X13, e13, st13⟩ := getF X12 hx hZ hown (host := "") (Or.inl (hw _ (List.mem_of_getElem? (i := 33) rfl))) Via.refl e12 (Fld.other W11 ((Fld.other W7 (F_count_a1.keep P6_0 nin0) (Or.inr (slot_ne (Or.inl (hw _ (List.mem_of_getElem? (i := 34) rfl))) (Or.inl (hw _ (List.mem_of_getElem? (i := 29) rfl))) (by decide) (t := .int) (t' := (.array (.object "java/lang/Object"))) (by decide) (by decide)))).keep P10_0 nin0) (Or.inr (slot_ne (Or.inl (hw _ (List.mem_of_getElem? (i := 34) rfl))) (Or.inl (hw _ (List.mem_of_getElem? (i := 32) rfl))) (by decide) (t := .int) (t' := (.array .int)) (by decide) (by decide)))) (g := (mkF m 51 #[.val (.ref a1), .val (.int p2), .val (.ref a3)] [(.ref a1), (.ref b_6)])) rfl rfl (hb hby d4_51)
  refine OwnR.of (st13) ?_
  show OwnR _ _ _ _ _ _ _ (T13.setTop (mkF m 54 #[.val (.ref a1), .val (.int p2), .val (.ref a3)] [(.int (1 : Int32)), (.ref b_6)]))
  refine OwnR.of (fun _ hr => XS.aloadN X13.here hx rfl (hb hby d4_54) rfl rfl hr) ?_
  show OwnR _ _ _ _ _ _ _ (T13.setTop (mkF m 55 #[.val (.ref a1), .val (.int p2), .val (.ref a3)] [(.ref a3), (.int (1 : Int32)), (.ref b_6)]))
  obtain ⟨cl14, Ar14, q14, S14, N14q, H14, G14⟩ := id (Arv.other ((Arv.other P6_1 W7 (Ne.symm (Nat.ne_of_lt (Nat.lt_of_lt_of_le E_a1.lt P6_4)))).keep P10_0 nin0) W11 (Ne.symm (Nat.ne_of_lt (Nat.lt_of_lt_of_le E_a1.lt P6_4))))
  have hin14 : ¬ ((1 : Int32) < 0 ∨ cl14.slots.size ≤ ((1 : Int32)).toNatClampNeg) := (inb_of S14 ⟨by decide, by decide⟩)
  obtain ⟨T14, h14, X14, e14, W14, st14⟩ := stR X13 hx hZ e13 Ar14 (j := (1 : Int32)) hin14 rfl (Sto.ofV Ar14 q14 P6_2 (Ins.of_exa (Exa.keep E_a3 K11) (hw _ (List.mem_of_getElem? (i := 27) rfl)))) (g := (mkF m 55 #[.val (.ref a1), .val (.int p2), .val (.ref a3)] [(.ref a3), (.int (1 : Int32)), (.ref b_6)])) rfl rfl (hb hby d4_55)
  refine OwnR.of (st14) ?_
  have V14 := Arv.set Ar14 q14 S14 N14q H14 G14 rfl W14 1 rfl (Nat.le_of_ble_eq_true rfl)
  have V14 : Arv Z h14 b_6 kb_6 (.object "java/lang/Object") (2 : Int32) [(.ref el0), (.ref a3)] .null := V14
  have K14 : Keep h0 h14 [a1] := Keep.wr K11 W14 (Or.inr sz_b_6)
  have N14 := Fr.snoc X14 N11 P6_5
  show OwnR _ _ _ _ _ _ _ (T14.setTop (mkF m 56 #[.val (.ref a1), .val (.int p2), .val (.ref a3)] []))
  refine OwnR.of (fun _ hr => XS.aloadN X14.here hx rfl (hb hby d4_56) rfl rfl hr) ?_
  show OwnR _ _ _ _ _ _ _ (T14.setTop (mkF m 57 #[.val (.ref a1), .val (.int p2), .val (.ref a3)] [(.ref a1)]))
  obtain ⟨T15, X15, e15, st15⟩ := getF X14 hx hZ hown (host := "") (Or.inl (hw _ (List.mem_of_getElem? (i := 31) rfl))) Via.refl e14 (Fld.other W14 F11 (Or.inl (Nat.ne_of_lt (Nat.lt_of_lt_of_le E_a1.lt P6_4)))) (g := (mkF m 57 #[.val (.ref a1), .val (.int p2), .val (.ref a3)] [(.ref a1)])) rfl rfl (hb hby d4_57)
  refine OwnR.of (st15) ?_
  show OwnR _ _ _ _ _ _ _ (T15.setTop (mkF m 60 #[.val (.ref a1), .val (.int p2), .val (.ref a3)] [(.ref b_10)]))
  refine OwnR.of (fun _ hr => XS.aloadN X15.here hx rfl (hb hby d4_60) rfl rfl hr) ?_
  show OwnR _ _ _ _ _ _ _ (T15.setTop (mkF m 61 #[.val (.ref a1), .val (.int p2), .val (.ref a3)] [(.ref a1), (.ref b_10)]))
  obtain ⟨T16, X16, e16, st16⟩ := getF X15 hx hZ hown (host := "") (Or.inl (hw _ (List.mem_of_getElem? (i := 33) rfl))) Via.refl e15 (Fld.other W14 (Fld.other W11 ((Fld.other W7 (F_count_a1.keep P6_0 nin0) (Or.inr (slot_ne (Or.inl (hw _ (List.mem_of_getElem? (i := 34) rfl))) (Or.inl (hw _ (List.mem_of_getElem? (i := 29) rfl))) (by decide) (t := .int) (t' := (.array (.object "java/lang/Object"))) (by decide) (by decide)))).keep P10_0 nin0) (Or.inr (slot_ne (Or.inl (hw _ (List.mem_of_getElem? (i := 34) rfl))) (Or.inl (hw _ (List.mem_of_getElem? (i := 32) rfl))) (by decide) (t := .int) (t' := (.array .int)) (by decide) (by decide)))) (Or.inl (Nat.ne_of_lt (Nat.lt_of_lt_of_le E_a1.lt P6_4)))) (g := (mkF m 61 #[.val (.ref a1), .val (.int p2), .val (.ref a3)] [(.ref a1), (.ref b_10)])) rfl rfl (hb hby d4_61)
  refine OwnR.of (st16) ?_
  show OwnR _ _ _ _ _ _ _ (T16.setTop (mkF m 64 #[.val (.ref a1), .val (.int p2), .val (.ref a3)] [(.int (1 : Int32)), (.ref b_10)]))
  refine OwnR.of (fun _ hr => XS.iloadN X16.here hx rfl (hb hby d4_64) rfl hr) ?_
  show OwnR _ _ _ _ _ _ _ (T16.setTop (mkF m 65 #[.val (.ref a1), .val (.int p2), .val (.ref a3)] [(.int p2), (.int (1 : Int32)), (.ref b_10)]))
  obtain ⟨cl17, Ar17, q17, S17, N17q, H17, G17⟩ := id (Arv.other (Arv.other P10_1 W11 (Ne.symm (Nat.ne_of_lt (Nat.lt_of_lt_of_le (Exa.keep E_a1 K7).lt P10_2)))) W14 (Ne.symm (Nat.ne_of_lt (Nat.lt_of_lt_of_le (Exa.wr W7 P6_3).lt P10_2))))
  have hin17 : ¬ ((1 : Int32) < 0 ∨ cl17.slots.size ≤ ((1 : Int32)).toNatClampNeg) := (inb_of S17 ⟨by decide, by decide⟩)
  obtain ⟨T17, h17, X17, e17, W17, st17⟩ := stI X16 hx hZ e16 Ar17 (j := (1 : Int32)) hin17 (g := (mkF m 65 #[.val (.ref a1), .val (.int p2), .val (.ref a3)] [(.int p2), (.int (1 : Int32)), (.ref b_10)])) rfl rfl (hb hby d4_65)
  refine OwnR.of (st17) ?_
  have V17 := Arv.set Ar17 q17 S17 N17q H17 G17 rfl W17 1 rfl (Nat.le_of_ble_eq_true rfl)
  have V17 : Arv Z h17 b_10 kb_10 .int (2 : Int32) [(.int f0), (.int p2)] (.int (0 : Int32)) := V17
  have K17 : Keep h0 h17 [a1] := Keep.wr K14 W17 (Or.inr sz_b_10)
  have N17 := Fr.snoc X17 N14 P10_3
  show OwnR _ _ _ _ _ _ _ (T17.setTop (mkF m 66 #[.val (.ref a1), .val (.int p2), .val (.ref a3)] []))
  refine OwnR.of (fun _ hr => XS.aloadN X17.here hx rfl (hb hby d4_66) rfl rfl hr) ?_
  show OwnR _ _ _ _ _ _ _ (T17.setTop (mkF m 67 #[.val (.ref a1), .val (.int p2), .val (.ref a3)] [(.ref a1)]))
  refine OwnR.of (fun _ hr => XS.dup X17.here hx rfl (hb hby d4_67) rfl rfl hr) ?_
  show OwnR _ _ _ _ _ _ _ (T17.setTop (mkF m 68 #[.val (.ref a1), .val (.int p2), .val (.ref a3)] [(.ref a1), (.ref a1)]))
  obtain ⟨T18, X18, e18, st18⟩ := getF X17 hx hZ hown (host := "") (Or.inl (hw _ (List.mem_of_getElem? (i := 33) rfl))) Via.refl e17 (Fld.other W17 (Fld.other W14 (Fld.other W11 ((Fld.other W7 (F_count_a1.keep P6_0 nin0) (Or.inr (slot_ne (Or.inl (hw _ (List.mem_of_getElem? (i := 34) rfl))) (Or.inl (hw _ (List.mem_of_getElem? (i := 29) rfl))) (by decide) (t := .int) (t' := (.array (.object "java/lang/Object"))) (by decide) (by decide)))).keep P10_0 nin0) (Or.inr (slot_ne (Or.inl (hw _ (List.mem_of_getElem? (i := 34) rfl))) (Or.inl (hw _ (List.mem_of_getElem? (i := 32) rfl))) (by decide) (t := .int) (t' := (.array .int)) (by decide) (by decide)))) (Or.inl (Nat.ne_of_lt (Nat.lt_of_lt_of_le E_a1.lt P6_4)))) (Or.inl (Nat.ne_of_lt (Nat.lt_of_lt_of_le (Exa.keep E_a1 K7).lt P10_2)))) (g := (mkF m 68 #[.val (.ref a1), .val (.int p2), .val (.ref a3)] [(.ref a1), (.ref a1)])) rfl rfl (hb hby d4_68)
  refine OwnR.of (st18) ?_
  show OwnR _ _ _ _ _ _ _ (T18.setTop (mkF m 71 #[.val (.ref a1), .val (.int p2), .val (.ref a3)] [(.int (1 : Int32)), (.ref a1)]))
  refine OwnR.of (fun _ hr => XS.iconst X18.here hx rfl (hb hby d4_71) hr) ?_
  show OwnR _ _ _ _ _ _ _ (T18.setTop (mkF m 72 #[.val (.ref a1), .val (.int p2), .val (.ref a3)] [(.int (1 : Int32)), (.int (1 : Int32)), (.ref a1)]))
  refine OwnR.of (fun _ hr => XS.iadd X18.here hx rfl (hb hby d4_72) rfl hr) ?_
  show OwnR _ _ _ _ _ _ _ (T18.setTop (mkF m 73 #[.val (.ref a1), .val (.int p2), .val (.ref a3)] [(.int ((1 : Int32) + (1 : Int32))), (.ref a1)]))
  rw [(by decide : ((1 : Int32) + (1 : Int32)) = (2 : Int32))]
  show OwnR _ _ _ _ _ _ _ (T18.setTop (mkF m 73 #[.val (.ref a1), .val (.int p2), .val (.ref a3)] [(.int (2 : Int32)), (.ref a1)]))
  obtain ⟨T19, h19, X19, e19, W19, st19⟩ := putF X18 hx hZ hown (host := "") (Or.inl (hw _ (List.mem_of_getElem? (i := 33) rfl))) Via.refl e18 (Fld.other W17 (Fld.other W14 (Fld.other W11 ((Fld.other W7 (F_count_a1.keep P6_0 nin0) (Or.inr (slot_ne (Or.inl (hw _ (List.mem_of_getElem? (i := 34) rfl))) (Or.inl (hw _ (List.mem_of_getElem? (i := 29) rfl))) (by decide) (t := .int) (t' := (.array (.object "java/lang/Object"))) (by decide) (by decide)))).keep P10_0 nin0) (Or.inr (slot_ne (Or.inl (hw _ (List.mem_of_getElem? (i := 34) rfl))) (Or.inl (hw _ (List.mem_of_getElem? (i := 32) rfl))) (by decide) (t := .int) (t' := (.array .int)) (by decide) (by decide)))) (Or.inl (Nat.ne_of_lt (Nat.lt_of_lt_of_le E_a1.lt P6_4)))) (Or.inl (Nat.ne_of_lt (Nat.lt_of_lt_of_le (Exa.keep E_a1 K7).lt P10_2)))) (Exa.keep E_a1 K17) (Or.inl (hw _ (List.mem_of_getElem? (i := 34) rfl))) (hw _ (List.mem_of_getElem? (i := 4) rfl)) (ty := .int) (by decide) rfl rfl (g := (mkF m 73 #[.val (.ref a1), .val (.int p2), .val (.ref a3)] [(.int (2 : Int32)), (.ref a1)])) rfl rfl (hb hby d4_73)
  refine OwnR.of (st19) ?_
  have F19 := Fld.same W19 (Fld.other W17 (Fld.other W14 (Fld.other W11 ((Fld.other W7 (F_count_a1.keep P6_0 nin0) (Or.inr (slot_ne (Or.inl (hw _ (List.mem_of_getElem? (i := 34) rfl))) (Or.inl (hw _ (List.mem_of_getElem? (i := 29) rfl))) (by decide) (t := .int) (t' := (.array (.object "java/lang/Object"))) (by decide) (by decide)))).keep P10_0 nin0) (Or.inr (slot_ne (Or.inl (hw _ (List.mem_of_getElem? (i := 34) rfl))) (Or.inl (hw _ (List.mem_of_getElem? (i := 32) rfl))) (by decide) (t := .int) (t' := (.array .int)) (by decide) (by decide)))) (Or.inl (Nat.ne_of_lt (Nat.lt_of_lt_of_le E_a1.lt P6_4)))) (Or.inl (Nat.ne_of_lt (Nat.lt_of_lt_of_le (Exa.keep E_a1 K7).lt P10_2))))
  have K19 : Keep h0 h19 [a1] := Keep.wr K17 W19 (Or.inl (List.mem_of_getElem? (i := 0) rfl))
  have N19 := Fr.snoc X19 N17 g_a1
  show OwnR _ _ _ _ _ _ _ (T19.setTop (mkF m 76 #[.val (.ref a1), .val (.int p2), .val (.ref a3)] []))
  refine OwnR.of (fun _ hr => XS.aloadN X19.here hx rfl (hb hby d4_76) rfl rfl hr) ?_
  show OwnR _ _ _ _ _ _ _ (T19.setTop (mkF m 77 #[.val (.ref a1), .val (.int p2), .val (.ref a3)] [(.ref a1)]))
  refine OwnR.of (fun _ hr => XS.aloadN X19.here hx rfl (hb hby d4_77) rfl rfl hr) ?_
  show OwnR _ _ _ _ _ _ _ (T19.setTop (mkF m 78 #[.val (.ref a1), .val (.int p2), .val (.ref a3)] [(.ref a1), (.ref a1)]))
  obtain ⟨T20, X20, e20, st20⟩ := getF X19 hx hZ hown (host := "") (Or.inl (hw _ (List.mem_of_getElem? (i := 19) rfl))) Via.refl e19 (Fld.other W19 (Fld.other W17 (Fld.other W14 (Fld.other W11 ((Fld.other W7 (F_pageLength_a1.keep P6_0 nin0) (Or.inr (slot_ne (Or.inr (hw _ (List.mem_of_getElem? (i := 20) rfl))) (Or.inl (hw _ (List.mem_of_getElem? (i := 29) rfl))) (by decide) (t := .int) (t' := (.array (.object "java/lang/Object"))) (by decide) (by decide)))).keep P10_0 nin0) (Or.inr (slot_ne (Or.inr (hw _ (List.mem_of_getElem? (i := 20) rfl))) (Or.inl (hw _ (List.mem_of_getElem? (i := 32) rfl))) (by decide) (t := .int) (t' := (.array .int)) (by decide) (by decide)))) (Or.inl (Nat.ne_of_lt (Nat.lt_of_lt_of_le E_a1.lt P6_4)))) (Or.inl (Nat.ne_of_lt (Nat.lt_of_lt_of_le (Exa.keep E_a1 K7).lt P10_2)))) (Or.inr (slot_ne (Or.inr (hw _ (List.mem_of_getElem? (i := 20) rfl))) (Or.inl (hw _ (List.mem_of_getElem? (i := 34) rfl))) (by decide) (t := .int) (t' := .int) (by decide) (by decide)))) (g := (mkF m 78 #[.val (.ref a1), .val (.int p2), .val (.ref a3)] [(.ref a1), (.ref a1)])) rfl rfl (hb hby d4_78)
  refine OwnR.of (st20) ?_
  show OwnR _ _ _ _ _ _ _ (T20.setTop (mkF m 81 #[.val (.ref a1), .val (.int p2), .val (.ref a3)] [(.int pl), (.ref a1)]))
  obtain ⟨T21, h21, X21, e21, W21, st21⟩ := putF X20 hx hZ hown (host := "") (Or.inl (hw _ (List.mem_of_getElem? (i := 21) rfl))) Via.refl e20 (Fld.other W19 (Fld.other W17 (Fld.other W14 (Fld.other W11 ((Fld.other W7 (F_limit_a1.keep P6_0 nin0) (Or.inr (slot_ne (Or.inl (hw _ (List.mem_of_getElem? (i := 22) rfl))) (Or.inl (hw _ (List.mem_of_getElem? (i := 29) rfl))) (by decide) (t := .int) (t' := (.array (.object "java/lang/Object"))) (by decide) (by decide)))).keep P10_0 nin0) (Or.inr (slot_ne (Or.inl (hw _ (List.mem_of_getElem? (i := 22) rfl))) (Or.inl (hw _ (List.mem_of_getElem? (i := 32) rfl))) (by decide) (t := .int) (t' := (.array .int)) (by decide) (by decide)))) (Or.inl (Nat.ne_of_lt (Nat.lt_of_lt_of_le E_a1.lt P6_4)))) (Or.inl (Nat.ne_of_lt (Nat.lt_of_lt_of_le (Exa.keep E_a1 K7).lt P10_2)))) (Or.inr (slot_ne (Or.inl (hw _ (List.mem_of_getElem? (i := 22) rfl))) (Or.inl (hw _ (List.mem_of_getElem? (i := 34) rfl))) (by decide) (t := .int) (t' := .int) (by decide) (by decide)))) (Exa.keep E_a1 K19) (Or.inl (hw _ (List.mem_of_getElem? (i := 22) rfl))) (hw _ (List.mem_of_getElem? (i := 4) rfl)) (ty := .int) (by decide) rfl rfl (g := (mkF m 81 #[.val (.ref a1), .val (.int p2), .val (.ref a3)] [(.int pl), (.ref a1)])) rfl rfl (hb hby d4_81)
  refine OwnR.of (st21) ?_
  have F21 := Fld.same W21 (Fld.other W19 (Fld.other W17 (Fld.other W14 (Fld.other W11 ((Fld.other W7 (F_limit_a1.keep P6_0 nin0) (Or.inr (slot_ne (Or.inl (hw _ (List.mem_of_getElem? (i := 22) rfl))) (Or.inl (hw _ (List.mem_of_getElem? (i := 29) rfl))) (by decide) (t := .int) (t' := (.array (.object "java/lang/Object"))) (by decide) (by decide)))).keep P10_0 nin0) (Or.inr (slot_ne (Or.inl (hw _ (List.mem_of_getElem? (i := 22) rfl))) (Or.inl (hw _ (List.mem_of_getElem? (i := 32) rfl))) (by decide) (t := .int) (t' := (.array .int)) (by decide) (by decide)))) (Or.inl (Nat.ne_of_lt (Nat.lt_of_lt_of_le E_a1.lt P6_4)))) (Or.inl (Nat.ne_of_lt (Nat.lt_of_lt_of_le (Exa.keep E_a1 K7).lt P10_2)))) (Or.inr (slot_ne (Or.inl (hw _ (List.mem_of_getElem? (i := 22) rfl))) (Or.inl (hw _ (List.mem_of_getElem? (i := 34) rfl))) (by decide) (t := .int) (t' := .int) (by decide) (by decide))))
  have K21 : Keep h0 h21 [a1] := Keep.wr K19 W21 (Or.inl (List.mem_of_getElem? (i := 0) rfl))
  have N21 := Fr.snoc X21 N19 g_a1
  show OwnR _ _ _ _ _ _ _ (T21.setTop (mkF m 84 #[.val (.ref a1), .val (.int p2), .val (.ref a3)] []))
  refine OwnR.of (fun _ hr => XS.aloadN X21.here hx rfl (hb hby d4_84) rfl rfl hr) ?_
  show OwnR _ _ _ _ _ _ _ (T21.setTop (mkF m 85 #[.val (.ref a1), .val (.int p2), .val (.ref a3)] [(.ref a1)]))
  refine OwnR.of (fun _ hr => XS.aloadN X21.here hx rfl (hb hby d4_85) rfl rfl hr) ?_
  show OwnR _ _ _ _ _ _ _ (T21.setTop (mkF m 86 #[.val (.ref a1), .val (.int p2), .val (.ref a3)] [(.ref a3), (.ref a1)]))
  obtain ⟨T22, h22, X22, e22, W22, st22⟩ := putF X21 hx hZ hown (host := "") (Or.inl (hw _ (List.mem_of_getElem? (i := 23) rfl))) Via.refl e21 (Fld.other W21 (Fld.other W19 (Fld.other W17 (Fld.other W14 (Fld.other W11 ((Fld.other W7 (F_last_a1.keep P6_0 nin0) (Or.inr (slot_ne (Or.inl (hw _ (List.mem_of_getElem? (i := 24) rfl))) (Or.inl (hw _ (List.mem_of_getElem? (i := 29) rfl))) (by decide) (t := (.object "java/lang/Object")) (t' := (.array (.object "java/lang/Object"))) (by decide) (by decide)))).keep P10_0 nin0) (Or.inr (slot_ne (Or.inl (hw _ (List.mem_of_getElem? (i := 24) rfl))) (Or.inl (hw _ (List.mem_of_getElem? (i := 32) rfl))) (by decide) (t := (.object "java/lang/Object")) (t' := (.array .int)) (by decide) (by decide)))) (Or.inl (Nat.ne_of_lt (Nat.lt_of_lt_of_le E_a1.lt P6_4)))) (Or.inl (Nat.ne_of_lt (Nat.lt_of_lt_of_le (Exa.keep E_a1 K7).lt P10_2)))) (Or.inr (slot_ne (Or.inl (hw _ (List.mem_of_getElem? (i := 24) rfl))) (Or.inl (hw _ (List.mem_of_getElem? (i := 34) rfl))) (by decide) (t := (.object "java/lang/Object")) (t' := .int) (by decide) (by decide)))) (Or.inr (slot_ne (Or.inl (hw _ (List.mem_of_getElem? (i := 24) rfl))) (Or.inl (hw _ (List.mem_of_getElem? (i := 22) rfl))) (by decide) (t := (.object "java/lang/Object")) (t' := .int) (by decide) (by decide)))) (Exa.keep E_a1 K21) (Or.inl (hw _ (List.mem_of_getElem? (i := 24) rfl))) (hw _ (List.mem_of_getElem? (i := 4) rfl)) (ty := (.object "java/lang/Object")) (by decide) rfl rfl (g := (mkF m 86 #[.val (.ref a1), .val (.int p2), .val (.ref a3)] [(.ref a3), (.ref a1)])) rfl rfl (hb hby d4_86)
  refine OwnR.of (st22) ?_
  have F22 := Fld.same W22 (Fld.other W21 (Fld.other W19 (Fld.other W17 (Fld.other W14 (Fld.other W11 ((Fld.other W7 (F_last_a1.keep P6_0 nin0) (Or.inr (slot_ne (Or.inl (hw _ (List.mem_of_getElem? (i := 24) rfl))) (Or.inl (hw _ (List.mem_of_getElem? (i := 29) rfl))) (by decide) (t := (.object "java/lang/Object")) (t' := (.array (.object "java/lang/Object"))) (by decide) (by decide)))).keep P10_0 nin0) (Or.inr (slot_ne (Or.inl (hw _ (List.mem_of_getElem? (i := 24) rfl))) (Or.inl (hw _ (List.mem_of_getElem? (i := 32) rfl))) (by decide) (t := (.object "java/lang/Object")) (t' := (.array .int)) (by decide) (by decide)))) (Or.inl (Nat.ne_of_lt (Nat.lt_of_lt_of_le E_a1.lt P6_4)))) (Or.inl (Nat.ne_of_lt (Nat.lt_of_lt_of_le (Exa.keep E_a1 K7).lt P10_2)))) (Or.inr (slot_ne (Or.inl (hw _ (List.mem_of_getElem? (i := 24) rfl))) (Or.inl (hw _ (List.mem_of_getElem? (i := 34) rfl))) (by decide) (t := (.object "java/lang/Object")) (t' := .int) (by decide) (by decide)))) (Or.inr (slot_ne (Or.inl (hw _ (List.mem_of_getElem? (i := 24) rfl))) (Or.inl (hw _ (List.mem_of_getElem? (i := 22) rfl))) (by decide) (t := (.object "java/lang/Object")) (t' := .int) (by decide) (by decide))))
  have K22 : Keep h0 h22 [a1] := Keep.wr K21 W22 (Or.inl (List.mem_of_getElem? (i := 0) rfl))
  have N22 := Fr.snoc X22 N21 g_a1
  show OwnR _ _ _ _ _ _ _ (T22.setTop (mkF m 89 #[.val (.ref a1), .val (.int p2), .val (.ref a3)] []))
  refine own_leafV X22 hx hlk Bd.returns (hb hby d4_89) (by decide) (by decide) ?_
  show QT_1 Z a1 p2 a3 pl el0 f0 h0 n0 _ T22.heap _
  rw [show T22.heap = h22 from e22]
  refine ⟨b_6, kb_6, b_10, kb_10, rfl, N22, ⟨K22, (Exa.keep E_a1 K22), (Fld.other W22 (Fld.other W21 (Fld.other W19 (Fld.other W17 (Fld.other W14 (Fld.other W11 ((Fld.other W7 (F_pageLength_a1.keep P6_0 nin0) (Or.inr (slot_ne (Or.inr (hw _ (List.mem_of_getElem? (i := 20) rfl))) (Or.inl (hw _ (List.mem_of_getElem? (i := 29) rfl))) (by decide) (t := .int) (t' := (.array (.object "java/lang/Object"))) (by decide) (by decide)))).keep P10_0 nin0) (Or.inr (slot_ne (Or.inr (hw _ (List.mem_of_getElem? (i := 20) rfl))) (Or.inl (hw _ (List.mem_of_getElem? (i := 32) rfl))) (by decide) (t := .int) (t' := (.array .int)) (by decide) (by decide)))) (Or.inl (Nat.ne_of_lt (Nat.lt_of_lt_of_le E_a1.lt P6_4)))) (Or.inl (Nat.ne_of_lt (Nat.lt_of_lt_of_le (Exa.keep E_a1 K7).lt P10_2)))) (Or.inr (slot_ne (Or.inr (hw _ (List.mem_of_getElem? (i := 20) rfl))) (Or.inl (hw _ (List.mem_of_getElem? (i := 34) rfl))) (by decide) (t := .int) (t' := .int) (by decide) (by decide)))) (Or.inr (slot_ne (Or.inr (hw _ (List.mem_of_getElem? (i := 20) rfl))) (Or.inl (hw _ (List.mem_of_getElem? (i := 22) rfl))) (by decide) (t := .int) (t' := .int) (by decide) (by decide)))) (Or.inr (slot_ne (Or.inr (hw _ (List.mem_of_getElem? (i := 20) rfl))) (Or.inl (hw _ (List.mem_of_getElem? (i := 24) rfl))) (by decide) (t := .int) (t' := (.object "java/lang/Object")) (by decide) (by decide)))), (Fld.other W22 F21 (Or.inr (slot_ne (Or.inl (hw _ (List.mem_of_getElem? (i := 22) rfl))) (Or.inl (hw _ (List.mem_of_getElem? (i := 24) rfl))) (by decide) (t := .int) (t' := (.object "java/lang/Object")) (by decide) (by decide)))), F22, (Fld.other W22 (Fld.other W21 (Fld.other W19 (Fld.other W17 (Fld.other W14 (Fld.other W11 (F7.keep P10_0 nin0) (Or.inr (slot_ne (Or.inl (hw _ (List.mem_of_getElem? (i := 29) rfl))) (Or.inl (hw _ (List.mem_of_getElem? (i := 32) rfl))) (by decide) (t := (.array (.object "java/lang/Object"))) (t' := (.array .int)) (by decide) (by decide)))) (Or.inl (Nat.ne_of_lt (Nat.lt_of_lt_of_le E_a1.lt P6_4)))) (Or.inl (Nat.ne_of_lt (Nat.lt_of_lt_of_le (Exa.keep E_a1 K7).lt P10_2)))) (Or.inr (slot_ne (Or.inl (hw _ (List.mem_of_getElem? (i := 29) rfl))) (Or.inl (hw _ (List.mem_of_getElem? (i := 34) rfl))) (by decide) (t := (.array (.object "java/lang/Object"))) (t' := .int) (by decide) (by decide)))) (Or.inr (slot_ne (Or.inl (hw _ (List.mem_of_getElem? (i := 29) rfl))) (Or.inl (hw _ (List.mem_of_getElem? (i := 22) rfl))) (by decide) (t := (.array (.object "java/lang/Object"))) (t' := .int) (by decide) (by decide)))) (Or.inr (slot_ne (Or.inl (hw _ (List.mem_of_getElem? (i := 29) rfl))) (Or.inl (hw _ (List.mem_of_getElem? (i := 24) rfl))) (by decide) (t := (.array (.object "java/lang/Object"))) (t' := (.object "java/lang/Object")) (by decide) (by decide)))), (Fld.other W22 (Fld.other W21 (Fld.other W19 (Fld.other W17 (Fld.other W14 F11 (Or.inl (Nat.ne_of_lt (Nat.lt_of_lt_of_le E_a1.lt P6_4)))) (Or.inl (Nat.ne_of_lt (Nat.lt_of_lt_of_le (Exa.keep E_a1 K7).lt P10_2)))) (Or.inr (slot_ne (Or.inl (hw _ (List.mem_of_getElem? (i := 32) rfl))) (Or.inl (hw _ (List.mem_of_getElem? (i := 34) rfl))) (by decide) (t := (.array .int)) (t' := .int) (by decide) (by decide)))) (Or.inr (slot_ne (Or.inl (hw _ (List.mem_of_getElem? (i := 32) rfl))) (Or.inl (hw _ (List.mem_of_getElem? (i := 22) rfl))) (by decide) (t := (.array .int)) (t' := .int) (by decide) (by decide)))) (Or.inr (slot_ne (Or.inl (hw _ (List.mem_of_getElem? (i := 32) rfl))) (Or.inl (hw _ (List.mem_of_getElem? (i := 24) rfl))) (by decide) (t := (.array .int)) (t' := (.object "java/lang/Object")) (by decide) (by decide)))), (Fld.other W22 (Fld.other W21 F19 (Or.inr (slot_ne (Or.inl (hw _ (List.mem_of_getElem? (i := 34) rfl))) (Or.inl (hw _ (List.mem_of_getElem? (i := 22) rfl))) (by decide) (t := .int) (t' := .int) (by decide) (by decide)))) (Or.inr (slot_ne (Or.inl (hw _ (List.mem_of_getElem? (i := 34) rfl))) (Or.inl (hw _ (List.mem_of_getElem? (i := 24) rfl))) (by decide) (t := .int) (t' := (.object "java/lang/Object")) (by decide) (by decide)))), (Arv.other (Arv.other (Arv.other (Arv.other V14 W17 (Nat.ne_of_lt (Nat.lt_of_lt_of_le (Exa.wr W7 P6_3).lt P10_2))) W19 (Ne.symm (Nat.ne_of_lt (Nat.lt_of_lt_of_le E_a1.lt P6_4)))) W21 (Ne.symm (Nat.ne_of_lt (Nat.lt_of_lt_of_le E_a1.lt P6_4)))) W22 (Ne.symm (Nat.ne_of_lt (Nat.lt_of_lt_of_le E_a1.lt P6_4)))), P6_2, (Exa.wr W22 (Exa.wr W21 (Exa.wr W19 (Exa.wr W17 (Exa.wr W14 (Exa.wr W11 ((Exa.wr W7 P6_3).keep P10_0))))))), (Arv.other (Arv.other (Arv.other V17 W19 (Ne.symm (Nat.ne_of_lt (Nat.lt_of_lt_of_le (Exa.keep E_a1 K7).lt P10_2)))) W21 (Ne.symm (Nat.ne_of_lt (Nat.lt_of_lt_of_le (Exa.keep E_a1 K7).lt P10_2)))) W22 (Ne.symm (Nat.ne_of_lt (Nat.lt_of_lt_of_le (Exa.keep E_a1 K7).lt P10_2)))), sz_b_6, P6_5, sz_b_10, P10_3⟩⟩
theorem ef_rmC3_2 (m : MethodId) (x0 : Addr) (x2 : Addr) : entryFrame m #[(.ref x0), (.int (4 : Int32)), (.ref x2)] 4 = mkF m 0 #[.val (.ref x0), .val (.int (4 : Int32)), .val (.ref x2), .unset] [] := by first | (simp [entryFrame, mkF, argsToLocals, Value.category]; done) | rfl
def QC3_2 (Z : State) (el0 : Addr) (el1 : Addr) (h0 : Heap) (n0 : Nat) (v : Option Value) (h : Heap) (L : List Loc) : Prop := ∃ (b : Addr) (kb : ClassId), v = some (.ref b) ∧ Fr n0 L ∧ Keep h0 h [] ∧ Arv Z h b kb (.object "java/lang/Object") (4 : Int32) [(.ref el0), (.ref el1), .null, .null] .null ∧ Ovr Z kb "java/lang/Object" ∧ Exa Z h b "[Ljava/lang/Object;" ∧ h0.size ≤ b ∧ n0 ≤ b
set_option maxRecDepth 65536 in
set_option maxHeartbeats 40000000 in
theorem rmC3_2 (l : Launch) (Z : State) (a0 : Array Value) (hw : ∀ d ∈ tables_1, d.before a0 Z = true) (ws : List Jvm.Cond) (a1 : Addr) (mo : Addr) (k1 : ClassId) (el0 el1 : Addr) (h0 : Heap) (n0 : Nat) (Z0 : n0 ≤ h0.size) (V_a1 : Arv Z h0 a1 k1 (.object "java/lang/Object") (2 : Int32) [(.ref el0), (.ref el1)] .null) (E_a1 : Exa Z h0 a1 "[Ljava/lang/Object;") (E_el0 : Exa Z h0 el0 "java/lang/Integer") (E_el1 : Exa Z h0 el1 "java/lang/Integer") (M_mo : OwnMir Z "[Ljava/lang/Object;" mo) :
    MetFree l (⟨"java/util/Arrays", "copyOf", "([Ljava/lang/Object;ILjava/lang/Class;)[Ljava/lang/Object;"⟩ : MethodName) (head1 (Jvm.Cond.code (⟨"java/util/Arrays", "copyOf", "([Ljava/lang/Object;ILjava/lang/Class;)[Ljava/lang/Object;"⟩ : MethodName) jdk_65_method_120_code 4 (some (.array (.object "java/lang/Object"))) :: ws) ({ frames := 1, cells := 1, slots := 4, locals := 48 } : Room)) (fun a U => a = #[(.ref a1), (.int (4 : Int32)), (.ref mo)] ∧ Z.Warmed39 U.vm ∧ U.heap = h0) (fun _ _ _ _ _ => True) (fun _ U o U' => ∃ v L, o = .returned v ∧ QC3_2 Z el0 el1 h0 n0 v U'.heap L ∧ FrameEnd U o U' L ({ frames := 1, cells := 1, slots := 4, locals := 48 } : Room).cells ({ frames := 1, cells := 1, slots := 4, locals := 48 } : Room).slots) := by
  refine MetFree.of_bodySF (plainFor_of_name pn_java_util_Arrays) hisR ?_
  intro p e s m args below meth c s₁ Bd hml0 hP hK
  obtain ⟨rfl, hZ, hh⟩ := hP
  have hx := Bd.exec
  have hby := Bd.bytes
  have hlk := BodyLoose.notSynchronized Bd
  have hml : c.maxLocals = 4 := hml0
  have hown : s.vm.findClass "java/util/Arrays" = some m.cls := findClass_of_methodNamed Bd.named
  have hnm := (name_of_methodNamed Bd.named Bd.method).1
  have X0 : Stand p l e ({ frames := 1, cells := 1, slots := 4, locals := 48 } : Room) s m #[(.ref a1), (.int (4 : Int32)), (.ref mo)] below meth c s₁ [] 0 0 := Stand.of_body Bd
  have e0 : s₁.heap = h0 := by rw [← hh, Bd.state]; rfl
  have N0 := Fr.nil n0
  refine OwnR.of (s := s) (Q := QC3_2 Z el0 el1 h0 n0) (fun t k => castTop (ef_rmC3_2 m a1 mo) k) ?_
  show OwnR _ _ _ _ _ _ _ (s₁.setTop (mkF m 0 #[.val (.ref a1), .val (.int (4 : Int32)), .val (.ref mo), .unset] []))
  refine OwnR.of (fun _ hr => XS.aloadN X0.here hx rfl (hb hby d6_0) rfl rfl hr) ?_
  show OwnR _ _ _ _ _ _ _ (s₁.setTop (mkF m 1 #[.val (.ref a1), .val (.int (4 : Int32)), .val (.ref mo), .unset] [(.ref mo)]))
  obtain ⟨T1, X1, e1, st1⟩ := own_ldcM X0 hx hZ hown (hw _ (List.mem_of_getElem? (i := 53) rfl)) e0 M_mo (g := (mkF m 1 #[.val (.ref a1), .val (.int (4 : Int32)), .val (.ref mo), .unset] [(.ref mo)])) rfl (hb hby d6_1)
  refine OwnR.of (st1) ?_
  show OwnR _ _ _ _ _ _ _ (T1.setTop (mkF m 3 #[.val (.ref a1), .val (.int (4 : Int32)), .val (.ref mo), .unset] [(.ref mo), (.ref mo)]))
  refine OwnR.of (fun _ hr => Jvm.RoadKit.acmp (g := (mkF m 3 #[.val (.ref a1), .val (.int (4 : Int32)), .val (.ref mo), .unset] [(.ref mo), (.ref mo)])) X1 hx rfl rfl rfl (pc0 := 3) (pc' := 6) (same := true) rfl (hb hby d6_3) rfl (decide_eq_true rfl) (by decide) (by decide) hr) ?_
  show OwnR _ _ _ _ _ _ _ (T1.setTop (mkF m 6 #[.val (.ref a1), .val (.int (4 : Int32)), .val (.ref mo), .unset] []))
  refine OwnR.of (fun _ hr => XS.iloadN X1.here hx rfl (hb hby d6_6) rfl hr) ?_
  show OwnR _ _ _ _ _ _ _ (T1.setTop (mkF m 7 #[.val (.ref a1), .val (.int (4 : Int32)), .val (.ref mo), .unset] [(.int (4 : Int32))]))
  obtain ⟨T2, h2, k2, X2, e2, E2, A2, AE2, O2, st2⟩ := newRE X1 hx hZ hown (hw _ (List.mem_of_getElem? (i := 54) rfl)) (hw _ (List.mem_of_getElem? (i := 26) rfl)) e1 (g := (mkF m 7 #[.val (.ref a1), .val (.int (4 : Int32)), .val (.ref mo), .unset] [(.int (4 : Int32))])) rfl (hb hby d6_7) rfl (by decide) (cap := 4) (by decide) (by decide) (by decide) (by decide) (ad := "[Ljava/lang/Object;") rfl
  obtain ⟨b2, g2⟩ : ∃ z, z = h0.size := ⟨_, rfl⟩
  rw [← g2] at A2 AE2 st2
  refine OwnR.of (st2) ?_
  have gn_b2 : n0 ≤ b2 := Nat.le_trans (Nat.le_trans Z0 (Keep.refl h0 []).1) (Nat.le_of_eq g2.symm)
  have sz_b2 : h0.size ≤ b2 := Nat.le_trans (Keep.refl h0 []).1 (Nat.le_of_eq g2.symm)
  have K2 : Keep h0 h2 [] := Keep.ext (Keep.refl h0 []) E2
  have V2 : Arv Z h2 b2 k2 (.object "java/lang/Object") (4 : Int32) [.null, .null, .null, .null] .null := (Arv.new A2 (by decide)).pad (pad_rep [] .null 4)
  show OwnR _ _ _ _ _ _ _ (T2.setTop (mkF m 10 #[.val (.ref a1), .val (.int (4 : Int32)), .val (.ref mo), .unset] [(.ref b2)]))
  refine OwnR.of (fun _ hr => XS.goto X2.here hx rfl (pc0 := 10) (pc' := 24) rfl (hb hby d6_10) (by decide) (by decide) hr) ?_
  show OwnR _ _ _ _ _ _ _ (T2.setTop (mkF m 24 #[.val (.ref a1), .val (.int (4 : Int32)), .val (.ref mo), .unset] [(.ref b2)]))
  refine OwnR.of (fun _ hr => XS.astoreN X2.here hx rfl (hb hby d6_24) rfl rfl (l' := #[.val (.ref a1), .val (.int (4 : Int32)), .val (.ref mo), .val (.ref b2)]) rfl hr) ?_
  show OwnR _ _ _ _ _ _ _ (T2.setTop (mkF m 25 #[.val (.ref a1), .val (.int (4 : Int32)), .val (.ref mo), .val (.ref b2)] []))
  refine OwnR.of (fun _ hr => XS.aloadN X2.here hx rfl (hb hby d6_25) rfl rfl hr) ?_
  show OwnR _ _ _ _ _ _ _ (T2.setTop (mkF m 26 #[.val (.ref a1), .val (.int (4 : Int32)), .val (.ref mo), .val (.ref b2)] [(.ref a1)]))
  refine OwnR.of (fun _ hr => XS.iconst X2.here hx rfl (hb hby d6_26) hr) ?_
  show OwnR _ _ _ _ _ _ _ (T2.setTop (mkF m 27 #[.val (.ref a1), .val (.int (4 : Int32)), .val (.ref mo), .val (.ref b2)] [(.int (0 : Int32)), (.ref a1)]))
  refine OwnR.of (fun _ hr => XS.aloadN X2.here hx rfl (hb hby d6_27) rfl rfl hr) ?_
  show OwnR _ _ _ _ _ _ _ (T2.setTop (mkF m 28 #[.val (.ref a1), .val (.int (4 : Int32)), .val (.ref mo), .val (.ref b2)] [(.ref b2), (.int (0 : Int32)), (.ref a1)]))
  refine OwnR.of (fun _ hr => XS.iconst X2.here hx rfl (hb hby d6_28) hr) ?_
  show OwnR _ _ _ _ _ _ _ (T2.setTop (mkF m 29 #[.val (.ref a1), .val (.int (4 : Int32)), .val (.ref mo), .val (.ref b2)] [(.int (0 : Int32)), (.ref b2), (.int (0 : Int32)), (.ref a1)]))
  refine OwnR.of (fun _ hr => XS.aloadN X2.here hx rfl (hb hby d6_29) rfl rfl hr) ?_
  show OwnR _ _ _ _ _ _ _ (T2.setTop (mkF m 30 #[.val (.ref a1), .val (.int (4 : Int32)), .val (.ref mo), .val (.ref b2)] [(.ref a1), (.int (0 : Int32)), (.ref b2), (.int (0 : Int32)), (.ref a1)]))
  obtain ⟨cl3, Ar3, -, S3, N3, -, -⟩ := id (Arv.keep V_a1 K2 nin0)
  refine OwnR.of (X2.arraylength hx (by rw [e2]; exact Ar3.1) (State.isArrayOf_alike hZ.alike Ar3.2.1) (g := (mkF m 30 #[.val (.ref a1), .val (.int (4 : Int32)), .val (.ref mo), .val (.ref b2)] [(.ref a1), (.int (0 : Int32)), (.ref b2), (.int (0 : Int32)), (.ref a1)])) rfl rfl (hb hby d6_30)) ?_
  show OwnR _ _ _ _ _ _ _ (T2.setTop (mkF m 31 #[.val (.ref a1), .val (.int (4 : Int32)), .val (.ref mo), .val (.ref b2)] [(.int cl3.slots.size.toInt32), (.int (0 : Int32)), (.ref b2), (.int (0 : Int32)), (.ref a1)]))
  rw [len_of S3 N3]
  show OwnR _ _ _ _ _ _ _ (T2.setTop (mkF m 31 #[.val (.ref a1), .val (.int (4 : Int32)), .val (.ref mo), .val (.ref b2)] [(.int (2 : Int32)), (.int (0 : Int32)), (.ref b2), (.int (0 : Int32)), (.ref a1)]))
  refine OwnR.of (fun _ hr => XS.iloadN X2.here hx rfl (hb hby d6_31) rfl hr) ?_
  show OwnR _ _ _ _ _ _ _ (T2.setTop (mkF m 32 #[.val (.ref a1), .val (.int (4 : Int32)), .val (.ref mo), .val (.ref b2)] [(.int (4 : Int32)), (.int (2 : Int32)), (.int (0 : Int32)), (.ref b2), (.int (0 : Int32)), (.ref a1)]))
  obtain ⟨_, _, ⟨T4, L4, kc4, ns4⟩, -, X4, ⟨Lc4, hQ4, l4, y4, z4⟩, st4⟩ := Jvm.LawKit.callS X2 hx (y := (⟨"java/lang/Math", "min", "(II)I"⟩ : MethodName)) hown (mvT hZ (hw _ (List.mem_of_getElem? (i := 55) rfl))) (mvT hZ (hw _ (List.mem_of_getElem? (i := 56) rfl))) (mvT hZ (hw _ (List.mem_of_getElem? (i := 57) rfl))) (mvT hZ (hw _ (List.mem_of_getElem? (i := 58) rfl))) (by decide) (backOf (W := 4) (rmMin l Z a0 hw [] (2 : Int32) (4 : Int32) h2 n0 (Nat.le_trans Z0 K2.1) ) hZ (hw _ (List.mem_of_getElem? (i := 58) rfl)) (hw _ (List.mem_of_getElem? (i := 57) rfl)) (by decide) (by decide)) (g := (mkF m 32 #[.val (.ref a1), .val (.int (4 : Int32)), .val (.ref mo), .val (.ref b2)] [(.int (4 : Int32)), (.int (2 : Int32)), (.int (0 : Int32)), (.ref b2), (.int (0 : Int32)), (.ref a1)])) rfl (by rw [hml]; rfl) (argsL := [(.int (2 : Int32)), (.int (4 : Int32))]) (rest := [(.int (0 : Int32)), (.ref b2), (.int (0 : Int32)), (.ref a1)]) (lenOf pd__II_I rfl) rfl (by show 2 * 0 + _ ≤ _; exact Nat.le_of_eq rfl) (hb hby d6_32) (fun _ _ => ⟨rfl, e2, (by decide : 1 + 0 ≤ _), (by decide : 4 + 0 ≤ _)⟩)
  dsimp only [Pt.U, Pt.locs, Pt.cells, Pt.slots] at X4 l4 y4 z4 st4 hQ4
  subst l4 y4 z4
  obtain ⟨rfl, N4q, e4⟩ := hQ4
  have N4 := Fr.app N0 N4q
  refine OwnR.of (st4) ?_
  show OwnR _ _ _ _ _ _ _ (T4.setTop (mkF m 35 #[.val (.ref a1), .val (.int (4 : Int32)), .val (.ref mo), .val (.ref b2)] [(.int (own_imin (2 : Int32) (4 : Int32))), (.int (0 : Int32)), (.ref b2), (.int (0 : Int32)), (.ref a1)]))
  rw [(by decide : (own_imin (2 : Int32) (4 : Int32)) = (2 : Int32))]
  show OwnR _ _ _ _ _ _ _ (T4.setTop (mkF m 35 #[.val (.ref a1), .val (.int (4 : Int32)), .val (.ref mo), .val (.ref b2)] [(.int (2 : Int32)), (.int (0 : Int32)), (.ref b2), (.int (0 : Int32)), (.ref a1)]))
  obtain ⟨cd5, Ard5, qd5, -⟩ := id V2
  obtain ⟨T5, h5, L5, X5, e5, N5, Kp5, V5, st5⟩ := cpA X4 hx hZ hown (hw _ (List.mem_of_getElem? (i := 59) rfl)) (hw _ (List.mem_of_getElem? (i := 62) rfl)) (hw _ (List.mem_of_getElem? (i := 60) rfl)) (hw _ (List.mem_of_getElem? (i := 61) rfl)) e4 (Arv.keep V_a1 K2 nin0) V2 (Or.inr ⟨rfl, rfl, ⟨Sto.ofV Ard5 qd5 O2 (Ins.of_exa (Exa.keep E_el0 K2) (hw _ (List.mem_of_getElem? (i := 27) rfl))), Sto.ofV Ard5 qd5 O2 (Ins.of_exa (Exa.keep E_el1 K2) (hw _ (List.mem_of_getElem? (i := 27) rfl))), trivial⟩⟩) (us := [(.ref el0), (.ref el1)]) (by decide) (by decide) (by decide) (by decide) (by decide) rfl (by decide) N4 gn_b2 (g := (mkF m 35 #[.val (.ref a1), .val (.int (4 : Int32)), .val (.ref mo), .val (.ref b2)] [(.int (2 : Int32)), (.int (0 : Int32)), (.ref b2), (.int (0 : Int32)), (.ref a1)])) rfl (by rw [hml]; rfl) rfl (hb hby d6_35) (by decide) (W := 0) (by show 2 * 0 + _ ≤ _; exact Nat.le_of_eq rfl) (by decide)
  refine OwnR.of (st5) ?_
  have K5 : Keep h0 h5 [] := Keep.trans K2 Kp5 (allS (Or.inr sz_b2) all0)
  have V5 : Arv Z h5 b2 k2 (.object "java/lang/Object") (4 : Int32) [(.ref el0), (.ref el1), .null, .null] .null := V5
  show OwnR _ _ _ _ _ _ _ (T5.setTop (mkF m 38 #[.val (.ref a1), .val (.int (4 : Int32)), .val (.ref mo), .val (.ref b2)] []))
  refine OwnR.of (fun _ hr => XS.aloadN X5.here hx rfl (hb hby d6_38) rfl rfl hr) ?_
  show OwnR _ _ _ _ _ _ _ (T5.setTop (mkF m 39 #[.val (.ref a1), .val (.int (4 : Int32)), .val (.ref mo), .val (.ref b2)] [(.ref b2)]))
  refine own_leafA X5 hx hlk Bd.returns rfl rfl (hb hby d6_39) (by decide) (by decide) ?_
  show QC3_2 Z el0 el1 h0 n0 _ T5.heap _
  rw [show T5.heap = h5 from e5]
  refine ⟨b2, k2, ?_, N5, ⟨K5, V5, O2, (AE2.keep Kp5), sz_b2, gn_b2⟩⟩
  show (some (.ref b2) : Option Value) = some (.ref b2)
  rfl
theorem ef_rmC2_2 (m : MethodId) (x0 : Addr) : entryFrame m #[(.ref x0), (.int (4 : Int32))] 2 = mkF m 0 #[.val (.ref x0), .val (.int (4 : Int32))] [] := by first | (simp [entryFrame, mkF, argsToLocals, Value.category]; done) | rfl
def QC2_2 (Z : State) (el0 : Addr) (el1 : Addr) (h0 : Heap) (n0 : Nat) (v : Option Value) (h : Heap) (L : List Loc) : Prop := ∃ (b : Addr) (kb : ClassId), v = some (.ref b) ∧ Fr n0 L ∧ Keep h0 h [] ∧ Arv Z h b kb (.object "java/lang/Object") (4 : Int32) [(.ref el0), (.ref el1), .null, .null] .null ∧ Ovr Z kb "java/lang/Object" ∧ Exa Z h b "[Ljava/lang/Object;" ∧ h0.size ≤ b ∧ n0 ≤ b
set_option maxRecDepth 65536 in
set_option maxHeartbeats 40000000 in
theorem rmC2_2 (l : Launch) (Z : State) (a0 : Array Value) (hw : ∀ d ∈ tables_1, d.before a0 Z = true) (ws : List Jvm.Cond) (a1 : Addr) (k1 : ClassId) (el0 el1 : Addr) (mo : Addr) (h0 : Heap) (n0 : Nat) (Z0 : n0 ≤ h0.size) (V_a1 : Arv Z h0 a1 k1 (.object "java/lang/Object") (2 : Int32) [(.ref el0), (.ref el1)] .null) (E_a1 : Exa Z h0 a1 "[Ljava/lang/Object;") (E_el0 : Exa Z h0 el0 "java/lang/Integer") (E_el1 : Exa Z h0 el1 "java/lang/Integer") (M_mo : OwnMir Z "[Ljava/lang/Object;" mo) :
    MetFree l (⟨"java/util/Arrays", "copyOf", "([Ljava/lang/Object;I)[Ljava/lang/Object;"⟩ : MethodName) (head1 (Jvm.Cond.code (⟨"java/util/Arrays", "copyOf", "([Ljava/lang/Object;I)[Ljava/lang/Object;"⟩ : MethodName) jdk_65_method_119_code 2 (some (.array (.object "java/lang/Object"))) :: ws) ({ frames := 2, cells := 1, slots := 4, locals := 64 } : Room)) (fun a U => a = #[(.ref a1), (.int (4 : Int32))] ∧ Z.Warmed39 U.vm ∧ U.heap = h0) (fun _ _ _ _ _ => True) (fun _ U o U' => ∃ v L, o = .returned v ∧ QC2_2 Z el0 el1 h0 n0 v U'.heap L ∧ FrameEnd U o U' L ({ frames := 2, cells := 1, slots := 4, locals := 64 } : Room).cells ({ frames := 2, cells := 1, slots := 4, locals := 64 } : Room).slots) := by
  refine MetFree.of_bodySF (plainFor_of_name pn_java_util_Arrays) hisR ?_
  intro p e s m args below meth c s₁ Bd hml0 hP hK
  obtain ⟨rfl, hZ, hh⟩ := hP
  have hx := Bd.exec
  have hby := Bd.bytes
  have hlk := BodyLoose.notSynchronized Bd
  have hml : c.maxLocals = 2 := hml0
  have hown : s.vm.findClass "java/util/Arrays" = some m.cls := findClass_of_methodNamed Bd.named
  have hnm := (name_of_methodNamed Bd.named Bd.method).1
  have X0 : Stand p l e ({ frames := 2, cells := 1, slots := 4, locals := 64 } : Room) s m #[(.ref a1), (.int (4 : Int32))] below meth c s₁ [] 0 0 := Stand.of_body Bd
  have e0 : s₁.heap = h0 := by rw [← hh, Bd.state]; rfl
  have N0 := Fr.nil n0
  refine OwnR.of (s := s) (Q := QC2_2 Z el0 el1 h0 n0) (fun t k => castTop (ef_rmC2_2 m a1) k) ?_
  show OwnR _ _ _ _ _ _ _ (s₁.setTop (mkF m 0 #[.val (.ref a1), .val (.int (4 : Int32))] []))
  refine OwnR.of (fun _ hr => XS.aloadN X0.here hx rfl (hb hby d5_0) rfl rfl hr) ?_
  show OwnR _ _ _ _ _ _ _ (s₁.setTop (mkF m 1 #[.val (.ref a1), .val (.int (4 : Int32))] [(.ref a1)]))
  refine OwnR.of (fun _ hr => XS.iloadN X0.here hx rfl (hb hby d5_1) rfl hr) ?_
  show OwnR _ _ _ _ _ _ _ (s₁.setTop (mkF m 2 #[.val (.ref a1), .val (.int (4 : Int32))] [(.int (4 : Int32)), (.ref a1)]))
  refine OwnR.of (fun _ hr => XS.aloadN X0.here hx rfl (hb hby d5_2) rfl rfl hr) ?_
  show OwnR _ _ _ _ _ _ _ (s₁.setTop (mkF m 3 #[.val (.ref a1), .val (.int (4 : Int32))] [(.ref a1), (.int (4 : Int32)), (.ref a1)]))
  obtain ⟨T1, X1, e1, st1⟩ := own_gcls X0 hx hZ hown (hw _ (List.mem_of_getElem? (i := 44) rfl)) (hw _ (List.mem_of_getElem? (i := 45) rfl)) (hw _ (List.mem_of_getElem? (i := 47) rfl)) (hw _ (List.mem_of_getElem? (i := 46) rfl)) (hw _ (List.mem_of_getElem? (i := 48) rfl)) e0 E_a1 M_mo (g := (mkF m 3 #[.val (.ref a1), .val (.int (4 : Int32))] [(.ref a1), (.int (4 : Int32)), (.ref a1)])) rfl (by rw [hml]; rfl) rfl (hb hby d5_3) (by decide) (W := 2) (by show 2 * 0 + _ ≤ _; exact Nat.le_of_eq rfl) (by decide)
  refine OwnR.of (st1) ?_
  show OwnR _ _ _ _ _ _ _ (T1.setTop (mkF m 6 #[.val (.ref a1), .val (.int (4 : Int32))] [(.ref mo), (.int (4 : Int32)), (.ref a1)]))
  obtain ⟨_, _, ⟨T2, L2, kc2, ns2⟩, -, X2, ⟨Lc2, hQ2, l2, y2, z2⟩, st2⟩ := Jvm.LawKit.callS X1 hx (y := (⟨"java/util/Arrays", "copyOf", "([Ljava/lang/Object;ILjava/lang/Class;)[Ljava/lang/Object;"⟩ : MethodName)) hown (mvT hZ (hw _ (List.mem_of_getElem? (i := 50) rfl))) (mvT hZ (hw _ (List.mem_of_getElem? (i := 51) rfl))) (mvT hZ (hw _ (List.mem_of_getElem? (i := 42) rfl))) (mvT hZ (hw _ (List.mem_of_getElem? (i := 52) rfl))) (by decide) (backOf (W := 0) (rmC3_2 l Z a0 hw [] a1 mo k1 el0 el1 h0 n0 (Nat.le_trans Z0 (Keep.refl h0 []).1) V_a1 E_a1 E_el0 E_el1 M_mo) hZ (hw _ (List.mem_of_getElem? (i := 52) rfl)) (hw _ (List.mem_of_getElem? (i := 42) rfl)) (by decide) (by decide)) (g := (mkF m 6 #[.val (.ref a1), .val (.int (4 : Int32))] [(.ref mo), (.int (4 : Int32)), (.ref a1)])) rfl (by rw [hml]; rfl) (argsL := [(.ref a1), (.int (4 : Int32)), (.ref mo)]) (rest := []) (lenOf pd___Ljava_lang_Object_ILjava_lang_Class___Ljava_lang_Object_ rfl) rfl (by show 2 * 0 + _ ≤ _; exact Nat.le_of_eq rfl) (hb hby d5_6) (fun _ _ => ⟨rfl, e1, (by decide : 0 + 1 ≤ _), (by decide : 0 + 4 ≤ _)⟩)
  dsimp only [Pt.U, Pt.locs, Pt.cells, Pt.slots] at X2 l2 y2 z2 st2 hQ2
  subst l2 y2 z2
  obtain ⟨b_2, kb_2, rfl, N2q, P2_0, P2_1, P2_2, P2_3, P2_4, P2_5⟩ := hQ2
  have K2 : Keep h0 T2.heap [] := Keep.trans (Keep.refl h0 []) P2_0 all0
  have sz_b_2 : h0.size ≤ b_2 := Nat.le_trans (Keep.refl h0 []).1 P2_4
  have N2 := Fr.app N0 N2q
  refine OwnR.of (st2) ?_
  show OwnR _ _ _ _ _ _ _ (T2.setTop (mkF m 9 #[.val (.ref a1), .val (.int (4 : Int32))] [(.ref b_2)]))
  refine own_leafA X2 hx hlk Bd.returns rfl rfl (hb hby d5_9) (by decide) (by decide) ?_
  show QC2_2 Z el0 el1 h0 n0 _ T2.heap _
  skip
  refine ⟨b_2, kb_2, ?_, N2, ⟨K2, P2_1, P2_2, P2_3, sz_b_2, P2_5⟩⟩
  show (some (.ref b_2) : Option Value) = some (.ref b_2)
  rfl
theorem ef_rmCI_2 (m : MethodId) (x0 : Addr) : entryFrame m #[(.ref x0), (.int (4 : Int32))] 3 = mkF m 0 #[.val (.ref x0), .val (.int (4 : Int32)), .unset] [] := by first | (simp [entryFrame, mkF, argsToLocals, Value.category]; done) | rfl
def QCI_2 (Z : State) (f0 : Int32) (f1 : Int32) (h0 : Heap) (n0 : Nat) (v : Option Value) (h : Heap) (L : List Loc) : Prop := ∃ (b : Addr) (kb : ClassId), v = some (.ref b) ∧ Fr n0 L ∧ Keep h0 h [] ∧ Arv Z h b kb .int (4 : Int32) [(.int f0), (.int f1), (.int (0 : Int32)), (.int (0 : Int32))] (.int (0 : Int32)) ∧ h0.size ≤ b ∧ n0 ≤ b
set_option maxRecDepth 65536 in
set_option maxHeartbeats 40000000 in
theorem rmCI_2 (l : Launch) (Z : State) (a0 : Array Value) (hw : ∀ d ∈ tables_1, d.before a0 Z = true) (ws : List Jvm.Cond) (a1 : Addr) (k1 : ClassId) (f0 f1 : Int32) (h0 : Heap) (n0 : Nat) (Z0 : n0 ≤ h0.size) (V_a1 : Arv Z h0 a1 k1 .int (2 : Int32) [(.int f0), (.int f1)] (.int (0 : Int32))) :
    MetFree l (⟨"java/util/Arrays", "copyOf", "([II)[I"⟩ : MethodName) (head1 (Jvm.Cond.code (⟨"java/util/Arrays", "copyOf", "([II)[I"⟩ : MethodName) jdk_65_method_123_code 3 (some (.array .int)) :: ws) ({ frames := 1, cells := 1, slots := 4, locals := 48 } : Room)) (fun a U => a = #[(.ref a1), (.int (4 : Int32))] ∧ Z.Warmed39 U.vm ∧ U.heap = h0) (fun _ _ _ _ _ => True) (fun _ U o U' => ∃ v L, o = .returned v ∧ QCI_2 Z f0 f1 h0 n0 v U'.heap L ∧ FrameEnd U o U' L ({ frames := 1, cells := 1, slots := 4, locals := 48 } : Room).cells ({ frames := 1, cells := 1, slots := 4, locals := 48 } : Room).slots) := by
  refine MetFree.of_bodySF (plainFor_of_name pn_java_util_Arrays) hisR ?_
  intro p e s m args below meth c s₁ Bd hml0 hP hK
  obtain ⟨rfl, hZ, hh⟩ := hP
  have hx := Bd.exec
  have hby := Bd.bytes
  have hlk := BodyLoose.notSynchronized Bd
  have hml : c.maxLocals = 3 := hml0
  have hown : s.vm.findClass "java/util/Arrays" = some m.cls := findClass_of_methodNamed Bd.named
  have hnm := (name_of_methodNamed Bd.named Bd.method).1
  have X0 : Stand p l e ({ frames := 1, cells := 1, slots := 4, locals := 48 } : Room) s m #[(.ref a1), (.int (4 : Int32))] below meth c s₁ [] 0 0 := Stand.of_body Bd
  have e0 : s₁.heap = h0 := by rw [← hh, Bd.state]; rfl
  have N0 := Fr.nil n0
  refine OwnR.of (s := s) (Q := QCI_2 Z f0 f1 h0 n0) (fun t k => castTop (ef_rmCI_2 m a1) k) ?_
  show OwnR _ _ _ _ _ _ _ (s₁.setTop (mkF m 0 #[.val (.ref a1), .val (.int (4 : Int32)), .unset] []))
  refine OwnR.of (fun _ hr => XS.iloadN X0.here hx rfl (hb hby d8_0) rfl hr) ?_
  show OwnR _ _ _ _ _ _ _ (s₁.setTop (mkF m 1 #[.val (.ref a1), .val (.int (4 : Int32)), .unset] [(.int (4 : Int32))]))
  refine OwnR.of (fun _ hr => XS.aloadN X0.here hx rfl (hb hby d8_1) rfl rfl hr) ?_
  show OwnR _ _ _ _ _ _ _ (s₁.setTop (mkF m 2 #[.val (.ref a1), .val (.int (4 : Int32)), .unset] [(.ref a1), (.int (4 : Int32))]))
  obtain ⟨cl1, Ar1, -, S1, N1, -, -⟩ := id V_a1
  refine OwnR.of (X0.arraylength hx (by rw [e0]; exact Ar1.1) (State.isArrayOf_alike hZ.alike Ar1.2.1) (g := (mkF m 2 #[.val (.ref a1), .val (.int (4 : Int32)), .unset] [(.ref a1), (.int (4 : Int32))])) rfl rfl (hb hby d8_2)) ?_
  show OwnR _ _ _ _ _ _ _ (s₁.setTop (mkF m 3 #[.val (.ref a1), .val (.int (4 : Int32)), .unset] [(.int cl1.slots.size.toInt32), (.int (4 : Int32))]))
  rw [len_of S1 N1]
  show OwnR _ _ _ _ _ _ _ (s₁.setTop (mkF m 3 #[.val (.ref a1), .val (.int (4 : Int32)), .unset] [(.int (2 : Int32)), (.int (4 : Int32))]))
  refine OwnR.of (fun _ hr => XS.icmpYes X0.here hx rfl (pc0 := 3) (pc' := 14) rfl (hb hby d8_3) rfl (feq (by decide : ¬ ((4 : Int32) = (2 : Int32)))).2 (by decide) (by decide) hr) ?_
  show OwnR _ _ _ _ _ _ _ (s₁.setTop (mkF m 14 #[.val (.ref a1), .val (.int (4 : Int32)), .unset] []))
  refine OwnR.of (fun _ hr => XS.iloadN X0.here hx rfl (hb hby d8_14) rfl hr) ?_
  show OwnR _ _ _ _ _ _ _ (s₁.setTop (mkF m 15 #[.val (.ref a1), .val (.int (4 : Int32)), .unset] [(.int (4 : Int32))]))
  obtain ⟨T2, h2, k2, X2, e2, E2, A2, AE2, st2⟩ := newPE X0 hx hZ (hw _ (List.mem_of_getElem? (i := 30) rfl)) e0 (g := (mkF m 15 #[.val (.ref a1), .val (.int (4 : Int32)), .unset] [(.int (4 : Int32))])) rfl (hb hby d8_15) rfl (by decide) (cap := 4) (by decide) (by decide) (by decide) (by decide) (ad := "[I") rfl
  obtain ⟨b2, g2⟩ : ∃ z, z = h0.size := ⟨_, rfl⟩
  rw [← g2] at A2 AE2 st2
  refine OwnR.of (st2) ?_
  have gn_b2 : n0 ≤ b2 := Nat.le_trans (Nat.le_trans Z0 (Keep.refl h0 []).1) (Nat.le_of_eq g2.symm)
  have sz_b2 : h0.size ≤ b2 := Nat.le_trans (Keep.refl h0 []).1 (Nat.le_of_eq g2.symm)
  have K2 : Keep h0 h2 [] := Keep.ext (Keep.refl h0 []) E2
  have V2 : Arv Z h2 b2 k2 .int (4 : Int32) [(.int (0 : Int32)), (.int (0 : Int32)), (.int (0 : Int32)), (.int (0 : Int32))] (.int (0 : Int32)) := (Arv.new A2 (by decide)).pad (pad_rep [] (.int (0 : Int32)) 4)
  show OwnR _ _ _ _ _ _ _ (T2.setTop (mkF m 17 #[.val (.ref a1), .val (.int (4 : Int32)), .unset] [(.ref b2)]))
  refine OwnR.of (fun _ hr => XS.astoreN X2.here hx rfl (hb hby d8_17) rfl rfl (l' := #[.val (.ref a1), .val (.int (4 : Int32)), .val (.ref b2)]) rfl hr) ?_
  show OwnR _ _ _ _ _ _ _ (T2.setTop (mkF m 18 #[.val (.ref a1), .val (.int (4 : Int32)), .val (.ref b2)] []))
  refine OwnR.of (fun _ hr => XS.aloadN X2.here hx rfl (hb hby d8_18) rfl rfl hr) ?_
  show OwnR _ _ _ _ _ _ _ (T2.setTop (mkF m 19 #[.val (.ref a1), .val (.int (4 : Int32)), .val (.ref b2)] [(.ref a1)]))
  refine OwnR.of (fun _ hr => XS.iconst X2.here hx rfl (hb hby d8_19) hr) ?_
  show OwnR _ _ _ _ _ _ _ (T2.setTop (mkF m 20 #[.val (.ref a1), .val (.int (4 : Int32)), .val (.ref b2)] [(.int (0 : Int32)), (.ref a1)]))
  refine OwnR.of (fun _ hr => XS.aloadN X2.here hx rfl (hb hby d8_20) rfl rfl hr) ?_
  show OwnR _ _ _ _ _ _ _ (T2.setTop (mkF m 21 #[.val (.ref a1), .val (.int (4 : Int32)), .val (.ref b2)] [(.ref b2), (.int (0 : Int32)), (.ref a1)]))
  refine OwnR.of (fun _ hr => XS.iconst X2.here hx rfl (hb hby d8_21) hr) ?_
  show OwnR _ _ _ _ _ _ _ (T2.setTop (mkF m 22 #[.val (.ref a1), .val (.int (4 : Int32)), .val (.ref b2)] [(.int (0 : Int32)), (.ref b2), (.int (0 : Int32)), (.ref a1)]))
  refine OwnR.of (fun _ hr => XS.aloadN X2.here hx rfl (hb hby d8_22) rfl rfl hr) ?_
  show OwnR _ _ _ _ _ _ _ (T2.setTop (mkF m 23 #[.val (.ref a1), .val (.int (4 : Int32)), .val (.ref b2)] [(.ref a1), (.int (0 : Int32)), (.ref b2), (.int (0 : Int32)), (.ref a1)]))
  obtain ⟨cl3, Ar3, -, S3, N3, -, -⟩ := id (Arv.keep V_a1 K2 nin0)
  refine OwnR.of (X2.arraylength hx (by rw [e2]; exact Ar3.1) (State.isArrayOf_alike hZ.alike Ar3.2.1) (g := (mkF m 23 #[.val (.ref a1), .val (.int (4 : Int32)), .val (.ref b2)] [(.ref a1), (.int (0 : Int32)), (.ref b2), (.int (0 : Int32)), (.ref a1)])) rfl rfl (hb hby d8_23)) ?_
  show OwnR _ _ _ _ _ _ _ (T2.setTop (mkF m 24 #[.val (.ref a1), .val (.int (4 : Int32)), .val (.ref b2)] [(.int cl3.slots.size.toInt32), (.int (0 : Int32)), (.ref b2), (.int (0 : Int32)), (.ref a1)]))
  rw [len_of S3 N3]
  show OwnR _ _ _ _ _ _ _ (T2.setTop (mkF m 24 #[.val (.ref a1), .val (.int (4 : Int32)), .val (.ref b2)] [(.int (2 : Int32)), (.int (0 : Int32)), (.ref b2), (.int (0 : Int32)), (.ref a1)]))
  refine OwnR.of (fun _ hr => XS.iloadN X2.here hx rfl (hb hby d8_24) rfl hr) ?_
  show OwnR _ _ _ _ _ _ _ (T2.setTop (mkF m 25 #[.val (.ref a1), .val (.int (4 : Int32)), .val (.ref b2)] [(.int (4 : Int32)), (.int (2 : Int32)), (.int (0 : Int32)), (.ref b2), (.int (0 : Int32)), (.ref a1)]))
  obtain ⟨_, _, ⟨T4, L4, kc4, ns4⟩, -, X4, ⟨Lc4, hQ4, l4, y4, z4⟩, st4⟩ := Jvm.LawKit.callS X2 hx (y := (⟨"java/lang/Math", "min", "(II)I"⟩ : MethodName)) hown (mvT hZ (hw _ (List.mem_of_getElem? (i := 55) rfl))) (mvT hZ (hw _ (List.mem_of_getElem? (i := 56) rfl))) (mvT hZ (hw _ (List.mem_of_getElem? (i := 57) rfl))) (mvT hZ (hw _ (List.mem_of_getElem? (i := 58) rfl))) (by decide) (backOf (W := 4) (rmMin l Z a0 hw [] (2 : Int32) (4 : Int32) h2 n0 (Nat.le_trans Z0 K2.1) ) hZ (hw _ (List.mem_of_getElem? (i := 58) rfl)) (hw _ (List.mem_of_getElem? (i := 57) rfl)) (by decide) (by decide)) (g := (mkF m 25 #[.val (.ref a1), .val (.int (4 : Int32)), .val (.ref b2)] [(.int (4 : Int32)), (.int (2 : Int32)), (.int (0 : Int32)), (.ref b2), (.int (0 : Int32)), (.ref a1)])) rfl (by rw [hml]; rfl) (argsL := [(.int (2 : Int32)), (.int (4 : Int32))]) (rest := [(.int (0 : Int32)), (.ref b2), (.int (0 : Int32)), (.ref a1)]) (lenOf pd__II_I rfl) rfl (by show 2 * 0 + _ ≤ _; exact Nat.le_of_eq rfl) (hb hby d8_25) (fun _ _ => ⟨rfl, e2, (by decide : 1 + 0 ≤ _), (by decide : 4 + 0 ≤ _)⟩)
  dsimp only [Pt.U, Pt.locs, Pt.cells, Pt.slots] at X4 l4 y4 z4 st4 hQ4
  subst l4 y4 z4
  obtain ⟨rfl, N4q, e4⟩ := hQ4
  have N4 := Fr.app N0 N4q
  refine OwnR.of (st4) ?_
  show OwnR _ _ _ _ _ _ _ (T4.setTop (mkF m 28 #[.val (.ref a1), .val (.int (4 : Int32)), .val (.ref b2)] [(.int (own_imin (2 : Int32) (4 : Int32))), (.int (0 : Int32)), (.ref b2), (.int (0 : Int32)), (.ref a1)]))
  rw [(by decide : (own_imin (2 : Int32) (4 : Int32)) = (2 : Int32))]
  show OwnR _ _ _ _ _ _ _ (T4.setTop (mkF m 28 #[.val (.ref a1), .val (.int (4 : Int32)), .val (.ref b2)] [(.int (2 : Int32)), (.int (0 : Int32)), (.ref b2), (.int (0 : Int32)), (.ref a1)]))
  obtain ⟨T5, h5, L5, X5, e5, N5, Kp5, V5, st5⟩ := cpA X4 hx hZ hown (hw _ (List.mem_of_getElem? (i := 59) rfl)) (hw _ (List.mem_of_getElem? (i := 62) rfl)) (hw _ (List.mem_of_getElem? (i := 60) rfl)) (hw _ (List.mem_of_getElem? (i := 61) rfl)) e4 (Arv.keep V_a1 K2 nin0) V2 (Or.inl ⟨rfl, rfl⟩) (us := [(.int f0), (.int f1)]) (by decide) (by decide) (by decide) (by decide) (by decide) rfl (by decide) N4 gn_b2 (g := (mkF m 28 #[.val (.ref a1), .val (.int (4 : Int32)), .val (.ref b2)] [(.int (2 : Int32)), (.int (0 : Int32)), (.ref b2), (.int (0 : Int32)), (.ref a1)])) rfl (by rw [hml]; rfl) rfl (hb hby d8_28) (by decide) (W := 0) (by show 2 * 0 + _ ≤ _; exact Nat.le_of_eq rfl) (by decide)
  refine OwnR.of (st5) ?_
  have K5 : Keep h0 h5 [] := Keep.trans K2 Kp5 (allS (Or.inr sz_b2) all0)
  have V5 : Arv Z h5 b2 k2 .int (4 : Int32) [(.int f0), (.int f1), (.int (0 : Int32)), (.int (0 : Int32))] (.int (0 : Int32)) := V5
  show OwnR _ _ _ _ _ _ _ (T5.setTop (mkF m 31 #[.val (.ref a1), .val (.int (4 : Int32)), .val (.ref b2)] []))
  refine OwnR.of (fun _ hr => XS.aloadN X5.here hx rfl (hb hby d8_31) rfl rfl hr) ?_
  show OwnR _ _ _ _ _ _ _ (T5.setTop (mkF m 32 #[.val (.ref a1), .val (.int (4 : Int32)), .val (.ref b2)] [(.ref b2)]))
  refine own_leafA X5 hx hlk Bd.returns rfl rfl (hb hby d8_32) (by decide) (by decide) ?_
  show QCI_2 Z f0 f1 h0 n0 _ T5.heap _
  rw [show T5.heap = h5 from e5]
  refine ⟨b2, k2, ?_, N5, ⟨K5, V5, sz_b2, gn_b2⟩⟩
  show (some (.ref b2) : Option Value) = some (.ref b2)
  rfl
theorem ef_rmT_2 (m : MethodId) (x0 : Addr) (x1 : Int32) (x2 : Addr) : entryFrame m #[(.ref x0), (.int x1), (.ref x2)] 3 = mkF m 0 #[.val (.ref x0), .val (.int x1), .val (.ref x2)] [] := by first | (simp [entryFrame, mkF, argsToLocals, Value.category]; done) | rfl
def QT_2 (Z : State) (a1 : Addr) (p2 : Int32) (a3 : Addr) (pl : Int32) (el0 : Addr) (el1 : Addr) (f0 : Int32) (f1 : Int32) (h0 : Heap) (n0 : Nat) (v : Option Value) (h : Heap) (L : List Loc) : Prop := ∃ (b : Addr) (kb : ClassId) (c : Addr) (kc : ClassId), v = none ∧ Fr n0 L ∧ Keep h0 h [a1] ∧ Exa Z h a1 "com/example/tercet/tercet/core/Pages" ∧ Fld Z h a1 "com/example/tercet/tercet/core/Pages" "pageLength" "I" (.int pl) ∧ Fld Z h a1 "com/example/tercet/tercet/core/Pages" "limit" "I" (.int pl) ∧ Fld Z h a1 "com/example/tercet/tercet/core/Pages" "last" "Ljava/lang/Object;" (.ref a3) ∧ Fld Z h a1 "com/example/tercet/tercet/core/Pages" "pages" "[Ljava/lang/Object;" (.ref b) ∧ Fld Z h a1 "com/example/tercet/tercet/core/Pages" "firsts" "[I" (.ref c) ∧ Fld Z h a1 "com/example/tercet/tercet/core/Pages" "count" "I" (.int (3 : Int32)) ∧ Arv Z h b kb (.object "java/lang/Object") (4 : Int32) [(.ref el0), (.ref el1), (.ref a3), .null] .null ∧ Ovr Z kb "java/lang/Object" ∧ Exa Z h b "[Ljava/lang/Object;" ∧ Arv Z h c kc .int (4 : Int32) [(.int f0), (.int f1), (.int p2), (.int (0 : Int32))] (.int (0 : Int32)) ∧ h0.size ≤ b ∧ n0 ≤ b ∧ h0.size ≤ c ∧ n0 ≤ c
set_option maxRecDepth 65536 in
set_option maxHeartbeats 40000000 in
theorem rmT_2 (l : Launch) (Z : State) (a0 : Array Value) (hw : ∀ d ∈ tables_1, d.before a0 Z = true) (ws : List Jvm.Cond) (a1 : Addr) (p2 : Int32) (a3 : Addr) (pl lm : Int32) (ls bp bf : Addr) (kp kf : ClassId) (el0 el1 : Addr) (f0 f1 : Int32) (mo : Addr) (h0 : Heap) (n0 : Nat) (Z0 : n0 ≤ h0.size) (E_a1 : Exa Z h0 a1 "com/example/tercet/tercet/core/Pages") (F_pageLength_a1 : Fld Z h0 a1 "com/example/tercet/tercet/core/Pages" "pageLength" "I" (.int pl)) (F_limit_a1 : Fld Z h0 a1 "com/example/tercet/tercet/core/Pages" "limit" "I" (.int lm)) (F_last_a1 : Fld Z h0 a1 "com/example/tercet/tercet/core/Pages" "last" "Ljava/lang/Object;" (.ref ls)) (F_pages_a1 : Fld Z h0 a1 "com/example/tercet/tercet/core/Pages" "pages" "[Ljava/lang/Object;" (.ref bp)) (F_firsts_a1 : Fld Z h0 a1 "com/example/tercet/tercet/core/Pages" "firsts" "[I" (.ref bf)) (F_count_a1 : Fld Z h0 a1 "com/example/tercet/tercet/core/Pages" "count" "I" (.int (2 : Int32))) (V_bp : Arv Z h0 bp kp (.object "java/lang/Object") (2 : Int32) [(.ref el0), (.ref el1)] .null) (V_bf : Arv Z h0 bf kf .int (2 : Int32) [(.int f0), (.int f1)] (.int (0 : Int32))) (E_bp : Exa Z h0 bp "[Ljava/lang/Object;") (E_a3 : Exa Z h0 a3 "java/lang/Integer") (E_el0 : Exa Z h0 el0 "java/lang/Integer") (E_el1 : Exa Z h0 el1 "java/lang/Integer") (M_mo : OwnMir Z "[Ljava/lang/Object;" mo) (g_a1 : n0 ≤ a1) (ne_1p : a1 ≠ bp) (ne_1f : a1 ≠ bf) :
    MetFree l (⟨"com/example/tercet/tercet/core/Pages", "turn", "(ILjava/lang/Object;)V"⟩ : MethodName) (head1 (Jvm.Cond.code (⟨"com/example/tercet/tercet/core/Pages", "turn", "(ILjava/lang/Object;)V"⟩ : MethodName) prog_34_method_4_code 3 none :: ws) ({ frames := 3, cells := 2, slots := 8, locals := 96 } : Room)) (fun a U => a = #[(.ref a1), (.int p2), (.ref a3)] ∧ Z.Warmed39 U.vm ∧ U.heap = h0) (fun _ _ _ _ _ => True) (fun _ U o U' => ∃ v L, o = .returned v ∧ QT_2 Z a1 p2 a3 pl el0 el1 f0 f1 h0 n0 v U'.heap L ∧ FrameEnd U o U' L ({ frames := 3, cells := 2, slots := 8, locals := 96 } : Room).cells ({ frames := 3, cells := 2, slots := 8, locals := 96 } : Room).slots) := by
  refine MetFree.of_bodySF (plainFor_of_name pn_com_example_tercet_tercet_core_Pages) hisR ?_
  intro p e s m args below meth c s₁ Bd hml0 hP hK
  obtain ⟨rfl, hZ, hh⟩ := hP
  have hx := Bd.exec
  have hby := Bd.bytes
  have hlk := BodyLoose.notSynchronized Bd
  have hml : c.maxLocals = 3 := hml0
  have hown : s.vm.findClass "com/example/tercet/tercet/core/Pages" = some m.cls := findClass_of_methodNamed Bd.named
  have hnm := (name_of_methodNamed Bd.named Bd.method).1
  have X0 : Stand p l e ({ frames := 3, cells := 2, slots := 8, locals := 96 } : Room) s m #[(.ref a1), (.int p2), (.ref a3)] below meth c s₁ [] 0 0 := Stand.of_body Bd
  have e0 : s₁.heap = h0 := by rw [← hh, Bd.state]; rfl
  have N0 := Fr.nil n0
  refine OwnR.of (s := s) (Q := QT_2 Z a1 p2 a3 pl el0 el1 f0 f1 h0 n0) (fun t k => castTop (ef_rmT_2 m a1 p2 a3) k) ?_
  show OwnR _ _ _ _ _ _ _ (s₁.setTop (mkF m 0 #[.val (.ref a1), .val (.int p2), .val (.ref a3)] []))
  refine OwnR.of (fun _ hr => XS.aloadN X0.here hx rfl (hb hby d4_0) rfl rfl hr) ?_
  show OwnR _ _ _ _ _ _ _ (s₁.setTop (mkF m 1 #[.val (.ref a1), .val (.int p2), .val (.ref a3)] [(.ref a1)]))
  obtain ⟨T1, X1, e1, st1⟩ := getF X0 hx hZ hown (host := "") (Or.inl (hw _ (List.mem_of_getElem? (i := 33) rfl))) Via.refl e0 F_count_a1 (g := (mkF m 1 #[.val (.ref a1), .val (.int p2), .val (.ref a3)] [(.ref a1)])) rfl rfl (hb hby d4_1)
  refine OwnR.of (st1) ?_
  show OwnR _ _ _ _ _ _ _ (T1.setTop (mkF m 4 #[.val (.ref a1), .val (.int p2), .val (.ref a3)] [(.int (2 : Int32))]))
  refine OwnR.of (fun _ hr => XS.aloadN X1.here hx rfl (hb hby d4_4) rfl rfl hr) ?_
  show OwnR _ _ _ _ _ _ _ (T1.setTop (mkF m 5 #[.val (.ref a1), .val (.int p2), .val (.ref a3)] [(.ref a1), (.int (2 : Int32))]))
  obtain ⟨T2, X2, e2, st2⟩ := getF X1 hx hZ hown (host := "") (Or.inl (hw _ (List.mem_of_getElem? (i := 28) rfl))) Via.refl e1 F_pages_a1 (g := (mkF m 5 #[.val (.ref a1), .val (.int p2), .val (.ref a3)] [(.ref a1), (.int (2 : Int32))])) rfl rfl (hb hby d4_5)
  refine OwnR.of (st2) ?_
  show OwnR _ _ _ _ _ _ _ (T2.setTop (mkF m 8 #[.val (.ref a1), .val (.int p2), .val (.ref a3)] [(.ref bp), (.int (2 : Int32))]))
  obtain ⟨cl3, Ar3, -, S3, N3, -, -⟩ := id V_bp
  refine OwnR.of (X2.arraylength hx (by rw [e2]; exact Ar3.1) (State.isArrayOf_alike hZ.alike Ar3.2.1) (g := (mkF m 8 #[.val (.ref a1), .val (.int p2), .val (.ref a3)] [(.ref bp), (.int (2 : Int32))])) rfl rfl (hb hby d4_8)) ?_
  show OwnR _ _ _ _ _ _ _ (T2.setTop (mkF m 9 #[.val (.ref a1), .val (.int p2), .val (.ref a3)] [(.int cl3.slots.size.toInt32), (.int (2 : Int32))]))
  rw [len_of S3 N3]
  show OwnR _ _ _ _ _ _ _ (T2.setTop (mkF m 9 #[.val (.ref a1), .val (.int p2), .val (.ref a3)] [(.int (2 : Int32)), (.int (2 : Int32))]))
  refine OwnR.of (fun _ hr => XS.icmpNo X2.here hx rfl (hb hby d4_9) rfl (teq (by decide : (2 : Int32) = (2 : Int32))).2 hr) ?_
  show OwnR _ _ _ _ _ _ _ (T2.setTop (mkF m 12 #[.val (.ref a1), .val (.int p2), .val (.ref a3)] []))
  refine OwnR.of (fun _ hr => XS.aloadN X2.here hx rfl (hb hby d4_12) rfl rfl hr) ?_
  show OwnR _ _ _ _ _ _ _ (T2.setTop (mkF m 13 #[.val (.ref a1), .val (.int p2), .val (.ref a3)] [(.ref a1)]))
  refine OwnR.of (fun _ hr => XS.aloadN X2.here hx rfl (hb hby d4_13) rfl rfl hr) ?_
  show OwnR _ _ _ _ _ _ _ (T2.setTop (mkF m 14 #[.val (.ref a1), .val (.int p2), .val (.ref a3)] [(.ref a1), (.ref a1)]))
  obtain ⟨T4, X4, e4, st4⟩ := getF X2 hx hZ hown (host := "") (Or.inl (hw _ (List.mem_of_getElem? (i := 28) rfl))) Via.refl e2 F_pages_a1 (g := (mkF m 14 #[.val (.ref a1), .val (.int p2), .val (.ref a3)] [(.ref a1), (.ref a1)])) rfl rfl (hb hby d4_14)
  refine OwnR.of (st4) ?_
  show OwnR _ _ _ _ _ _ _ (T4.setTop (mkF m 17 #[.val (.ref a1), .val (.int p2), .val (.ref a3)] [(.ref bp), (.ref a1)]))
  refine OwnR.of (fun _ hr => XS.iconst X4.here hx rfl (hb hby d4_17) hr) ?_
  show OwnR _ _ _ _ _ _ _ (T4.setTop (mkF m 18 #[.val (.ref a1), .val (.int p2), .val (.ref a3)] [(.int (2 : Int32)), (.ref bp), (.ref a1)]))
  refine OwnR.of (fun _ hr => XS.aloadN X4.here hx rfl (hb hby d4_18) rfl rfl hr) ?_
  show OwnR _ _ _ _ _ _ _ (T4.setTop (mkF m 19 #[.val (.ref a1), .val (.int p2), .val (.ref a3)] [(.ref a1), (.int (2 : Int32)), (.ref bp), (.ref a1)]))
  obtain ⟨T5, X5, e5, st5⟩ := getF X4 hx hZ hown (host := "") (Or.inl (hw _ (List.mem_of_getElem? (i := 33) rfl))) Via.refl e4 F_count_a1 (g := (mkF m 19 #[.val (.ref a1), .val (.int p2), .val (.ref a3)] [(.ref a1), (.int (2 : Int32)), (.ref bp), (.ref a1)])) rfl rfl (hb hby d4_19)
  refine OwnR.of (st5) ?_
  show OwnR _ _ _ _ _ _ _ (T5.setTop (mkF m 22 #[.val (.ref a1), .val (.int p2), .val (.ref a3)] [(.int (2 : Int32)), (.int (2 : Int32)), (.ref bp), (.ref a1)]))
  refine OwnR.of (fun _ hr => XS.imul X5.here hx rfl (hb hby d4_22) rfl hr) ?_
  show OwnR _ _ _ _ _ _ _ (T5.setTop (mkF m 23 #[.val (.ref a1), .val (.int p2), .val (.ref a3)] [(.int ((2 : Int32) * (2 : Int32))), (.ref bp), (.ref a1)]))
  rw [(by decide : ((2 : Int32) * (2 : Int32)) = (4 : Int32))]
  show OwnR _ _ _ _ _ _ _ (T5.setTop (mkF m 23 #[.val (.ref a1), .val (.int p2), .val (.ref a3)] [(.int (4 : Int32)), (.ref bp), (.ref a1)]))
  obtain ⟨_, _, ⟨T6, L6, kc6, ns6⟩, -, X6, ⟨Lc6, hQ6, l6, y6, z6⟩, st6⟩ := Jvm.LawKit.callS X5 hx (y := (⟨"java/util/Arrays", "copyOf", "([Ljava/lang/Object;I)[Ljava/lang/Object;"⟩ : MethodName)) hown (mvT hZ (hw _ (List.mem_of_getElem? (i := 40) rfl))) (mvT hZ (hw _ (List.mem_of_getElem? (i := 41) rfl))) (mvT hZ (hw _ (List.mem_of_getElem? (i := 42) rfl))) (mvT hZ (hw _ (List.mem_of_getElem? (i := 43) rfl))) (by decide) (backOf (W := 1) (rmC2_2 l Z a0 hw [] bp kp el0 el1 mo h0 n0 (Nat.le_trans Z0 (Keep.refl h0 [a1]).1) V_bp E_bp E_el0 E_el1 M_mo) hZ (hw _ (List.mem_of_getElem? (i := 43) rfl)) (hw _ (List.mem_of_getElem? (i := 42) rfl)) (by decide) (by decide)) (g := (mkF m 23 #[.val (.ref a1), .val (.int p2), .val (.ref a3)] [(.int (4 : Int32)), (.ref bp), (.ref a1)])) rfl (by rw [hml]; rfl) (argsL := [(.ref bp), (.int (4 : Int32))]) (rest := [(.ref a1)]) (lenOf pd___Ljava_lang_Object_I__Ljava_lang_Object_ rfl) rfl (by show 2 * 0 + _ ≤ _; exact Nat.le_of_eq rfl) (hb hby d4_23) (fun _ _ => ⟨rfl, e5, (by decide : 0 + 1 ≤ _), (by decide : 0 + 4 ≤ _)⟩)
  dsimp only [Pt.U, Pt.locs, Pt.cells, Pt.slots] at X6 l6 y6 z6 st6 hQ6
  subst l6 y6 z6
  obtain ⟨b_6, kb_6, rfl, N6q, P6_0, P6_1, P6_2, P6_3, P6_4, P6_5⟩ := hQ6
  have K6 : Keep h0 T6.heap [a1] := Keep.trans (Keep.refl h0 [a1]) P6_0 all0
  have sz_b_6 : h0.size ≤ b_6 := Nat.le_trans (Keep.refl h0 [a1]).1 P6_4
  have N6 := Fr.app N0 N6q
  refine OwnR.of (st6) ?_
  show OwnR _ _ _ _ _ _ _ (T6.setTop (mkF m 26 #[.val (.ref a1), .val (.int p2), .val (.ref a3)] [(.ref b_6), (.ref a1)]))
  obtain ⟨T7, h7, X7, e7, W7, st7⟩ := putF X6 hx hZ hown (host := "") (Or.inl (hw _ (List.mem_of_getElem? (i := 28) rfl))) Via.refl rfl (F_pages_a1.keep P6_0 nin0) (Exa.keep E_a1 K6) (Or.inl (hw _ (List.mem_of_getElem? (i := 29) rfl))) (hw _ (List.mem_of_getElem? (i := 4) rfl)) (ty := (.array (.object "java/lang/Object"))) (by decide) rfl rfl (g := (mkF m 26 #[.val (.ref a1), .val (.int p2), .val (.ref a3)] [(.ref b_6), (.ref a1)])) rfl rfl (hb hby d4_26)
  refine OwnR.of (st7) ?_
  have F7 := Fld.same W7 (F_pages_a1.keep P6_0 nin0)
  have K7 : Keep h0 h7 [a1] := Keep.wr K6 W7 (Or.inl (List.mem_of_getElem? (i := 0) rfl))
  have N7 := Fr.snoc X7 N6 g_a1
  show OwnR _ _ _ _ _ _ _ (T7.setTop (mkF m 29 #[.val (.ref a1), .val (.int p2), .val (.ref a3)] []))
  refine OwnR.of (fun _ hr => XS.aloadN X7.here hx rfl (hb hby d4_29) rfl rfl hr) ?_
  show OwnR _ _ _ _ _ _ _ (T7.setTop (mkF m 30 #[.val (.ref a1), .val (.int p2), .val (.ref a3)] [(.ref a1)]))
  refine OwnR.of (fun _ hr => XS.aloadN X7.here hx rfl (hb hby d4_30) rfl rfl hr) ?_
  show OwnR _ _ _ _ _ _ _ (T7.setTop (mkF m 31 #[.val (.ref a1), .val (.int p2), .val (.ref a3)] [(.ref a1), (.ref a1)]))
  obtain ⟨T8, X8, e8, st8⟩ := getF X7 hx hZ hown (host := "") (Or.inl (hw _ (List.mem_of_getElem? (i := 31) rfl))) Via.refl e7 (Fld.other W7 (F_firsts_a1.keep P6_0 nin0) (Or.inr (slot_ne (Or.inl (hw _ (List.mem_of_getElem? (i := 32) rfl))) (Or.inl (hw _ (List.mem_of_getElem? (i := 29) rfl))) (by decide) (t := (.array .int)) (t' := (.array (.object "java/lang/Object"))) (by decide) (by decide)))) (g := (mkF m 31 #[.val (.ref a1), .val (.int p2), .val (.ref a3)] [(.ref a1), (.ref a1)])) rfl rfl (hb hby d4_31)
  refine OwnR.of (st8) ?_
  show OwnR _ _ _ _ _ _ _ (T8.setTop (mkF m 34 #[.val (.ref a1), .val (.int p2), .val (.ref a3)] [(.ref bf), (.ref a1)]))
  refine OwnR.of (fun _ hr => XS.iconst X8.here hx rfl (hb hby d4_34) hr) ?_
  show OwnR _ _ _ _ _ _ _ (T8.setTop (mkF m 35 #[.val (.ref a1), .val (.int p2), .val (.ref a3)] [(.int (2 : Int32)), (.ref bf), (.ref a1)]))
  refine OwnR.of (fun _ hr => XS.aloadN X8.here hx rfl (hb hby d4_35) rfl rfl hr) ?_
  show OwnR _ _ _ _ _ _ _ (T8.setTop (mkF m 36 #[.val (.ref a1), .val (.int p2), .val (.ref a3)] [(.ref a1), (.int (2 : Int32)), (.ref bf), (.ref a1)]))
  obtain ⟨T9, X9, e9, st9⟩ := getF X8 hx hZ hown (host := "") (Or.inl (hw _ (List.mem_of_getElem? (i := 33) rfl))) Via.refl e8 (Fld.other W7 (F_count_a1.keep P6_0 nin0) (Or.inr (slot_ne (Or.inl (hw _ (List.mem_of_getElem? (i := 34) rfl))) (Or.inl (hw _ (List.mem_of_getElem? (i := 29) rfl))) (by decide) (t := .int) (t' := (.array (.object "java/lang/Object"))) (by decide) (by decide)))) (g := (mkF m 36 #[.val (.ref a1), .val (.int p2), .val (.ref a3)] [(.ref a1), (.int (2 : Int32)), (.ref bf), (.ref a1)])) rfl rfl (hb hby d4_36)
  refine OwnR.of (st9) ?_
  show OwnR _ _ _ _ _ _ _ (T9.setTop (mkF m 39 #[.val (.ref a1), .val (.int p2), .val (.ref a3)] [(.int (2 : Int32)), (.int (2 : Int32)), (.ref bf), (.ref a1)]))
  refine OwnR.of (fun _ hr => XS.imul X9.here hx rfl (hb hby d4_39) rfl hr) ?_
  show OwnR _ _ _ _ _ _ _ (T9.setTop (mkF m 40 #[.val (.ref a1), .val (.int p2), .val (.ref a3)] [(.int ((2 : Int32) * (2 : Int32))), (.ref bf), (.ref a1)]))
  rw [(by decide : ((2 : Int32) * (2 : Int32)) = (4 : Int32))]
  show OwnR _ _ _ _ _ _ _ (T9.setTop (mkF m 40 #[.val (.ref a1), .val (.int p2), .val (.ref a3)] [(.int (4 : Int32)), (.ref bf), (.ref a1)]))
  obtain ⟨_, _, ⟨T10, L10, kc10, ns10⟩, -, X10, ⟨Lc10, hQ10, l10, y10, z10⟩, st10⟩ := Jvm.LawKit.callS X9 hx (y := (⟨"java/util/Arrays", "copyOf", "([II)[I"⟩ : MethodName)) hown (mvT hZ (hw _ (List.mem_of_getElem? (i := 63) rfl))) (mvT hZ (hw _ (List.mem_of_getElem? (i := 64) rfl))) (mvT hZ (hw _ (List.mem_of_getElem? (i := 42) rfl))) (mvT hZ (hw _ (List.mem_of_getElem? (i := 65) rfl))) (by decide) (backOf (W := 1) (rmCI_2 l Z a0 hw [] bf kf f0 f1 h7 n0 (Nat.le_trans Z0 K7.1) (Arv.keep V_bf K7 (ninS (Ne.symm ne_1f) nin0))) hZ (hw _ (List.mem_of_getElem? (i := 65) rfl)) (hw _ (List.mem_of_getElem? (i := 42) rfl)) (by decide) (by decide)) (g := (mkF m 40 #[.val (.ref a1), .val (.int p2), .val (.ref a3)] [(.int (4 : Int32)), (.ref bf), (.ref a1)])) rfl (by rw [hml]; rfl) (argsL := [(.ref bf), (.int (4 : Int32))]) (rest := [(.ref a1)]) (lenOf pd___II__I rfl) rfl (by show 2 * 0 + _ ≤ _; exact Nat.le_of_eq rfl) (hb hby d4_40) (fun _ _ => ⟨rfl, e9, (by decide : 1 + 1 ≤ _), (by decide : 4 + 4 ≤ _)⟩)
  dsimp only [Pt.U, Pt.locs, Pt.cells, Pt.slots] at X10 l10 y10 z10 st10 hQ10
  subst l10 y10 z10
  obtain ⟨b_10, kb_10, rfl, N10q, P10_0, P10_1, P10_2, P10_3⟩ := hQ10
  have K10 : Keep h0 T10.heap [a1] := Keep.trans K7 P10_0 all0
  have sz_b_10 : h0.size ≤ b_10 := Nat.le_trans K7.1 P10_2
  have N10 := Fr.app N7 N10q
  refine OwnR.of (st10) ?_
  show OwnR _ _ _ _ _ _ _ (T10.setTop (mkF m 43 #[.val (.ref a1), .val (.int p2), .val (.ref a3)] [(.ref b_10), (.ref a1)]))
  obtain ⟨T11, h11, X11, e11, W11, st11⟩ := putF X10 hx hZ hown (host := "") (Or.inl (hw _ (List.mem_of_getElem? (i := 31) rfl))) Via.refl rfl ((Fld.other W7 (F_firsts_a1.keep P6_0 nin0) (Or.inr (slot_ne (Or.inl (hw _ (List.mem_of_getElem? (i := 32) rfl))) (Or.inl (hw _ (List.mem_of_getElem? (i := 29) rfl))) (by decide) (t := (.array .int)) (t' := (.array (.object "java/lang/Object"))) (by decide) (by decide)))).keep P10_0 nin0) (Exa.keep E_a1 K10) (Or.inl (hw _ (List.mem_of_getElem? (i := 32) rfl))) (hw _ (List.mem_of_getElem? (i := 4) rfl)) (ty := (.array .int)) (by decide) rfl rfl (g := (mkF m 43 #[.val (.ref a1), .val (.int p2), .val (.ref a3)] [(.ref b_10), (.ref a1)])) rfl rfl (hb hby d4_43)
  refine OwnR.of (st11) ?_
  have F11 := Fld.same W11 ((Fld.other W7 (F_firsts_a1.keep P6_0 nin0) (Or.inr (slot_ne (Or.inl (hw _ (List.mem_of_getElem? (i := 32) rfl))) (Or.inl (hw _ (List.mem_of_getElem? (i := 29) rfl))) (by decide) (t := (.array .int)) (t' := (.array (.object "java/lang/Object"))) (by decide) (by decide)))).keep P10_0 nin0)
  have K11 : Keep h0 h11 [a1] := Keep.wr K10 W11 (Or.inl (List.mem_of_getElem? (i := 0) rfl))
  have N11 := Fr.snoc X11 N10 g_a1
  show OwnR _ _ _ _ _ _ _ (T11.setTop (mkF m 46 #[.val (.ref a1), .val (.int p2), .val (.ref a3)] []))
  refine OwnR.of (fun _ hr => XS.aloadN X11.here hx rfl (hb hby d4_46) rfl rfl hr) ?_
  show OwnR _ _ _ _ _ _ _ (T11.setTop (mkF m 47 #[.val (.ref a1), .val (.int p2), .val (.ref a3)] [(.ref a1)]))
  obtain ⟨T12, X12, e12, st12⟩ := getF X11 hx hZ hown (host := "") (Or.inl (hw _ (List.mem_of_getElem? (i := 28) rfl))) Via.refl e11 (Fld.other W11 (F7.keep P10_0 nin0) (Or.inr (slot_ne (Or.inl (hw _ (List.mem_of_getElem? (i := 29) rfl))) (Or.inl (hw _ (List.mem_of_getElem? (i := 32) rfl))) (by decide) (t := (.array (.object "java/lang/Object"))) (t' := (.array .int)) (by decide) (by decide)))) (g := (mkF m 47 #[.val (.ref a1), .val (.int p2), .val (.ref a3)] [(.ref a1)])) rfl rfl (hb hby d4_47)
  refine OwnR.of (st12) ?_
  show OwnR _ _ _ _ _ _ _ (T12.setTop (mkF m 50 #[.val (.ref a1), .val (.int p2), .val (.ref a3)] [(.ref b_6)]))
  refine OwnR.of (fun _ hr => XS.aloadN X12.here hx rfl (hb hby d4_50) rfl rfl hr) ?_
  show OwnR _ _ _ _ _ _ _ (T12.setTop (mkF m 51 #[.val (.ref a1), .val (.int p2), .val (.ref a3)] [(.ref a1), (.ref b_6)]))
  obtain ⟨T13, X13, e13, st13⟩ := getF X12 hx hZ hown (host := "") (Or.inl (hw _ (List.mem_of_getElem? (i := 33) rfl))) Via.refl e12 (Fld.other W11 ((Fld.other W7 (F_count_a1.keep P6_0 nin0) (Or.inr (slot_ne (Or.inl (hw _ (List.mem_of_getElem? (i := 34) rfl))) (Or.inl (hw _ (List.mem_of_getElem? (i := 29) rfl))) (by decide) (t := .int) (t' := (.array (.object "java/lang/Object"))) (by decide) (by decide)))).keep P10_0 nin0) (Or.inr (slot_ne (Or.inl (hw _ (List.mem_of_getElem? (i := 34) rfl))) (Or.inl (hw _ (List.mem_of_getElem? (i := 32) rfl))) (by decide) (t := .int) (t' := (.array .int)) (by decide) (by decide)))) (g := (mkF m 51 #[.val (.ref a1), .val (.int p2), .val (.ref a3)] [(.ref a1), (.ref b_6)])) rfl rfl (hb hby d4_51)
  refine OwnR.of (st13) ?_
  show OwnR _ _ _ _ _ _ _ (T13.setTop (mkF m 54 #[.val (.ref a1), .val (.int p2), .val (.ref a3)] [(.int (2 : Int32)), (.ref b_6)]))
  refine OwnR.of (fun _ hr => XS.aloadN X13.here hx rfl (hb hby d4_54) rfl rfl hr) ?_
  show OwnR _ _ _ _ _ _ _ (T13.setTop (mkF m 55 #[.val (.ref a1), .val (.int p2), .val (.ref a3)] [(.ref a3), (.int (2 : Int32)), (.ref b_6)]))
  obtain ⟨cl14, Ar14, q14, S14, N14q, H14, G14⟩ := id (Arv.other ((Arv.other P6_1 W7 (Ne.symm (Nat.ne_of_lt (Nat.lt_of_lt_of_le E_a1.lt P6_4)))).keep P10_0 nin0) W11 (Ne.symm (Nat.ne_of_lt (Nat.lt_of_lt_of_le E_a1.lt P6_4))))
  have hin14 : ¬ ((2 : Int32) < 0 ∨ cl14.slots.size ≤ ((2 : Int32)).toNatClampNeg) := (inb_of S14 ⟨by decide, by decide⟩)
  obtain ⟨T14, h14, X14, e14, W14, st14⟩ := stR X13 hx hZ e13 Ar14 (j := (2 : Int32)) hin14 rfl (Sto.ofV Ar14 q14 P6_2 (Ins.of_exa (Exa.keep E_a3 K11) (hw _ (List.mem_of_getElem? (i := 27) rfl)))) (g := (mkF m 55 #[.val (.ref a1), .val (.int p2), .val (.ref a3)] [(.ref a3), (.int (2 : Int32)), (.ref b_6)])) rfl rfl (hb hby d4_55)
  refine OwnR.of (st14) ?_
  have V14 := Arv.set Ar14 q14 S14 N14q H14 G14 rfl W14 2 rfl (Nat.le_of_ble_eq_true rfl)
  have V14 : Arv Z h14 b_6 kb_6 (.object "java/lang/Object") (4 : Int32) [(.ref el0), (.ref el1), (.ref a3), .null] .null := V14
  have K14 : Keep h0 h14 [a1] := Keep.wr K11 W14 (Or.inr sz_b_6)
  have N14 := Fr.snoc X14 N11 P6_5
  show OwnR _ _ _ _ _ _ _ (T14.setTop (mkF m 56 #[.val (.ref a1), .val (.int p2), .val (.ref a3)] []))
  refine OwnR.of (fun _ hr => XS.aloadN X14.here hx rfl (hb hby d4_56) rfl rfl hr) ?_
  show OwnR _ _ _ _ _ _ _ (T14.setTop (mkF m 57 #[.val (.ref a1), .val (.int p2), .val (.ref a3)] [(.ref a1)]))
  obtain ⟨T15, X15, e15, st15⟩ := getF X14 hx hZ hown (host := "") (Or.inl (hw _ (List.mem_of_getElem? (i := 31) rfl))) Via.refl e14 (Fld.other W14 F11 (Or.inl (Nat.ne_of_lt (Nat.lt_of_lt_of_le E_a1.lt P6_4)))) (g := (mkF m 57 #[.val (.ref a1), .val (.int p2), .val (.ref a3)] [(.ref a1)])) rfl rfl (hb hby d4_57)
  refine OwnR.of (st15) ?_
  show OwnR _ _ _ _ _ _ _ (T15.setTop (mkF m 60 #[.val (.ref a1), .val (.int p2), .val (.ref a3)] [(.ref b_10)]))
  refine OwnR.of (fun _ hr => XS.aloadN X15.here hx rfl (hb hby d4_60) rfl rfl hr) ?_
  show OwnR _ _ _ _ _ _ _ (T15.setTop (mkF m 61 #[.val (.ref a1), .val (.int p2), .val (.ref a3)] [(.ref a1), (.ref b_10)]))
  obtain ⟨T16, X16, e16, st16⟩ := getF X15 hx hZ hown (host := "") (Or.inl (hw _ (List.mem_of_getElem? (i := 33) rfl))) Via.refl e15 (Fld.other W14 (Fld.other W11 ((Fld.other W7 (F_count_a1.keep P6_0 nin0) (Or.inr (slot_ne (Or.inl (hw _ (List.mem_of_getElem? (i := 34) rfl))) (Or.inl (hw _ (List.mem_of_getElem? (i := 29) rfl))) (by decide) (t := .int) (t' := (.array (.object "java/lang/Object"))) (by decide) (by decide)))).keep P10_0 nin0) (Or.inr (slot_ne (Or.inl (hw _ (List.mem_of_getElem? (i := 34) rfl))) (Or.inl (hw _ (List.mem_of_getElem? (i := 32) rfl))) (by decide) (t := .int) (t' := (.array .int)) (by decide) (by decide)))) (Or.inl (Nat.ne_of_lt (Nat.lt_of_lt_of_le E_a1.lt P6_4)))) (g := (mkF m 61 #[.val (.ref a1), .val (.int p2), .val (.ref a3)] [(.ref a1), (.ref b_10)])) rfl rfl (hb hby d4_61)
  refine OwnR.of (st16) ?_
  show OwnR _ _ _ _ _ _ _ (T16.setTop (mkF m 64 #[.val (.ref a1), .val (.int p2), .val (.ref a3)] [(.int (2 : Int32)), (.ref b_10)]))
  refine OwnR.of (fun _ hr => XS.iloadN X16.here hx rfl (hb hby d4_64) rfl hr) ?_
  show OwnR _ _ _ _ _ _ _ (T16.setTop (mkF m 65 #[.val (.ref a1), .val (.int p2), .val (.ref a3)] [(.int p2), (.int (2 : Int32)), (.ref b_10)]))
  obtain ⟨cl17, Ar17, q17, S17, N17q, H17, G17⟩ := id (Arv.other (Arv.other P10_1 W11 (Ne.symm (Nat.ne_of_lt (Nat.lt_of_lt_of_le (Exa.keep E_a1 K7).lt P10_2)))) W14 (Ne.symm (Nat.ne_of_lt (Nat.lt_of_lt_of_le (Exa.wr W7 P6_3).lt P10_2))))
  have hin17 : ¬ ((2 : Int32) < 0 ∨ cl17.slots.size ≤ ((2 : Int32)).toNatClampNeg) := (inb_of S17 ⟨by decide, by decide⟩)
  obtain ⟨T17, h17, X17, e17, W17, st17⟩ := stI X16 hx hZ e16 Ar17 (j := (2 : Int32)) hin17 (g := (mkF m 65 #[.val (.ref a1), .val (.int p2), .val (.ref a3)] [(.int p2), (.int (2 : Int32)), (.ref b_10)])) rfl rfl (hb hby d4_65)
  refine OwnR.of (st17) ?_
  have V17 := Arv.set Ar17 q17 S17 N17q H17 G17 rfl W17 2 rfl (Nat.le_of_ble_eq_true rfl)
  have V17 : Arv Z h17 b_10 kb_10 .int (4 : Int32) [(.int f0), (.int f1), (.int p2), (.int (0 : Int32))] (.int (0 : Int32)) := V17
  have K17 : Keep h0 h17 [a1] := Keep.wr K14 W17 (Or.inr sz_b_10)
  have N17 := Fr.snoc X17 N14 P10_3
  show OwnR _ _ _ _ _ _ _ (T17.setTop (mkF m 66 #[.val (.ref a1), .val (.int p2), .val (.ref a3)] []))
  refine OwnR.of (fun _ hr => XS.aloadN X17.here hx rfl (hb hby d4_66) rfl rfl hr) ?_
  show OwnR _ _ _ _ _ _ _ (T17.setTop (mkF m 67 #[.val (.ref a1), .val (.int p2), .val (.ref a3)] [(.ref a1)]))
  refine OwnR.of (fun _ hr => XS.dup X17.here hx rfl (hb hby d4_67) rfl rfl hr) ?_
  show OwnR _ _ _ _ _ _ _ (T17.setTop (mkF m 68 #[.val (.ref a1), .val (.int p2), .val (.ref a3)] [(.ref a1), (.ref a1)]))
  obtain ⟨T18, X18, e18, st18⟩ := getF X17 hx hZ hown (host := "") (Or.inl (hw _ (List.mem_of_getElem? (i := 33) rfl))) Via.refl e17 (Fld.other W17 (Fld.other W14 (Fld.other W11 ((Fld.other W7 (F_count_a1.keep P6_0 nin0) (Or.inr (slot_ne (Or.inl (hw _ (List.mem_of_getElem? (i := 34) rfl))) (Or.inl (hw _ (List.mem_of_getElem? (i := 29) rfl))) (by decide) (t := .int) (t' := (.array (.object "java/lang/Object"))) (by decide) (by decide)))).keep P10_0 nin0) (Or.inr (slot_ne (Or.inl (hw _ (List.mem_of_getElem? (i := 34) rfl))) (Or.inl (hw _ (List.mem_of_getElem? (i := 32) rfl))) (by decide) (t := .int) (t' := (.array .int)) (by decide) (by decide)))) (Or.inl (Nat.ne_of_lt (Nat.lt_of_lt_of_le E_a1.lt P6_4)))) (Or.inl (Nat.ne_of_lt (Nat.lt_of_lt_of_le (Exa.keep E_a1 K7).lt P10_2)))) (g := (mkF m 68 #[.val (.ref a1), .val (.int p2), .val (.ref a3)] [(.ref a1), (.ref a1)])) rfl rfl (hb hby d4_68)
  refine OwnR.of (st18) ?_
  show OwnR _ _ _ _ _ _ _ (T18.setTop (mkF m 71 #[.val (.ref a1), .val (.int p2), .val (.ref a3)] [(.int (2 : Int32)), (.ref a1)]))
  refine OwnR.of (fun _ hr => XS.iconst X18.here hx rfl (hb hby d4_71) hr) ?_
  show OwnR _ _ _ _ _ _ _ (T18.setTop (mkF m 72 #[.val (.ref a1), .val (.int p2), .val (.ref a3)] [(.int (1 : Int32)), (.int (2 : Int32)), (.ref a1)]))
  refine OwnR.of (fun _ hr => XS.iadd X18.here hx rfl (hb hby d4_72) rfl hr) ?_
  show OwnR _ _ _ _ _ _ _ (T18.setTop (mkF m 73 #[.val (.ref a1), .val (.int p2), .val (.ref a3)] [(.int ((2 : Int32) + (1 : Int32))), (.ref a1)]))
  rw [(by decide : ((2 : Int32) + (1 : Int32)) = (3 : Int32))]
  show OwnR _ _ _ _ _ _ _ (T18.setTop (mkF m 73 #[.val (.ref a1), .val (.int p2), .val (.ref a3)] [(.int (3 : Int32)), (.ref a1)]))
  obtain ⟨T19, h19, X19, e19, W19, st19⟩ := putF X18 hx hZ hown (host := "") (Or.inl (hw _ (List.mem_of_getElem? (i := 33) rfl))) Via.refl e18 (Fld.other W17 (Fld.other W14 (Fld.other W11 ((Fld.other W7 (F_count_a1.keep P6_0 nin0) (Or.inr (slot_ne (Or.inl (hw _ (List.mem_of_getElem? (i := 34) rfl))) (Or.inl (hw _ (List.mem_of_getElem? (i := 29) rfl))) (by decide) (t := .int) (t' := (.array (.object "java/lang/Object"))) (by decide) (by decide)))).keep P10_0 nin0) (Or.inr (slot_ne (Or.inl (hw _ (List.mem_of_getElem? (i := 34) rfl))) (Or.inl (hw _ (List.mem_of_getElem? (i := 32) rfl))) (by decide) (t := .int) (t' := (.array .int)) (by decide) (by decide)))) (Or.inl (Nat.ne_of_lt (Nat.lt_of_lt_of_le E_a1.lt P6_4)))) (Or.inl (Nat.ne_of_lt (Nat.lt_of_lt_of_le (Exa.keep E_a1 K7).lt P10_2)))) (Exa.keep E_a1 K17) (Or.inl (hw _ (List.mem_of_getElem? (i := 34) rfl))) (hw _ (List.mem_of_getElem? (i := 4) rfl)) (ty := .int) (by decide) rfl rfl (g := (mkF m 73 #[.val (.ref a1), .val (.int p2), .val (.ref a3)] [(.int (3 : Int32)), (.ref a1)])) rfl rfl (hb hby d4_73)
  refine OwnR.of (st19) ?_
  have F19 := Fld.same W19 (Fld.other W17 (Fld.other W14 (Fld.other W11 ((Fld.other W7 (F_count_a1.keep P6_0 nin0) (Or.inr (slot_ne (Or.inl (hw _ (List.mem_of_getElem? (i := 34) rfl))) (Or.inl (hw _ (List.mem_of_getElem? (i := 29) rfl))) (by decide) (t := .int) (t' := (.array (.object "java/lang/Object"))) (by decide) (by decide)))).keep P10_0 nin0) (Or.inr (slot_ne (Or.inl (hw _ (List.mem_of_getElem? (i := 34) rfl))) (Or.inl (hw _ (List.mem_of_getElem? (i := 32) rfl))) (by decide) (t := .int) (t' := (.array .int)) (by decide) (by decide)))) (Or.inl (Nat.ne_of_lt (Nat.lt_of_lt_of_le E_a1.lt P6_4)))) (Or.inl (Nat.ne_of_lt (Nat.lt_of_lt_of_le (Exa.keep E_a1 K7).lt P10_2))))
  have K19 : Keep h0 h19 [a1] := Keep.wr K17 W19 (Or.inl (List.mem_of_getElem? (i := 0) rfl))
  have N19 := Fr.snoc X19 N17 g_a1
  show OwnR _ _ _ _ _ _ _ (T19.setTop (mkF m 76 #[.val (.ref a1), .val (.int p2), .val (.ref a3)] []))
  refine OwnR.of (fun _ hr => XS.aloadN X19.here hx rfl (hb hby d4_76) rfl rfl hr) ?_
  show OwnR _ _ _ _ _ _ _ (T19.setTop (mkF m 77 #[.val (.ref a1), .val (.int p2), .val (.ref a3)] [(.ref a1)]))
  refine OwnR.of (fun _ hr => XS.aloadN X19.here hx rfl (hb hby d4_77) rfl rfl hr) ?_
  show OwnR _ _ _ _ _ _ _ (T19.setTop (mkF m 78 #[.val (.ref a1), .val (.int p2), .val (.ref a3)] [(.ref a1), (.ref a1)]))
  obtain ⟨T20, X20, e20, st20⟩ := getF X19 hx hZ hown (host := "") (Or.inl (hw _ (List.mem_of_getElem? (i := 19) rfl))) Via.refl e19 (Fld.other W19 (Fld.other W17 (Fld.other W14 (Fld.other W11 ((Fld.other W7 (F_pageLength_a1.keep P6_0 nin0) (Or.inr (slot_ne (Or.inr (hw _ (List.mem_of_getElem? (i := 20) rfl))) (Or.inl (hw _ (List.mem_of_getElem? (i := 29) rfl))) (by decide) (t := .int) (t' := (.array (.object "java/lang/Object"))) (by decide) (by decide)))).keep P10_0 nin0) (Or.inr (slot_ne (Or.inr (hw _ (List.mem_of_getElem? (i := 20) rfl))) (Or.inl (hw _ (List.mem_of_getElem? (i := 32) rfl))) (by decide) (t := .int) (t' := (.array .int)) (by decide) (by decide)))) (Or.inl (Nat.ne_of_lt (Nat.lt_of_lt_of_le E_a1.lt P6_4)))) (Or.inl (Nat.ne_of_lt (Nat.lt_of_lt_of_le (Exa.keep E_a1 K7).lt P10_2)))) (Or.inr (slot_ne (Or.inr (hw _ (List.mem_of_getElem? (i := 20) rfl))) (Or.inl (hw _ (List.mem_of_getElem? (i := 34) rfl))) (by decide) (t := .int) (t' := .int) (by decide) (by decide)))) (g := (mkF m 78 #[.val (.ref a1), .val (.int p2), .val (.ref a3)] [(.ref a1), (.ref a1)])) rfl rfl (hb hby d4_78)
  refine OwnR.of (st20) ?_
  show OwnR _ _ _ _ _ _ _ (T20.setTop (mkF m 81 #[.val (.ref a1), .val (.int p2), .val (.ref a3)] [(.int pl), (.ref a1)]))
  obtain ⟨T21, h21, X21, e21, W21, st21⟩ := putF X20 hx hZ hown (host := "") (Or.inl (hw _ (List.mem_of_getElem? (i := 21) rfl))) Via.refl e20 (Fld.other W19 (Fld.other W17 (Fld.other W14 (Fld.other W11 ((Fld.other W7 (F_limit_a1.keep P6_0 nin0) (Or.inr (slot_ne (Or.inl (hw _ (List.mem_of_getElem? (i := 22) rfl))) (Or.inl (hw _ (List.mem_of_getElem? (i := 29) rfl))) (by decide) (t := .int) (t' := (.array (.object "java/lang/Object"))) (by decide) (by decide)))).keep P10_0 nin0) (Or.inr (slot_ne (Or.inl (hw _ (List.mem_of_getElem? (i := 22) rfl))) (Or.inl (hw _ (List.mem_of_getElem? (i := 32) rfl))) (by decide) (t := .int) (t' := (.array .int)) (by decide) (by decide)))) (Or.inl (Nat.ne_of_lt (Nat.lt_of_lt_of_le E_a1.lt P6_4)))) (Or.inl (Nat.ne_of_lt (Nat.lt_of_lt_of_le (Exa.keep E_a1 K7).lt P10_2)))) (Or.inr (slot_ne (Or.inl (hw _ (List.mem_of_getElem? (i := 22) rfl))) (Or.inl (hw _ (List.mem_of_getElem? (i := 34) rfl))) (by decide) (t := .int) (t' := .int) (by decide) (by decide)))) (Exa.keep E_a1 K19) (Or.inl (hw _ (List.mem_of_getElem? (i := 22) rfl))) (hw _ (List.mem_of_getElem? (i := 4) rfl)) (ty := .int) (by decide) rfl rfl (g := (mkF m 81 #[.val (.ref a1), .val (.int p2), .val (.ref a3)] [(.int pl), (.ref a1)])) rfl rfl (hb hby d4_81)
  refine OwnR.of (st21) ?_
  have F21 := Fld.same W21 (Fld.other W19 (Fld.other W17 (Fld.other W14 (Fld.other W11 ((Fld.other W7 (F_limit_a1.keep P6_0 nin0) (Or.inr (slot_ne (Or.inl (hw _ (List.mem_of_getElem? (i := 22) rfl))) (Or.inl (hw _ (List.mem_of_getElem? (i := 29) rfl))) (by decide) (t := .int) (t' := (.array (.object "java/lang/Object"))) (by decide) (by decide)))).keep P10_0 nin0) (Or.inr (slot_ne (Or.inl (hw _ (List.mem_of_getElem? (i := 22) rfl))) (Or.inl (hw _ (List.mem_of_getElem? (i := 32) rfl))) (by decide) (t := .int) (t' := (.array .int)) (by decide) (by decide)))) (Or.inl (Nat.ne_of_lt (Nat.lt_of_lt_of_le E_a1.lt P6_4)))) (Or.inl (Nat.ne_of_lt (Nat.lt_of_lt_of_le (Exa.keep E_a1 K7).lt P10_2)))) (Or.inr (slot_ne (Or.inl (hw _ (List.mem_of_getElem? (i := 22) rfl))) (Or.inl (hw _ (List.mem_of_getElem? (i := 34) rfl))) (by decide) (t := .int) (t' := .int) (by decide) (by decide))))
  have K21 : Keep h0 h21 [a1] := Keep.wr K19 W21 (Or.inl (List.mem_of_getElem? (i := 0) rfl))
  have N21 := Fr.snoc X21 N19 g_a1
  show OwnR _ _ _ _ _ _ _ (T21.setTop (mkF m 84 #[.val (.ref a1), .val (.int p2), .val (.ref a3)] []))
  refine OwnR.of (fun _ hr => XS.aloadN X21.here hx rfl (hb hby d4_84) rfl rfl hr) ?_
  show OwnR _ _ _ _ _ _ _ (T21.setTop (mkF m 85 #[.val (.ref a1), .val (.int p2), .val (.ref a3)] [(.ref a1)]))
  refine OwnR.of (fun _ hr => XS.aloadN X21.here hx rfl (hb hby d4_85) rfl rfl hr) ?_
  show OwnR _ _ _ _ _ _ _ (T21.setTop (mkF m 86 #[.val (.ref a1), .val (.int p2), .val (.ref a3)] [(.ref a3), (.ref a1)]))
  obtain ⟨T22, h22, X22, e22, W22, st22⟩ := putF X21 hx hZ hown (host := "") (Or.inl (hw _ (List.mem_of_getElem? (i := 23) rfl))) Via.refl e21 (Fld.other W21 (Fld.other W19 (Fld.other W17 (Fld.other W14 (Fld.other W11 ((Fld.other W7 (F_last_a1.keep P6_0 nin0) (Or.inr (slot_ne (Or.inl (hw _ (List.mem_of_getElem? (i := 24) rfl))) (Or.inl (hw _ (List.mem_of_getElem? (i := 29) rfl))) (by decide) (t := (.object "java/lang/Object")) (t' := (.array (.object "java/lang/Object"))) (by decide) (by decide)))).keep P10_0 nin0) (Or.inr (slot_ne (Or.inl (hw _ (List.mem_of_getElem? (i := 24) rfl))) (Or.inl (hw _ (List.mem_of_getElem? (i := 32) rfl))) (by decide) (t := (.object "java/lang/Object")) (t' := (.array .int)) (by decide) (by decide)))) (Or.inl (Nat.ne_of_lt (Nat.lt_of_lt_of_le E_a1.lt P6_4)))) (Or.inl (Nat.ne_of_lt (Nat.lt_of_lt_of_le (Exa.keep E_a1 K7).lt P10_2)))) (Or.inr (slot_ne (Or.inl (hw _ (List.mem_of_getElem? (i := 24) rfl))) (Or.inl (hw _ (List.mem_of_getElem? (i := 34) rfl))) (by decide) (t := (.object "java/lang/Object")) (t' := .int) (by decide) (by decide)))) (Or.inr (slot_ne (Or.inl (hw _ (List.mem_of_getElem? (i := 24) rfl))) (Or.inl (hw _ (List.mem_of_getElem? (i := 22) rfl))) (by decide) (t := (.object "java/lang/Object")) (t' := .int) (by decide) (by decide)))) (Exa.keep E_a1 K21) (Or.inl (hw _ (List.mem_of_getElem? (i := 24) rfl))) (hw _ (List.mem_of_getElem? (i := 4) rfl)) (ty := (.object "java/lang/Object")) (by decide) rfl rfl (g := (mkF m 86 #[.val (.ref a1), .val (.int p2), .val (.ref a3)] [(.ref a3), (.ref a1)])) rfl rfl (hb hby d4_86)
  refine OwnR.of (st22) ?_
  have F22 := Fld.same W22 (Fld.other W21 (Fld.other W19 (Fld.other W17 (Fld.other W14 (Fld.other W11 ((Fld.other W7 (F_last_a1.keep P6_0 nin0) (Or.inr (slot_ne (Or.inl (hw _ (List.mem_of_getElem? (i := 24) rfl))) (Or.inl (hw _ (List.mem_of_getElem? (i := 29) rfl))) (by decide) (t := (.object "java/lang/Object")) (t' := (.array (.object "java/lang/Object"))) (by decide) (by decide)))).keep P10_0 nin0) (Or.inr (slot_ne (Or.inl (hw _ (List.mem_of_getElem? (i := 24) rfl))) (Or.inl (hw _ (List.mem_of_getElem? (i := 32) rfl))) (by decide) (t := (.object "java/lang/Object")) (t' := (.array .int)) (by decide) (by decide)))) (Or.inl (Nat.ne_of_lt (Nat.lt_of_lt_of_le E_a1.lt P6_4)))) (Or.inl (Nat.ne_of_lt (Nat.lt_of_lt_of_le (Exa.keep E_a1 K7).lt P10_2)))) (Or.inr (slot_ne (Or.inl (hw _ (List.mem_of_getElem? (i := 24) rfl))) (Or.inl (hw _ (List.mem_of_getElem? (i := 34) rfl))) (by decide) (t := (.object "java/lang/Object")) (t' := .int) (by decide) (by decide)))) (Or.inr (slot_ne (Or.inl (hw _ (List.mem_of_getElem? (i := 24) rfl))) (Or.inl (hw _ (List.mem_of_getElem? (i := 22) rfl))) (by decide) (t := (.object "java/lang/Object")) (t' := .int) (by decide) (by decide))))
  have K22 : Keep h0 h22 [a1] := Keep.wr K21 W22 (Or.inl (List.mem_of_getElem? (i := 0) rfl))
  have N22 := Fr.snoc X22 N21 g_a1
  show OwnR _ _ _ _ _ _ _ (T22.setTop (mkF m 89 #[.val (.ref a1), .val (.int p2), .val (.ref a3)] []))
  refine own_leafV X22 hx hlk Bd.returns (hb hby d4_89) (by decide) (by decide) ?_
  show QT_2 Z a1 p2 a3 pl el0 el1 f0 f1 h0 n0 _ T22.heap _
  rw [show T22.heap = h22 from e22]
  refine ⟨b_6, kb_6, b_10, kb_10, rfl, N22, ⟨K22, (Exa.keep E_a1 K22), (Fld.other W22 (Fld.other W21 (Fld.other W19 (Fld.other W17 (Fld.other W14 (Fld.other W11 ((Fld.other W7 (F_pageLength_a1.keep P6_0 nin0) (Or.inr (slot_ne (Or.inr (hw _ (List.mem_of_getElem? (i := 20) rfl))) (Or.inl (hw _ (List.mem_of_getElem? (i := 29) rfl))) (by decide) (t := .int) (t' := (.array (.object "java/lang/Object"))) (by decide) (by decide)))).keep P10_0 nin0) (Or.inr (slot_ne (Or.inr (hw _ (List.mem_of_getElem? (i := 20) rfl))) (Or.inl (hw _ (List.mem_of_getElem? (i := 32) rfl))) (by decide) (t := .int) (t' := (.array .int)) (by decide) (by decide)))) (Or.inl (Nat.ne_of_lt (Nat.lt_of_lt_of_le E_a1.lt P6_4)))) (Or.inl (Nat.ne_of_lt (Nat.lt_of_lt_of_le (Exa.keep E_a1 K7).lt P10_2)))) (Or.inr (slot_ne (Or.inr (hw _ (List.mem_of_getElem? (i := 20) rfl))) (Or.inl (hw _ (List.mem_of_getElem? (i := 34) rfl))) (by decide) (t := .int) (t' := .int) (by decide) (by decide)))) (Or.inr (slot_ne (Or.inr (hw _ (List.mem_of_getElem? (i := 20) rfl))) (Or.inl (hw _ (List.mem_of_getElem? (i := 22) rfl))) (by decide) (t := .int) (t' := .int) (by decide) (by decide)))) (Or.inr (slot_ne (Or.inr (hw _ (List.mem_of_getElem? (i := 20) rfl))) (Or.inl (hw _ (List.mem_of_getElem? (i := 24) rfl))) (by decide) (t := .int) (t' := (.object "java/lang/Object")) (by decide) (by decide)))), (Fld.other W22 F21 (Or.inr (slot_ne (Or.inl (hw _ (List.mem_of_getElem? (i := 22) rfl))) (Or.inl (hw _ (List.mem_of_getElem? (i := 24) rfl))) (by decide) (t := .int) (t' := (.object "java/lang/Object")) (by decide) (by decide)))), F22, (Fld.other W22 (Fld.other W21 (Fld.other W19 (Fld.other W17 (Fld.other W14 (Fld.other W11 (F7.keep P10_0 nin0) (Or.inr (slot_ne (Or.inl (hw _ (List.mem_of_getElem? (i := 29) rfl))) (Or.inl (hw _ (List.mem_of_getElem? (i := 32) rfl))) (by decide) (t := (.array (.object "java/lang/Object"))) (t' := (.array .int)) (by decide) (by decide)))) (Or.inl (Nat.ne_of_lt (Nat.lt_of_lt_of_le E_a1.lt P6_4)))) (Or.inl (Nat.ne_of_lt (Nat.lt_of_lt_of_le (Exa.keep E_a1 K7).lt P10_2)))) (Or.inr (slot_ne (Or.inl (hw _ (List.mem_of_getElem? (i := 29) rfl))) (Or.inl (hw _ (List.mem_of_getElem? (i := 34) rfl))) (by decide) (t := (.array (.object "java/lang/Object"))) (t' := .int) (by decide) (by decide)))) (Or.inr (slot_ne (Or.inl (hw _ (List.mem_of_getElem? (i := 29) rfl))) (Or.inl (hw _ (List.mem_of_getElem? (i := 22) rfl))) (by decide) (t := (.array (.object "java/lang/Object"))) (t' := .int) (by decide) (by decide)))) (Or.inr (slot_ne (Or.inl (hw _ (List.mem_of_getElem? (i := 29) rfl))) (Or.inl (hw _ (List.mem_of_getElem? (i := 24) rfl))) (by decide) (t := (.array (.object "java/lang/Object"))) (t' := (.object "java/lang/Object")) (by decide) (by decide)))), (Fld.other W22 (Fld.other W21 (Fld.other W19 (Fld.other W17 (Fld.other W14 F11 (Or.inl (Nat.ne_of_lt (Nat.lt_of_lt_of_le E_a1.lt P6_4)))) (Or.inl (Nat.ne_of_lt (Nat.lt_of_lt_of_le (Exa.keep E_a1 K7).lt P10_2)))) (Or.inr (slot_ne (Or.inl (hw _ (List.mem_of_getElem? (i := 32) rfl))) (Or.inl (hw _ (List.mem_of_getElem? (i := 34) rfl))) (by decide) (t := (.array .int)) (t' := .int) (by decide) (by decide)))) (Or.inr (slot_ne (Or.inl (hw _ (List.mem_of_getElem? (i := 32) rfl))) (Or.inl (hw _ (List.mem_of_getElem? (i := 22) rfl))) (by decide) (t := (.array .int)) (t' := .int) (by decide) (by decide)))) (Or.inr (slot_ne (Or.inl (hw _ (List.mem_of_getElem? (i := 32) rfl))) (Or.inl (hw _ (List.mem_of_getElem? (i := 24) rfl))) (by decide) (t := (.array .int)) (t' := (.object "java/lang/Object")) (by decide) (by decide)))), (Fld.other W22 (Fld.other W21 F19 (Or.inr (slot_ne (Or.inl (hw _ (List.mem_of_getElem? (i := 34) rfl))) (Or.inl (hw _ (List.mem_of_getElem? (i := 22) rfl))) (by decide) (t := .int) (t' := .int) (by decide) (by decide)))) (Or.inr (slot_ne (Or.inl (hw _ (List.mem_of_getElem? (i := 34) rfl))) (Or.inl (hw _ (List.mem_of_getElem? (i := 24) rfl))) (by decide) (t := .int) (t' := (.object "java/lang/Object")) (by decide) (by decide)))), (Arv.other (Arv.other (Arv.other (Arv.other V14 W17 (Nat.ne_of_lt (Nat.lt_of_lt_of_le (Exa.wr W7 P6_3).lt P10_2))) W19 (Ne.symm (Nat.ne_of_lt (Nat.lt_of_lt_of_le E_a1.lt P6_4)))) W21 (Ne.symm (Nat.ne_of_lt (Nat.lt_of_lt_of_le E_a1.lt P6_4)))) W22 (Ne.symm (Nat.ne_of_lt (Nat.lt_of_lt_of_le E_a1.lt P6_4)))), P6_2, (Exa.wr W22 (Exa.wr W21 (Exa.wr W19 (Exa.wr W17 (Exa.wr W14 (Exa.wr W11 ((Exa.wr W7 P6_3).keep P10_0))))))), (Arv.other (Arv.other (Arv.other V17 W19 (Ne.symm (Nat.ne_of_lt (Nat.lt_of_lt_of_le (Exa.keep E_a1 K7).lt P10_2)))) W21 (Ne.symm (Nat.ne_of_lt (Nat.lt_of_lt_of_le (Exa.keep E_a1 K7).lt P10_2)))) W22 (Ne.symm (Nat.ne_of_lt (Nat.lt_of_lt_of_le (Exa.keep E_a1 K7).lt P10_2)))), sz_b_6, P6_5, sz_b_10, P10_3⟩⟩
theorem ef_rmI (m : MethodId) (x0 : Addr) (x1 : Addr) (x2 : Int32) (x3 : Int32) : entryFrame m #[(.ref x0), (.ref x1), (.int x2), (.int x3)] 4 = mkF m 0 #[.val (.ref x0), .val (.ref x1), .val (.int x2), .val (.int x3)] [] := by first | (simp [entryFrame, mkF, argsToLocals, Value.category]; done) | rfl
theorem d2_0 : decode prog_34_method_1_code 0 = .ok (.aload_n 0, 1) := by decide +kernel
theorem d2_1 : decode prog_34_method_1_code 1 = .ok (.invokespecial 1, 3) := by decide +kernel
theorem d2_4 : decode prog_34_method_1_code 4 = .ok (.aload_n 0, 1) := by decide +kernel
theorem d2_5 : decode prog_34_method_1_code 5 = .ok (.iload_n 3, 1) := by decide +kernel
theorem d2_6 : decode prog_34_method_1_code 6 = .ok (.putfield 7, 3) := by decide +kernel
theorem d2_9 : decode prog_34_method_1_code 9 = .ok (.aload_n 0, 1) := by decide +kernel
theorem d2_10 : decode prog_34_method_1_code 10 = .ok (.iload_n 2, 1) := by decide +kernel
theorem d2_11 : decode prog_34_method_1_code 11 = .ok (.putfield 13, 3) := by decide +kernel
theorem d2_14 : decode prog_34_method_1_code 14 = .ok (.aload_n 0, 1) := by decide +kernel
theorem d2_15 : decode prog_34_method_1_code 15 = .ok (.aload_n 1, 1) := by decide +kernel
theorem d2_16 : decode prog_34_method_1_code 16 = .ok (.putfield 16, 3) := by decide +kernel
theorem d2_19 : decode prog_34_method_1_code 19 = .ok (.aload_n 0, 1) := by decide +kernel
theorem d2_20 : decode prog_34_method_1_code 20 = .ok (.iconst 1, 1) := by decide +kernel
theorem d2_21 : decode prog_34_method_1_code 21 = .ok (.anewarray 2, 3) := by decide +kernel
theorem d2_24 : decode prog_34_method_1_code 24 = .ok (.dup, 1) := by decide +kernel
theorem d2_25 : decode prog_34_method_1_code 25 = .ok (.iconst 0, 1) := by decide +kernel
theorem d2_26 : decode prog_34_method_1_code 26 = .ok (.aload_n 1, 1) := by decide +kernel
theorem d2_27 : decode prog_34_method_1_code 27 = .ok (.aastore, 1) := by decide +kernel
theorem d2_28 : decode prog_34_method_1_code 28 = .ok (.putfield 20, 3) := by decide +kernel
theorem d2_31 : decode prog_34_method_1_code 31 = .ok (.aload_n 0, 1) := by decide +kernel
theorem d2_32 : decode prog_34_method_1_code 32 = .ok (.iconst 1, 1) := by decide +kernel
theorem d2_33 : decode prog_34_method_1_code 33 = .ok (.newarray .int, 2) := by decide +kernel
theorem d2_35 : decode prog_34_method_1_code 35 = .ok (.putfield 24, 3) := by decide +kernel
theorem d2_38 : decode prog_34_method_1_code 38 = .ok (.aload_n 0, 1) := by decide +kernel
theorem d2_39 : decode prog_34_method_1_code 39 = .ok (.iconst 1, 1) := by decide +kernel
theorem d2_40 : decode prog_34_method_1_code 40 = .ok (.putfield 28, 3) := by decide +kernel
theorem d2_43 : decode prog_34_method_1_code 43 = .ok (.return_, 1) := by decide +kernel
def QI (Z : State) (a1 : Addr) (a2 : Addr) (p3 : Int32) (p4 : Int32) (h0 : Heap) (n0 : Nat) (v : Option Value) (h : Heap) (L : List Loc) : Prop := ∃ (b : Addr) (kb : ClassId) (c : Addr) (kc : ClassId), v = none ∧ Fr n0 L ∧ Keep h0 h [a1] ∧ Exa Z h a1 "com/example/tercet/tercet/core/Pages" ∧ Fld Z h a1 "com/example/tercet/tercet/core/Pages" "pageLength" "I" (.int p4) ∧ Fld Z h a1 "com/example/tercet/tercet/core/Pages" "limit" "I" (.int p3) ∧ Fld Z h a1 "com/example/tercet/tercet/core/Pages" "last" "Ljava/lang/Object;" (.ref a2) ∧ Fld Z h a1 "com/example/tercet/tercet/core/Pages" "pages" "[Ljava/lang/Object;" (.ref b) ∧ Fld Z h a1 "com/example/tercet/tercet/core/Pages" "firsts" "[I" (.ref c) ∧ Fld Z h a1 "com/example/tercet/tercet/core/Pages" "count" "I" (.int (1 : Int32)) ∧ Arv Z h b kb (.object "java/lang/Object") (1 : Int32) [(.ref a2)] .null ∧ Exa Z h b "[Ljava/lang/Object;" ∧ Arv Z h c kc .int (1 : Int32) [(.int (0 : Int32))] (.int (0 : Int32)) ∧ h0.size ≤ b ∧ n0 ≤ b ∧ h0.size ≤ c ∧ n0 ≤ c
set_option maxRecDepth 65536 in
set_option maxHeartbeats 40000000 in
theorem rmI (l : Launch) (Z : State) (a0 : Array Value) (hw : ∀ d ∈ tables_1, d.before a0 Z = true) (ws : List Jvm.Cond) (a1 : Addr) (a2 : Addr) (p3 : Int32) (p4 : Int32) (h0 : Heap) (n0 : Nat) (Z0 : n0 ≤ h0.size) (E_a1 : Exa Z h0 a1 "com/example/tercet/tercet/core/Pages") (F_pageLength_a1 : Fld Z h0 a1 "com/example/tercet/tercet/core/Pages" "pageLength" "I" (.int (0 : Int32))) (F_limit_a1 : Fld Z h0 a1 "com/example/tercet/tercet/core/Pages" "limit" "I" (.int (0 : Int32))) (F_last_a1 : Fld Z h0 a1 "com/example/tercet/tercet/core/Pages" "last" "Ljava/lang/Object;" .null) (F_pages_a1 : Fld Z h0 a1 "com/example/tercet/tercet/core/Pages" "pages" "[Ljava/lang/Object;" .null) (F_firsts_a1 : Fld Z h0 a1 "com/example/tercet/tercet/core/Pages" "firsts" "[I" .null) (F_count_a1 : Fld Z h0 a1 "com/example/tercet/tercet/core/Pages" "count" "I" (.int (0 : Int32))) (E_a2 : Exa Z h0 a2 "java/lang/Integer") (g_a1 : n0 ≤ a1) :
    MetFree l (⟨"com/example/tercet/tercet/core/Pages", "<init>", "(Ljava/lang/Object;II)V"⟩ : MethodName) (head1 (Jvm.Cond.code (⟨"com/example/tercet/tercet/core/Pages", "<init>", "(Ljava/lang/Object;II)V"⟩ : MethodName) prog_34_method_1_code 4 none :: ws) ({ frames := 1, cells := 2, slots := 2, locals := 16 } : Room)) (fun a U => a = #[(.ref a1), (.ref a2), (.int p3), (.int p4)] ∧ Z.Warmed39 U.vm ∧ U.heap = h0) (fun _ _ _ _ _ => True) (fun _ U o U' => ∃ v L, o = .returned v ∧ QI Z a1 a2 p3 p4 h0 n0 v U'.heap L ∧ FrameEnd U o U' L ({ frames := 1, cells := 2, slots := 2, locals := 16 } : Room).cells ({ frames := 1, cells := 2, slots := 2, locals := 16 } : Room).slots) := by
  refine MetFree.of_bodySF (plainFor_of_name pn_com_example_tercet_tercet_core_Pages) hisR ?_
  intro p e s m args below meth c s₁ Bd hml0 hP hK
  obtain ⟨rfl, hZ, hh⟩ := hP
  have hx := Bd.exec
  have hby := Bd.bytes
  have hlk := BodyLoose.notSynchronized Bd
  have hml : c.maxLocals = 4 := hml0
  have hown : s.vm.findClass "com/example/tercet/tercet/core/Pages" = some m.cls := findClass_of_methodNamed Bd.named
  have hnm := (name_of_methodNamed Bd.named Bd.method).1
  have X0 : Stand p l e ({ frames := 1, cells := 2, slots := 2, locals := 16 } : Room) s m #[(.ref a1), (.ref a2), (.int p3), (.int p4)] below meth c s₁ [] 0 0 := Stand.of_body Bd
  have e0 : s₁.heap = h0 := by rw [← hh, Bd.state]; rfl
  have N0 := Fr.nil n0
  refine OwnR.of (s := s) (Q := QI Z a1 a2 p3 p4 h0 n0) (fun t k => castTop (ef_rmI m a1 a2 p3 p4) k) ?_
  show OwnR _ _ _ _ _ _ _ (s₁.setTop (mkF m 0 #[.val (.ref a1), .val (.ref a2), .val (.int p3), .val (.int p4)] []))
  refine OwnR.of (fun _ hr => XS.aloadN X0.here hx rfl (hb hby d2_0) rfl rfl hr) ?_
  show OwnR _ _ _ _ _ _ _ (s₁.setTop (mkF m 1 #[.val (.ref a1), .val (.ref a2), .val (.int p3), .val (.int p4)] [(.ref a1)]))
  obtain ⟨T1, X1, e1, st1⟩ := initO X0 hx hZ hown (hw _ (List.mem_of_getElem? (i := 16) rfl)) (hw _ (List.mem_of_getElem? (i := 17) rfl)) (hw _ (List.mem_of_getElem? (i := 18) rfl)) e0 (g := (mkF m 1 #[.val (.ref a1), .val (.ref a2), .val (.int p3), .val (.int p4)] [(.ref a1)])) rfl (by rw [hml]; rfl) rfl (hb hby d2_1) (by decide) (W := 0) (by show 2 * 0 + _ ≤ _; exact Nat.le_of_eq rfl) (by decide)
  refine OwnR.of (st1) ?_
  show OwnR _ _ _ _ _ _ _ (T1.setTop (mkF m 4 #[.val (.ref a1), .val (.ref a2), .val (.int p3), .val (.int p4)] []))
  refine OwnR.of (fun _ hr => XS.aloadN X1.here hx rfl (hb hby d2_4) rfl rfl hr) ?_
  show OwnR _ _ _ _ _ _ _ (T1.setTop (mkF m 5 #[.val (.ref a1), .val (.ref a2), .val (.int p3), .val (.int p4)] [(.ref a1)]))
  refine OwnR.of (fun _ hr => XS.iloadN X1.here hx rfl (hb hby d2_5) rfl hr) ?_
  show OwnR _ _ _ _ _ _ _ (T1.setTop (mkF m 6 #[.val (.ref a1), .val (.ref a2), .val (.int p3), .val (.int p4)] [(.int p4), (.ref a1)]))
  obtain ⟨T2, h2, X2, e2, W2, st2⟩ := putF X1 hx hZ hown (host := "") (Or.inl (hw _ (List.mem_of_getElem? (i := 19) rfl))) Via.refl e1 F_pageLength_a1 E_a1 (Or.inr ⟨(hw _ (List.mem_of_getElem? (i := 20) rfl)), rfl, hnm⟩) (hw _ (List.mem_of_getElem? (i := 4) rfl)) (ty := .int) (by decide) rfl rfl (g := (mkF m 6 #[.val (.ref a1), .val (.ref a2), .val (.int p3), .val (.int p4)] [(.int p4), (.ref a1)])) rfl rfl (hb hby d2_6)
  refine OwnR.of (st2) ?_
  have F2 := Fld.same W2 F_pageLength_a1
  have K2 : Keep h0 h2 [a1] := Keep.wr (Keep.refl h0 [a1]) W2 (Or.inl (List.mem_of_getElem? (i := 0) rfl))
  have N2 := Fr.snoc X2 N0 g_a1
  show OwnR _ _ _ _ _ _ _ (T2.setTop (mkF m 9 #[.val (.ref a1), .val (.ref a2), .val (.int p3), .val (.int p4)] []))
  refine OwnR.of (fun _ hr => XS.aloadN X2.here hx rfl (hb hby d2_9) rfl rfl hr) ?_
  show OwnR _ _ _ _ _ _ _ (T2.setTop (mkF m 10 #[.val (.ref a1), .val (.ref a2), .val (.int p3), .val (.int p4)] [(.ref a1)]))
  refine OwnR.of (fun _ hr => XS.iloadN X2.here hx rfl (hb hby d2_10) rfl hr) ?_
  show OwnR _ _ _ _ _ _ _ (T2.setTop (mkF m 11 #[.val (.ref a1), .val (.ref a2), .val (.int p3), .val (.int p4)] [(.int p3), (.ref a1)]))
  obtain ⟨T3, h3, X3, e3, W3, st3⟩ := putF X2 hx hZ hown (host := "") (Or.inl (hw _ (List.mem_of_getElem? (i := 21) rfl))) Via.refl e2 (Fld.other W2 F_limit_a1 (Or.inr (slot_ne (Or.inl (hw _ (List.mem_of_getElem? (i := 22) rfl))) (Or.inr (hw _ (List.mem_of_getElem? (i := 20) rfl))) (by decide) (t := .int) (t' := .int) (by decide) (by decide)))) (Exa.keep E_a1 K2) (Or.inl (hw _ (List.mem_of_getElem? (i := 22) rfl))) (hw _ (List.mem_of_getElem? (i := 4) rfl)) (ty := .int) (by decide) rfl rfl (g := (mkF m 11 #[.val (.ref a1), .val (.ref a2), .val (.int p3), .val (.int p4)] [(.int p3), (.ref a1)])) rfl rfl (hb hby d2_11)
  refine OwnR.of (st3) ?_
  have F3 := Fld.same W3 (Fld.other W2 F_limit_a1 (Or.inr (slot_ne (Or.inl (hw _ (List.mem_of_getElem? (i := 22) rfl))) (Or.inr (hw _ (List.mem_of_getElem? (i := 20) rfl))) (by decide) (t := .int) (t' := .int) (by decide) (by decide))))
  have K3 : Keep h0 h3 [a1] := Keep.wr K2 W3 (Or.inl (List.mem_of_getElem? (i := 0) rfl))
  have N3 := Fr.snoc X3 N2 g_a1
  show OwnR _ _ _ _ _ _ _ (T3.setTop (mkF m 14 #[.val (.ref a1), .val (.ref a2), .val (.int p3), .val (.int p4)] []))
  refine OwnR.of (fun _ hr => XS.aloadN X3.here hx rfl (hb hby d2_14) rfl rfl hr) ?_
  show OwnR _ _ _ _ _ _ _ (T3.setTop (mkF m 15 #[.val (.ref a1), .val (.ref a2), .val (.int p3), .val (.int p4)] [(.ref a1)]))
  refine OwnR.of (fun _ hr => XS.aloadN X3.here hx rfl (hb hby d2_15) rfl rfl hr) ?_
  show OwnR _ _ _ _ _ _ _ (T3.setTop (mkF m 16 #[.val (.ref a1), .val (.ref a2), .val (.int p3), .val (.int p4)] [(.ref a2), (.ref a1)]))
  obtain ⟨T4, h4, X4, e4, W4, st4⟩ := putF X3 hx hZ hown (host := "") (Or.inl (hw _ (List.mem_of_getElem? (i := 23) rfl))) Via.refl e3 (Fld.other W3 (Fld.other W2 F_last_a1 (Or.inr (slot_ne (Or.inl (hw _ (List.mem_of_getElem? (i := 24) rfl))) (Or.inr (hw _ (List.mem_of_getElem? (i := 20) rfl))) (by decide) (t := (.object "java/lang/Object")) (t' := .int) (by decide) (by decide)))) (Or.inr (slot_ne (Or.inl (hw _ (List.mem_of_getElem? (i := 24) rfl))) (Or.inl (hw _ (List.mem_of_getElem? (i := 22) rfl))) (by decide) (t := (.object "java/lang/Object")) (t' := .int) (by decide) (by decide)))) (Exa.keep E_a1 K3) (Or.inl (hw _ (List.mem_of_getElem? (i := 24) rfl))) (hw _ (List.mem_of_getElem? (i := 4) rfl)) (ty := (.object "java/lang/Object")) (by decide) rfl rfl (g := (mkF m 16 #[.val (.ref a1), .val (.ref a2), .val (.int p3), .val (.int p4)] [(.ref a2), (.ref a1)])) rfl rfl (hb hby d2_16)
  refine OwnR.of (st4) ?_
  have F4 := Fld.same W4 (Fld.other W3 (Fld.other W2 F_last_a1 (Or.inr (slot_ne (Or.inl (hw _ (List.mem_of_getElem? (i := 24) rfl))) (Or.inr (hw _ (List.mem_of_getElem? (i := 20) rfl))) (by decide) (t := (.object "java/lang/Object")) (t' := .int) (by decide) (by decide)))) (Or.inr (slot_ne (Or.inl (hw _ (List.mem_of_getElem? (i := 24) rfl))) (Or.inl (hw _ (List.mem_of_getElem? (i := 22) rfl))) (by decide) (t := (.object "java/lang/Object")) (t' := .int) (by decide) (by decide))))
  have K4 : Keep h0 h4 [a1] := Keep.wr K3 W4 (Or.inl (List.mem_of_getElem? (i := 0) rfl))
  have N4 := Fr.snoc X4 N3 g_a1
  show OwnR _ _ _ _ _ _ _ (T4.setTop (mkF m 19 #[.val (.ref a1), .val (.ref a2), .val (.int p3), .val (.int p4)] []))
  refine OwnR.of (fun _ hr => XS.aloadN X4.here hx rfl (hb hby d2_19) rfl rfl hr) ?_
  show OwnR _ _ _ _ _ _ _ (T4.setTop (mkF m 20 #[.val (.ref a1), .val (.ref a2), .val (.int p3), .val (.int p4)] [(.ref a1)]))
  refine OwnR.of (fun _ hr => XS.iconst X4.here hx rfl (hb hby d2_20) hr) ?_
  show OwnR _ _ _ _ _ _ _ (T4.setTop (mkF m 21 #[.val (.ref a1), .val (.ref a2), .val (.int p3), .val (.int p4)] [(.int (1 : Int32)), (.ref a1)]))
  obtain ⟨T5, h5, k5, X5, e5, E5, A5, AE5, O5, st5⟩ := newRE X4 hx hZ hown (hw _ (List.mem_of_getElem? (i := 25) rfl)) (hw _ (List.mem_of_getElem? (i := 26) rfl)) e4 (g := (mkF m 21 #[.val (.ref a1), .val (.ref a2), .val (.int p3), .val (.int p4)] [(.int (1 : Int32)), (.ref a1)])) rfl (hb hby d2_21) rfl (by decide) (cap := 1) (by decide) (by decide) (by decide) (by decide) (ad := "[Ljava/lang/Object;") rfl
  obtain ⟨b5, g5⟩ : ∃ z, z = h4.size := ⟨_, rfl⟩
  rw [← g5] at A5 AE5 st5
  refine OwnR.of (st5) ?_
  have gn_b5 : n0 ≤ b5 := Nat.le_trans (Nat.le_trans Z0 K4.1) (Nat.le_of_eq g5.symm)
  have sz_b5 : h0.size ≤ b5 := Nat.le_trans K4.1 (Nat.le_of_eq g5.symm)
  have K5 : Keep h0 h5 [a1] := Keep.ext K4 E5
  have V5 : Arv Z h5 b5 k5 (.object "java/lang/Object") (1 : Int32) [.null] .null := (Arv.new A5 (by decide)).pad (pad_rep [] .null 1)
  show OwnR _ _ _ _ _ _ _ (T5.setTop (mkF m 24 #[.val (.ref a1), .val (.ref a2), .val (.int p3), .val (.int p4)] [(.ref b5), (.ref a1)]))
  refine OwnR.of (fun _ hr => XS.dup X5.here hx rfl (hb hby d2_24) rfl rfl hr) ?_
  show OwnR _ _ _ _ _ _ _ (T5.setTop (mkF m 25 #[.val (.ref a1), .val (.ref a2), .val (.int p3), .val (.int p4)] [(.ref b5), (.ref b5), (.ref a1)]))
  refine OwnR.of (fun _ hr => XS.iconst X5.here hx rfl (hb hby d2_25) hr) ?_
  show OwnR _ _ _ _ _ _ _ (T5.setTop (mkF m 26 #[.val (.ref a1), .val (.ref a2), .val (.int p3), .val (.int p4)] [(.int (0 : Int32)), (.ref b5), (.ref b5), (.ref a1)]))
  refine OwnR.of (fun _ hr => XS.aloadN X5.here hx rfl (hb hby d2_26) rfl rfl hr) ?_
  show OwnR _ _ _ _ _ _ _ (T5.setTop (mkF m 27 #[.val (.ref a1), .val (.ref a2), .val (.int p3), .val (.int p4)] [(.ref a2), (.int (0 : Int32)), (.ref b5), (.ref b5), (.ref a1)]))
  obtain ⟨cl6, Ar6, q6, S6, N6q, H6, G6⟩ := id V5
  have hin6 : ¬ ((0 : Int32) < 0 ∨ cl6.slots.size ≤ ((0 : Int32)).toNatClampNeg) := (inb_of S6 ⟨by decide, by decide⟩)
  obtain ⟨T6, h6, X6, e6, W6, st6⟩ := stR X5 hx hZ e5 Ar6 (j := (0 : Int32)) hin6 rfl (Sto.ofV Ar6 q6 O5 (Ins.of_exa (Exa.keep E_a2 K5) (hw _ (List.mem_of_getElem? (i := 27) rfl)))) (g := (mkF m 27 #[.val (.ref a1), .val (.ref a2), .val (.int p3), .val (.int p4)] [(.ref a2), (.int (0 : Int32)), (.ref b5), (.ref b5), (.ref a1)])) rfl rfl (hb hby d2_27)
  refine OwnR.of (st6) ?_
  have V6 := Arv.set Ar6 q6 S6 N6q H6 G6 rfl W6 0 rfl (Nat.le_of_ble_eq_true rfl)
  have V6 : Arv Z h6 b5 k5 (.object "java/lang/Object") (1 : Int32) [(.ref a2)] .null := V6
  have K6 : Keep h0 h6 [a1] := Keep.wr K5 W6 (Or.inr sz_b5)
  have N6 := Fr.snoc X6 N4 gn_b5
  show OwnR _ _ _ _ _ _ _ (T6.setTop (mkF m 28 #[.val (.ref a1), .val (.ref a2), .val (.int p3), .val (.int p4)] [(.ref b5), (.ref a1)]))
  obtain ⟨T7, h7, X7, e7, W7, st7⟩ := putF X6 hx hZ hown (host := "") (Or.inl (hw _ (List.mem_of_getElem? (i := 28) rfl))) Via.refl e6 (Fld.other W6 (Fld.ext E5 (Fld.other W4 (Fld.other W3 (Fld.other W2 F_pages_a1 (Or.inr (slot_ne (Or.inl (hw _ (List.mem_of_getElem? (i := 29) rfl))) (Or.inr (hw _ (List.mem_of_getElem? (i := 20) rfl))) (by decide) (t := (.array (.object "java/lang/Object"))) (t' := .int) (by decide) (by decide)))) (Or.inr (slot_ne (Or.inl (hw _ (List.mem_of_getElem? (i := 29) rfl))) (Or.inl (hw _ (List.mem_of_getElem? (i := 22) rfl))) (by decide) (t := (.array (.object "java/lang/Object"))) (t' := .int) (by decide) (by decide)))) (Or.inr (slot_ne (Or.inl (hw _ (List.mem_of_getElem? (i := 29) rfl))) (Or.inl (hw _ (List.mem_of_getElem? (i := 24) rfl))) (by decide) (t := (.array (.object "java/lang/Object"))) (t' := (.object "java/lang/Object")) (by decide) (by decide))))) (Or.inl (Nat.ne_of_lt (Nat.lt_of_lt_of_le (Exa.keep E_a1 K4).lt (Nat.le_of_eq g5.symm))))) (Exa.keep E_a1 K6) (Or.inl (hw _ (List.mem_of_getElem? (i := 29) rfl))) (hw _ (List.mem_of_getElem? (i := 4) rfl)) (ty := (.array (.object "java/lang/Object"))) (by decide) rfl rfl (g := (mkF m 28 #[.val (.ref a1), .val (.ref a2), .val (.int p3), .val (.int p4)] [(.ref b5), (.ref a1)])) rfl rfl (hb hby d2_28)
  refine OwnR.of (st7) ?_
  have F7 := Fld.same W7 (Fld.other W6 (Fld.ext E5 (Fld.other W4 (Fld.other W3 (Fld.other W2 F_pages_a1 (Or.inr (slot_ne (Or.inl (hw _ (List.mem_of_getElem? (i := 29) rfl))) (Or.inr (hw _ (List.mem_of_getElem? (i := 20) rfl))) (by decide) (t := (.array (.object "java/lang/Object"))) (t' := .int) (by decide) (by decide)))) (Or.inr (slot_ne (Or.inl (hw _ (List.mem_of_getElem? (i := 29) rfl))) (Or.inl (hw _ (List.mem_of_getElem? (i := 22) rfl))) (by decide) (t := (.array (.object "java/lang/Object"))) (t' := .int) (by decide) (by decide)))) (Or.inr (slot_ne (Or.inl (hw _ (List.mem_of_getElem? (i := 29) rfl))) (Or.inl (hw _ (List.mem_of_getElem? (i := 24) rfl))) (by decide) (t := (.array (.object "java/lang/Object"))) (t' := (.object "java/lang/Object")) (by decide) (by decide))))) (Or.inl (Nat.ne_of_lt (Nat.lt_of_lt_of_le (Exa.keep E_a1 K4).lt (Nat.le_of_eq g5.symm)))))
  have K7 : Keep h0 h7 [a1] := Keep.wr K6 W7 (Or.inl (List.mem_of_getElem? (i := 0) rfl))
  have N7 := Fr.snoc X7 N6 g_a1
  show OwnR _ _ _ _ _ _ _ (T7.setTop (mkF m 31 #[.val (.ref a1), .val (.ref a2), .val (.int p3), .val (.int p4)] []))
  refine OwnR.of (fun _ hr => XS.aloadN X7.here hx rfl (hb hby d2_31) rfl rfl hr) ?_
  show OwnR _ _ _ _ _ _ _ (T7.setTop (mkF m 32 #[.val (.ref a1), .val (.ref a2), .val (.int p3), .val (.int p4)] [(.ref a1)]))
  refine OwnR.of (fun _ hr => XS.iconst X7.here hx rfl (hb hby d2_32) hr) ?_
  show OwnR _ _ _ _ _ _ _ (T7.setTop (mkF m 33 #[.val (.ref a1), .val (.ref a2), .val (.int p3), .val (.int p4)] [(.int (1 : Int32)), (.ref a1)]))
  obtain ⟨T8, h8, k8, X8, e8, E8, A8, AE8, st8⟩ := newPE X7 hx hZ (hw _ (List.mem_of_getElem? (i := 30) rfl)) e7 (g := (mkF m 33 #[.val (.ref a1), .val (.ref a2), .val (.int p3), .val (.int p4)] [(.int (1 : Int32)), (.ref a1)])) rfl (hb hby d2_33) rfl (by decide) (cap := 1) (by decide) (by decide) (by decide) (by decide) (ad := "[I") rfl
  obtain ⟨b8, g8⟩ : ∃ z, z = h7.size := ⟨_, rfl⟩
  rw [← g8] at A8 AE8 st8
  refine OwnR.of (st8) ?_
  have gn_b8 : n0 ≤ b8 := Nat.le_trans (Nat.le_trans Z0 K7.1) (Nat.le_of_eq g8.symm)
  have sz_b8 : h0.size ≤ b8 := Nat.le_trans K7.1 (Nat.le_of_eq g8.symm)
  have K8 : Keep h0 h8 [a1] := Keep.ext K7 E8
  have V8 : Arv Z h8 b8 k8 .int (1 : Int32) [(.int (0 : Int32))] (.int (0 : Int32)) := (Arv.new A8 (by decide)).pad (pad_rep [] (.int (0 : Int32)) 1)
  show OwnR _ _ _ _ _ _ _ (T8.setTop (mkF m 35 #[.val (.ref a1), .val (.ref a2), .val (.int p3), .val (.int p4)] [(.ref b8), (.ref a1)]))
  obtain ⟨T9, h9, X9, e9, W9, st9⟩ := putF X8 hx hZ hown (host := "") (Or.inl (hw _ (List.mem_of_getElem? (i := 31) rfl))) Via.refl e8 (Fld.ext E8 (Fld.other W7 (Fld.other W6 (Fld.ext E5 (Fld.other W4 (Fld.other W3 (Fld.other W2 F_firsts_a1 (Or.inr (slot_ne (Or.inl (hw _ (List.mem_of_getElem? (i := 32) rfl))) (Or.inr (hw _ (List.mem_of_getElem? (i := 20) rfl))) (by decide) (t := (.array .int)) (t' := .int) (by decide) (by decide)))) (Or.inr (slot_ne (Or.inl (hw _ (List.mem_of_getElem? (i := 32) rfl))) (Or.inl (hw _ (List.mem_of_getElem? (i := 22) rfl))) (by decide) (t := (.array .int)) (t' := .int) (by decide) (by decide)))) (Or.inr (slot_ne (Or.inl (hw _ (List.mem_of_getElem? (i := 32) rfl))) (Or.inl (hw _ (List.mem_of_getElem? (i := 24) rfl))) (by decide) (t := (.array .int)) (t' := (.object "java/lang/Object")) (by decide) (by decide))))) (Or.inl (Nat.ne_of_lt (Nat.lt_of_lt_of_le (Exa.keep E_a1 K4).lt (Nat.le_of_eq g5.symm))))) (Or.inr (slot_ne (Or.inl (hw _ (List.mem_of_getElem? (i := 32) rfl))) (Or.inl (hw _ (List.mem_of_getElem? (i := 29) rfl))) (by decide) (t := (.array .int)) (t' := (.array (.object "java/lang/Object"))) (by decide) (by decide))))) (Exa.keep E_a1 K8) (Or.inl (hw _ (List.mem_of_getElem? (i := 32) rfl))) (hw _ (List.mem_of_getElem? (i := 4) rfl)) (ty := (.array .int)) (by decide) rfl rfl (g := (mkF m 35 #[.val (.ref a1), .val (.ref a2), .val (.int p3), .val (.int p4)] [(.ref b8), (.ref a1)])) rfl rfl (hb hby d2_35)
  refine OwnR.of (st9) ?_
  have F9 := Fld.same W9 (Fld.ext E8 (Fld.other W7 (Fld.other W6 (Fld.ext E5 (Fld.other W4 (Fld.other W3 (Fld.other W2 F_firsts_a1 (Or.inr (slot_ne (Or.inl (hw _ (List.mem_of_getElem? (i := 32) rfl))) (Or.inr (hw _ (List.mem_of_getElem? (i := 20) rfl))) (by decide) (t := (.array .int)) (t' := .int) (by decide) (by decide)))) (Or.inr (slot_ne (Or.inl (hw _ (List.mem_of_getElem? (i := 32) rfl))) (Or.inl (hw _ (List.mem_of_getElem? (i := 22) rfl))) (by decide) (t := (.array .int)) (t' := .int) (by decide) (by decide)))) (Or.inr (slot_ne (Or.inl (hw _ (List.mem_of_getElem? (i := 32) rfl))) (Or.inl (hw _ (List.mem_of_getElem? (i := 24) rfl))) (by decide) (t := (.array .int)) (t' := (.object "java/lang/Object")) (by decide) (by decide))))) (Or.inl (Nat.ne_of_lt (Nat.lt_of_lt_of_le (Exa.keep E_a1 K4).lt (Nat.le_of_eq g5.symm))))) (Or.inr (slot_ne (Or.inl (hw _ (List.mem_of_getElem? (i := 32) rfl))) (Or.inl (hw _ (List.mem_of_getElem? (i := 29) rfl))) (by decide) (t := (.array .int)) (t' := (.array (.object "java/lang/Object"))) (by decide) (by decide)))))
  have K9 : Keep h0 h9 [a1] := Keep.wr K8 W9 (Or.inl (List.mem_of_getElem? (i := 0) rfl))
  have N9 := Fr.snoc X9 N7 g_a1
  show OwnR _ _ _ _ _ _ _ (T9.setTop (mkF m 38 #[.val (.ref a1), .val (.ref a2), .val (.int p3), .val (.int p4)] []))
  refine OwnR.of (fun _ hr => XS.aloadN X9.here hx rfl (hb hby d2_38) rfl rfl hr) ?_
  show OwnR _ _ _ _ _ _ _ (T9.setTop (mkF m 39 #[.val (.ref a1), .val (.ref a2), .val (.int p3), .val (.int p4)] [(.ref a1)]))
  refine OwnR.of (fun _ hr => XS.iconst X9.here hx rfl (hb hby d2_39) hr) ?_
  show OwnR _ _ _ _ _ _ _ (T9.setTop (mkF m 40 #[.val (.ref a1), .val (.ref a2), .val (.int p3), .val (.int p4)] [(.int (1 : Int32)), (.ref a1)]))
  obtain ⟨T10, h10, X10, e10, W10, st10⟩ := putF X9 hx hZ hown (host := "") (Or.inl (hw _ (List.mem_of_getElem? (i := 33) rfl))) Via.refl e9 (Fld.other W9 (Fld.ext E8 (Fld.other W7 (Fld.other W6 (Fld.ext E5 (Fld.other W4 (Fld.other W3 (Fld.other W2 F_count_a1 (Or.inr (slot_ne (Or.inl (hw _ (List.mem_of_getElem? (i := 34) rfl))) (Or.inr (hw _ (List.mem_of_getElem? (i := 20) rfl))) (by decide) (t := .int) (t' := .int) (by decide) (by decide)))) (Or.inr (slot_ne (Or.inl (hw _ (List.mem_of_getElem? (i := 34) rfl))) (Or.inl (hw _ (List.mem_of_getElem? (i := 22) rfl))) (by decide) (t := .int) (t' := .int) (by decide) (by decide)))) (Or.inr (slot_ne (Or.inl (hw _ (List.mem_of_getElem? (i := 34) rfl))) (Or.inl (hw _ (List.mem_of_getElem? (i := 24) rfl))) (by decide) (t := .int) (t' := (.object "java/lang/Object")) (by decide) (by decide))))) (Or.inl (Nat.ne_of_lt (Nat.lt_of_lt_of_le (Exa.keep E_a1 K4).lt (Nat.le_of_eq g5.symm))))) (Or.inr (slot_ne (Or.inl (hw _ (List.mem_of_getElem? (i := 34) rfl))) (Or.inl (hw _ (List.mem_of_getElem? (i := 29) rfl))) (by decide) (t := .int) (t' := (.array (.object "java/lang/Object"))) (by decide) (by decide))))) (Or.inr (slot_ne (Or.inl (hw _ (List.mem_of_getElem? (i := 34) rfl))) (Or.inl (hw _ (List.mem_of_getElem? (i := 32) rfl))) (by decide) (t := .int) (t' := (.array .int)) (by decide) (by decide)))) (Exa.keep E_a1 K9) (Or.inl (hw _ (List.mem_of_getElem? (i := 34) rfl))) (hw _ (List.mem_of_getElem? (i := 4) rfl)) (ty := .int) (by decide) rfl rfl (g := (mkF m 40 #[.val (.ref a1), .val (.ref a2), .val (.int p3), .val (.int p4)] [(.int (1 : Int32)), (.ref a1)])) rfl rfl (hb hby d2_40)
  refine OwnR.of (st10) ?_
  have F10 := Fld.same W10 (Fld.other W9 (Fld.ext E8 (Fld.other W7 (Fld.other W6 (Fld.ext E5 (Fld.other W4 (Fld.other W3 (Fld.other W2 F_count_a1 (Or.inr (slot_ne (Or.inl (hw _ (List.mem_of_getElem? (i := 34) rfl))) (Or.inr (hw _ (List.mem_of_getElem? (i := 20) rfl))) (by decide) (t := .int) (t' := .int) (by decide) (by decide)))) (Or.inr (slot_ne (Or.inl (hw _ (List.mem_of_getElem? (i := 34) rfl))) (Or.inl (hw _ (List.mem_of_getElem? (i := 22) rfl))) (by decide) (t := .int) (t' := .int) (by decide) (by decide)))) (Or.inr (slot_ne (Or.inl (hw _ (List.mem_of_getElem? (i := 34) rfl))) (Or.inl (hw _ (List.mem_of_getElem? (i := 24) rfl))) (by decide) (t := .int) (t' := (.object "java/lang/Object")) (by decide) (by decide))))) (Or.inl (Nat.ne_of_lt (Nat.lt_of_lt_of_le (Exa.keep E_a1 K4).lt (Nat.le_of_eq g5.symm))))) (Or.inr (slot_ne (Or.inl (hw _ (List.mem_of_getElem? (i := 34) rfl))) (Or.inl (hw _ (List.mem_of_getElem? (i := 29) rfl))) (by decide) (t := .int) (t' := (.array (.object "java/lang/Object"))) (by decide) (by decide))))) (Or.inr (slot_ne (Or.inl (hw _ (List.mem_of_getElem? (i := 34) rfl))) (Or.inl (hw _ (List.mem_of_getElem? (i := 32) rfl))) (by decide) (t := .int) (t' := (.array .int)) (by decide) (by decide))))
  have K10 : Keep h0 h10 [a1] := Keep.wr K9 W10 (Or.inl (List.mem_of_getElem? (i := 0) rfl))
  have N10 := Fr.snoc X10 N9 g_a1
  show OwnR _ _ _ _ _ _ _ (T10.setTop (mkF m 43 #[.val (.ref a1), .val (.ref a2), .val (.int p3), .val (.int p4)] []))
  refine own_leafV X10 hx hlk Bd.returns (hb hby d2_43) (by decide) (by decide) ?_
  show QI Z a1 a2 p3 p4 h0 n0 _ T10.heap _
  rw [show T10.heap = h10 from e10]
  refine ⟨b5, k5, b8, k8, rfl, N10, ⟨K10, (Exa.keep E_a1 K10), (Fld.other W10 (Fld.other W9 (Fld.ext E8 (Fld.other W7 (Fld.other W6 (Fld.ext E5 (Fld.other W4 (Fld.other W3 F2 (Or.inr (slot_ne (Or.inr (hw _ (List.mem_of_getElem? (i := 20) rfl))) (Or.inl (hw _ (List.mem_of_getElem? (i := 22) rfl))) (by decide) (t := .int) (t' := .int) (by decide) (by decide)))) (Or.inr (slot_ne (Or.inr (hw _ (List.mem_of_getElem? (i := 20) rfl))) (Or.inl (hw _ (List.mem_of_getElem? (i := 24) rfl))) (by decide) (t := .int) (t' := (.object "java/lang/Object")) (by decide) (by decide))))) (Or.inl (Nat.ne_of_lt (Nat.lt_of_lt_of_le (Exa.keep E_a1 K4).lt (Nat.le_of_eq g5.symm))))) (Or.inr (slot_ne (Or.inr (hw _ (List.mem_of_getElem? (i := 20) rfl))) (Or.inl (hw _ (List.mem_of_getElem? (i := 29) rfl))) (by decide) (t := .int) (t' := (.array (.object "java/lang/Object"))) (by decide) (by decide))))) (Or.inr (slot_ne (Or.inr (hw _ (List.mem_of_getElem? (i := 20) rfl))) (Or.inl (hw _ (List.mem_of_getElem? (i := 32) rfl))) (by decide) (t := .int) (t' := (.array .int)) (by decide) (by decide)))) (Or.inr (slot_ne (Or.inr (hw _ (List.mem_of_getElem? (i := 20) rfl))) (Or.inl (hw _ (List.mem_of_getElem? (i := 34) rfl))) (by decide) (t := .int) (t' := .int) (by decide) (by decide)))), (Fld.other W10 (Fld.other W9 (Fld.ext E8 (Fld.other W7 (Fld.other W6 (Fld.ext E5 (Fld.other W4 F3 (Or.inr (slot_ne (Or.inl (hw _ (List.mem_of_getElem? (i := 22) rfl))) (Or.inl (hw _ (List.mem_of_getElem? (i := 24) rfl))) (by decide) (t := .int) (t' := (.object "java/lang/Object")) (by decide) (by decide))))) (Or.inl (Nat.ne_of_lt (Nat.lt_of_lt_of_le (Exa.keep E_a1 K4).lt (Nat.le_of_eq g5.symm))))) (Or.inr (slot_ne (Or.inl (hw _ (List.mem_of_getElem? (i := 22) rfl))) (Or.inl (hw _ (List.mem_of_getElem? (i := 29) rfl))) (by decide) (t := .int) (t' := (.array (.object "java/lang/Object"))) (by decide) (by decide))))) (Or.inr (slot_ne (Or.inl (hw _ (List.mem_of_getElem? (i := 22) rfl))) (Or.inl (hw _ (List.mem_of_getElem? (i := 32) rfl))) (by decide) (t := .int) (t' := (.array .int)) (by decide) (by decide)))) (Or.inr (slot_ne (Or.inl (hw _ (List.mem_of_getElem? (i := 22) rfl))) (Or.inl (hw _ (List.mem_of_getElem? (i := 34) rfl))) (by decide) (t := .int) (t' := .int) (by decide) (by decide)))), (Fld.other W10 (Fld.other W9 (Fld.ext E8 (Fld.other W7 (Fld.other W6 (Fld.ext E5 F4) (Or.inl (Nat.ne_of_lt (Nat.lt_of_lt_of_le (Exa.keep E_a1 K4).lt (Nat.le_of_eq g5.symm))))) (Or.inr (slot_ne (Or.inl (hw _ (List.mem_of_getElem? (i := 24) rfl))) (Or.inl (hw _ (List.mem_of_getElem? (i := 29) rfl))) (by decide) (t := (.object "java/lang/Object")) (t' := (.array (.object "java/lang/Object"))) (by decide) (by decide))))) (Or.inr (slot_ne (Or.inl (hw _ (List.mem_of_getElem? (i := 24) rfl))) (Or.inl (hw _ (List.mem_of_getElem? (i := 32) rfl))) (by decide) (t := (.object "java/lang/Object")) (t' := (.array .int)) (by decide) (by decide)))) (Or.inr (slot_ne (Or.inl (hw _ (List.mem_of_getElem? (i := 24) rfl))) (Or.inl (hw _ (List.mem_of_getElem? (i := 34) rfl))) (by decide) (t := (.object "java/lang/Object")) (t' := .int) (by decide) (by decide)))), (Fld.other W10 (Fld.other W9 (Fld.ext E8 F7) (Or.inr (slot_ne (Or.inl (hw _ (List.mem_of_getElem? (i := 29) rfl))) (Or.inl (hw _ (List.mem_of_getElem? (i := 32) rfl))) (by decide) (t := (.array (.object "java/lang/Object"))) (t' := (.array .int)) (by decide) (by decide)))) (Or.inr (slot_ne (Or.inl (hw _ (List.mem_of_getElem? (i := 29) rfl))) (Or.inl (hw _ (List.mem_of_getElem? (i := 34) rfl))) (by decide) (t := (.array (.object "java/lang/Object"))) (t' := .int) (by decide) (by decide)))), (Fld.other W10 F9 (Or.inr (slot_ne (Or.inl (hw _ (List.mem_of_getElem? (i := 32) rfl))) (Or.inl (hw _ (List.mem_of_getElem? (i := 34) rfl))) (by decide) (t := (.array .int)) (t' := .int) (by decide) (by decide)))), F10, (Arv.other (Arv.other (Arv.ext (Arv.other V6 W7 (Ne.symm (Nat.ne_of_lt (Nat.lt_of_lt_of_le (Exa.keep E_a1 K4).lt (Nat.le_of_eq g5.symm))))) E8) W9 (Ne.symm (Nat.ne_of_lt (Nat.lt_of_lt_of_le (Exa.keep E_a1 K4).lt (Nat.le_of_eq g5.symm))))) W10 (Ne.symm (Nat.ne_of_lt (Nat.lt_of_lt_of_le (Exa.keep E_a1 K4).lt (Nat.le_of_eq g5.symm))))), (Exa.wr W10 (Exa.wr W9 (Exa.ext E8 (Exa.wr W7 (Exa.wr W6 AE5))))), (Arv.other (Arv.other V8 W9 (Ne.symm (Nat.ne_of_lt (Nat.lt_of_lt_of_le (Exa.keep E_a1 K7).lt (Nat.le_of_eq g8.symm))))) W10 (Ne.symm (Nat.ne_of_lt (Nat.lt_of_lt_of_le (Exa.keep E_a1 K7).lt (Nat.le_of_eq g8.symm))))), sz_b5, gn_b5, sz_b8, gn_b8⟩⟩
theorem pn_java_lang_Integer : plainName "java/lang/Integer" = true := by first | (simp [plainName, overriddenIn]; done) | decide +kernel
theorem ef_rmV_0 (m : MethodId)  : entryFrame m #[(.int (0 : Int32))] 1 = mkF m 0 #[.val (.int (0 : Int32))] [] := by first | (simp [entryFrame, mkF, argsToLocals, Value.category]; done) | rfl
theorem d1_0 : decode jdk_33_method_22_code 0 = .ok (.iload_n 0, 1) := by decide +kernel
theorem d1_1 : decode jdk_33_method_22_code 1 = .ok (.bipush (-128), 2) := by decide +kernel
theorem d1_3 : decode jdk_33_method_22_code 3 = .ok (.if_icmp .lt 20, 3) := by decide +kernel
theorem d1_6 : decode jdk_33_method_22_code 6 = .ok (.iload_n 0, 1) := by decide +kernel
theorem d1_7 : decode jdk_33_method_22_code 7 = .ok (.getstatic 191, 3) := by decide +kernel
theorem d1_10 : decode jdk_33_method_22_code 10 = .ok (.if_icmp .gt 13, 3) := by decide +kernel
theorem d1_13 : decode jdk_33_method_22_code 13 = .ok (.getstatic 195, 3) := by decide +kernel
theorem d1_16 : decode jdk_33_method_22_code 16 = .ok (.iload_n 0, 1) := by decide +kernel
theorem d1_17 : decode jdk_33_method_22_code 17 = .ok (.sipush 128, 3) := by decide +kernel
theorem d1_20 : decode jdk_33_method_22_code 20 = .ok (.iadd, 1) := by decide +kernel
theorem d1_21 : decode jdk_33_method_22_code 21 = .ok (.aaload, 1) := by decide +kernel
theorem d1_22 : decode jdk_33_method_22_code 22 = .ok (.areturn, 1) := by decide +kernel
def QV_0 (Z : State) (iv0 : Addr) (h0 : Heap) (n0 : Nat) (v : Option Value) (h : Heap) (L : List Loc) : Prop := v = some (.ref iv0) ∧ Fr n0 L ∧ h = h0
set_option maxRecDepth 65536 in
set_option maxHeartbeats 40000000 in
theorem rmV_0 (l : Launch) (Z : State) (a0 : Array Value) (hw : ∀ d ∈ tables_1, d.before a0 Z = true) (ws : List Jvm.Cond)  (sc : Addr) (cc : Cell) (iv0 iv1 iv2 : Addr) (h0 : Heap) (n0 : Nat) (Z0 : n0 ≤ h0.size) (S_high : Sta Z h0 "java/lang/Integer$IntegerCache" "high" "I" (.int (127 : Int32))) (S_cache : Sta Z h0 "java/lang/Integer$IntegerCache" "cache" "[Ljava/lang/Integer;" (.ref sc)) (Ar_sc : Arr Z h0 sc cc (.object "java/lang/Integer")) (hin0 : ¬ ((128 : Int32) < 0 ∨ cc.slots.size ≤ (128 : Int32).toNatClampNeg)) (hin1 : ¬ ((129 : Int32) < 0 ∨ cc.slots.size ≤ (129 : Int32).toNatClampNeg)) (hin2 : ¬ ((130 : Int32) < 0 ∨ cc.slots.size ≤ (130 : Int32).toNatClampNeg)) (hat0 : cc.slots[(128 : Int32).toNatClampNeg]? = some (.ref iv0)) (hat1 : cc.slots[(129 : Int32).toNatClampNeg]? = some (.ref iv1)) (hat2 : cc.slots[(130 : Int32).toNatClampNeg]? = some (.ref iv2)) :
    MetFree l (⟨"java/lang/Integer", "valueOf", "(I)Ljava/lang/Integer;"⟩ : MethodName) (head1 (Jvm.Cond.code (⟨"java/lang/Integer", "valueOf", "(I)Ljava/lang/Integer;"⟩ : MethodName) jdk_33_method_22_code 1 (some (.object "java/lang/Integer")) :: ws) ({ frames := 0, cells := 0, slots := 0, locals := 0 } : Room)) (fun a U => a = #[(.int (0 : Int32))] ∧ Z.Warmed39 U.vm ∧ U.heap = h0) (fun _ _ _ _ _ => True) (fun _ U o U' => ∃ v L, o = .returned v ∧ QV_0 Z iv0 h0 n0 v U'.heap L ∧ FrameEnd U o U' L ({ frames := 0, cells := 0, slots := 0, locals := 0 } : Room).cells ({ frames := 0, cells := 0, slots := 0, locals := 0 } : Room).slots) := by
  refine MetFree.of_bodySF (plainFor_of_name pn_java_lang_Integer) hisR ?_
  intro p e s m args below meth c s₁ Bd hml0 hP hK
  obtain ⟨rfl, hZ, hh⟩ := hP
  have hx := Bd.exec
  have hby := Bd.bytes
  have hlk := BodyLoose.notSynchronized Bd
  have hml : c.maxLocals = 1 := hml0
  have hown : s.vm.findClass "java/lang/Integer" = some m.cls := findClass_of_methodNamed Bd.named
  have hnm := (name_of_methodNamed Bd.named Bd.method).1
  have X0 : Stand p l e ({ frames := 0, cells := 0, slots := 0, locals := 0 } : Room) s m #[(.int (0 : Int32))] below meth c s₁ [] 0 0 := Stand.of_body Bd
  have e0 : s₁.heap = h0 := by rw [← hh, Bd.state]; rfl
  have N0 := Fr.nil n0
  refine OwnR.of (s := s) (Q := QV_0 Z iv0 h0 n0) (fun t k => castTop (ef_rmV_0 m ) k) ?_
  show OwnR _ _ _ _ _ _ _ (s₁.setTop (mkF m 0 #[.val (.int (0 : Int32))] []))
  refine OwnR.of (fun _ hr => XS.iloadN X0.here hx rfl (hb hby d1_0) rfl hr) ?_
  show OwnR _ _ _ _ _ _ _ (s₁.setTop (mkF m 1 #[.val (.int (0 : Int32))] [(.int (0 : Int32))]))
  refine OwnR.of (fun _ hr => XS.bipush X0.here hx rfl (hb hby d1_1) hr) ?_
  show OwnR _ _ _ _ _ _ _ (s₁.setTop (mkF m 3 #[.val (.int (0 : Int32))] [(.int (-128 : Int32)), (.int (0 : Int32))]))
  refine OwnR.of (fun _ hr => XS.icmpNo X0.here hx rfl (hb hby d1_3) rfl (flt (by decide : ¬ ((0 : Int32) < (-128 : Int32)))).1 hr) ?_
  show OwnR _ _ _ _ _ _ _ (s₁.setTop (mkF m 6 #[.val (.int (0 : Int32))] []))
  refine OwnR.of (fun _ hr => XS.iloadN X0.here hx rfl (hb hby d1_6) rfl hr) ?_
  show OwnR _ _ _ _ _ _ _ (s₁.setTop (mkF m 7 #[.val (.int (0 : Int32))] [(.int (0 : Int32))]))
  obtain ⟨T1, X1, e1, st1⟩ := getS2 X0 hx hZ hown (host := "") (Or.inl (hw _ (List.mem_of_getElem? (i := 10) rfl))) Via.refl e0 S_high (g := (mkF m 7 #[.val (.int (0 : Int32))] [(.int (0 : Int32))])) rfl (hb hby d1_7)
  refine OwnR.of (st1) ?_
  show OwnR _ _ _ _ _ _ _ (T1.setTop (mkF m 10 #[.val (.int (0 : Int32))] [(.int (127 : Int32)), (.int (0 : Int32))]))
  refine OwnR.of (fun _ hr => XS.icmpNo X1.here hx rfl (hb hby d1_10) rfl (flt (by decide : ¬ ((127 : Int32) < (0 : Int32)))).2.2.1 hr) ?_
  show OwnR _ _ _ _ _ _ _ (T1.setTop (mkF m 13 #[.val (.int (0 : Int32))] []))
  obtain ⟨T2, X2, e2, st2⟩ := getS2 X1 hx hZ hown (host := "") (Or.inl (hw _ (List.mem_of_getElem? (i := 12) rfl))) Via.refl e1 S_cache (g := (mkF m 13 #[.val (.int (0 : Int32))] [])) rfl (hb hby d1_13)
  refine OwnR.of (st2) ?_
  show OwnR _ _ _ _ _ _ _ (T2.setTop (mkF m 16 #[.val (.int (0 : Int32))] [(.ref sc)]))
  refine OwnR.of (fun _ hr => XS.iloadN X2.here hx rfl (hb hby d1_16) rfl hr) ?_
  show OwnR _ _ _ _ _ _ _ (T2.setTop (mkF m 17 #[.val (.int (0 : Int32))] [(.int (0 : Int32)), (.ref sc)]))
  refine OwnR.of (fun _ hr => XS.sipush X2.here hx rfl (hb hby d1_17) hr) ?_
  show OwnR _ _ _ _ _ _ _ (T2.setTop (mkF m 20 #[.val (.int (0 : Int32))] [(.int (128 : Int32)), (.int (0 : Int32)), (.ref sc)]))
  refine OwnR.of (fun _ hr => XS.iadd X2.here hx rfl (hb hby d1_20) rfl hr) ?_
  show OwnR _ _ _ _ _ _ _ (T2.setTop (mkF m 21 #[.val (.int (0 : Int32))] [(.int ((0 : Int32) + (128 : Int32))), (.ref sc)]))
  rw [(by decide : ((0 : Int32) + (128 : Int32)) = (128 : Int32))]
  show OwnR _ _ _ _ _ _ _ (T2.setTop (mkF m 21 #[.val (.int (0 : Int32))] [(.int (128 : Int32)), (.ref sc)]))
  refine OwnR.of (X2.aaload hx (j := (128 : Int32)) (v := (.ref iv0)) (by rw [e2]; exact Ar_sc.1) (State.isArrayOf_alike hZ.alike Ar_sc.2.1) rfl Ar_sc.2.2 hin0 hat0 (g := (mkF m 21 #[.val (.int (0 : Int32))] [(.int (128 : Int32)), (.ref sc)])) rfl rfl (hb hby d1_21)) ?_
  show OwnR _ _ _ _ _ _ _ (T2.setTop (mkF m 22 #[.val (.int (0 : Int32))] [(.ref iv0)]))
  refine own_leafA X2 hx hlk Bd.returns rfl rfl (hb hby d1_22) (by decide) (by decide) ?_
  show QV_0 Z iv0 h0 n0 _ T2.heap _
  rw [show T2.heap = h0 from e2]
  refine ⟨?_, N0, rfl⟩
  show (some (.ref iv0) : Option Value) = some (.ref iv0)
  rfl
theorem ef_rmV_1 (m : MethodId)  : entryFrame m #[(.int (1 : Int32))] 1 = mkF m 0 #[.val (.int (1 : Int32))] [] := by first | (simp [entryFrame, mkF, argsToLocals, Value.category]; done) | rfl
def QV_1 (Z : State) (iv1 : Addr) (h0 : Heap) (n0 : Nat) (v : Option Value) (h : Heap) (L : List Loc) : Prop := v = some (.ref iv1) ∧ Fr n0 L ∧ h = h0
set_option maxRecDepth 65536 in
set_option maxHeartbeats 40000000 in
theorem rmV_1 (l : Launch) (Z : State) (a0 : Array Value) (hw : ∀ d ∈ tables_1, d.before a0 Z = true) (ws : List Jvm.Cond)  (sc : Addr) (cc : Cell) (iv0 iv1 iv2 : Addr) (h0 : Heap) (n0 : Nat) (Z0 : n0 ≤ h0.size) (S_high : Sta Z h0 "java/lang/Integer$IntegerCache" "high" "I" (.int (127 : Int32))) (S_cache : Sta Z h0 "java/lang/Integer$IntegerCache" "cache" "[Ljava/lang/Integer;" (.ref sc)) (Ar_sc : Arr Z h0 sc cc (.object "java/lang/Integer")) (hin0 : ¬ ((128 : Int32) < 0 ∨ cc.slots.size ≤ (128 : Int32).toNatClampNeg)) (hin1 : ¬ ((129 : Int32) < 0 ∨ cc.slots.size ≤ (129 : Int32).toNatClampNeg)) (hin2 : ¬ ((130 : Int32) < 0 ∨ cc.slots.size ≤ (130 : Int32).toNatClampNeg)) (hat0 : cc.slots[(128 : Int32).toNatClampNeg]? = some (.ref iv0)) (hat1 : cc.slots[(129 : Int32).toNatClampNeg]? = some (.ref iv1)) (hat2 : cc.slots[(130 : Int32).toNatClampNeg]? = some (.ref iv2)) :
    MetFree l (⟨"java/lang/Integer", "valueOf", "(I)Ljava/lang/Integer;"⟩ : MethodName) (head1 (Jvm.Cond.code (⟨"java/lang/Integer", "valueOf", "(I)Ljava/lang/Integer;"⟩ : MethodName) jdk_33_method_22_code 1 (some (.object "java/lang/Integer")) :: ws) ({ frames := 0, cells := 0, slots := 0, locals := 0 } : Room)) (fun a U => a = #[(.int (1 : Int32))] ∧ Z.Warmed39 U.vm ∧ U.heap = h0) (fun _ _ _ _ _ => True) (fun _ U o U' => ∃ v L, o = .returned v ∧ QV_1 Z iv1 h0 n0 v U'.heap L ∧ FrameEnd U o U' L ({ frames := 0, cells := 0, slots := 0, locals := 0 } : Room).cells ({ frames := 0, cells := 0, slots := 0, locals := 0 } : Room).slots) := by
  refine MetFree.of_bodySF (plainFor_of_name pn_java_lang_Integer) hisR ?_
  intro p e s m args below meth c s₁ Bd hml0 hP hK
  obtain ⟨rfl, hZ, hh⟩ := hP
  have hx := Bd.exec
  have hby := Bd.bytes
  have hlk := BodyLoose.notSynchronized Bd
  have hml : c.maxLocals = 1 := hml0
  have hown : s.vm.findClass "java/lang/Integer" = some m.cls := findClass_of_methodNamed Bd.named
  have hnm := (name_of_methodNamed Bd.named Bd.method).1
  have X0 : Stand p l e ({ frames := 0, cells := 0, slots := 0, locals := 0 } : Room) s m #[(.int (1 : Int32))] below meth c s₁ [] 0 0 := Stand.of_body Bd
  have e0 : s₁.heap = h0 := by rw [← hh, Bd.state]; rfl
  have N0 := Fr.nil n0
  refine OwnR.of (s := s) (Q := QV_1 Z iv1 h0 n0) (fun t k => castTop (ef_rmV_1 m ) k) ?_
  show OwnR _ _ _ _ _ _ _ (s₁.setTop (mkF m 0 #[.val (.int (1 : Int32))] []))
  refine OwnR.of (fun _ hr => XS.iloadN X0.here hx rfl (hb hby d1_0) rfl hr) ?_
  show OwnR _ _ _ _ _ _ _ (s₁.setTop (mkF m 1 #[.val (.int (1 : Int32))] [(.int (1 : Int32))]))
  refine OwnR.of (fun _ hr => XS.bipush X0.here hx rfl (hb hby d1_1) hr) ?_
  show OwnR _ _ _ _ _ _ _ (s₁.setTop (mkF m 3 #[.val (.int (1 : Int32))] [(.int (-128 : Int32)), (.int (1 : Int32))]))
  refine OwnR.of (fun _ hr => XS.icmpNo X0.here hx rfl (hb hby d1_3) rfl (flt (by decide : ¬ ((1 : Int32) < (-128 : Int32)))).1 hr) ?_
  show OwnR _ _ _ _ _ _ _ (s₁.setTop (mkF m 6 #[.val (.int (1 : Int32))] []))
  refine OwnR.of (fun _ hr => XS.iloadN X0.here hx rfl (hb hby d1_6) rfl hr) ?_
  show OwnR _ _ _ _ _ _ _ (s₁.setTop (mkF m 7 #[.val (.int (1 : Int32))] [(.int (1 : Int32))]))
  obtain ⟨T1, X1, e1, st1⟩ := getS2 X0 hx hZ hown (host := "") (Or.inl (hw _ (List.mem_of_getElem? (i := 10) rfl))) Via.refl e0 S_high (g := (mkF m 7 #[.val (.int (1 : Int32))] [(.int (1 : Int32))])) rfl (hb hby d1_7)
  refine OwnR.of (st1) ?_
  show OwnR _ _ _ _ _ _ _ (T1.setTop (mkF m 10 #[.val (.int (1 : Int32))] [(.int (127 : Int32)), (.int (1 : Int32))]))
  refine OwnR.of (fun _ hr => XS.icmpNo X1.here hx rfl (hb hby d1_10) rfl (flt (by decide : ¬ ((127 : Int32) < (1 : Int32)))).2.2.1 hr) ?_
  show OwnR _ _ _ _ _ _ _ (T1.setTop (mkF m 13 #[.val (.int (1 : Int32))] []))
  obtain ⟨T2, X2, e2, st2⟩ := getS2 X1 hx hZ hown (host := "") (Or.inl (hw _ (List.mem_of_getElem? (i := 12) rfl))) Via.refl e1 S_cache (g := (mkF m 13 #[.val (.int (1 : Int32))] [])) rfl (hb hby d1_13)
  refine OwnR.of (st2) ?_
  show OwnR _ _ _ _ _ _ _ (T2.setTop (mkF m 16 #[.val (.int (1 : Int32))] [(.ref sc)]))
  refine OwnR.of (fun _ hr => XS.iloadN X2.here hx rfl (hb hby d1_16) rfl hr) ?_
  show OwnR _ _ _ _ _ _ _ (T2.setTop (mkF m 17 #[.val (.int (1 : Int32))] [(.int (1 : Int32)), (.ref sc)]))
  refine OwnR.of (fun _ hr => XS.sipush X2.here hx rfl (hb hby d1_17) hr) ?_
  show OwnR _ _ _ _ _ _ _ (T2.setTop (mkF m 20 #[.val (.int (1 : Int32))] [(.int (128 : Int32)), (.int (1 : Int32)), (.ref sc)]))
  refine OwnR.of (fun _ hr => XS.iadd X2.here hx rfl (hb hby d1_20) rfl hr) ?_
  show OwnR _ _ _ _ _ _ _ (T2.setTop (mkF m 21 #[.val (.int (1 : Int32))] [(.int ((1 : Int32) + (128 : Int32))), (.ref sc)]))
  rw [(by decide : ((1 : Int32) + (128 : Int32)) = (129 : Int32))]
  show OwnR _ _ _ _ _ _ _ (T2.setTop (mkF m 21 #[.val (.int (1 : Int32))] [(.int (129 : Int32)), (.ref sc)]))
  refine OwnR.of (X2.aaload hx (j := (129 : Int32)) (v := (.ref iv1)) (by rw [e2]; exact Ar_sc.1) (State.isArrayOf_alike hZ.alike Ar_sc.2.1) rfl Ar_sc.2.2 hin1 hat1 (g := (mkF m 21 #[.val (.int (1 : Int32))] [(.int (129 : Int32)), (.ref sc)])) rfl rfl (hb hby d1_21)) ?_
  show OwnR _ _ _ _ _ _ _ (T2.setTop (mkF m 22 #[.val (.int (1 : Int32))] [(.ref iv1)]))
  refine own_leafA X2 hx hlk Bd.returns rfl rfl (hb hby d1_22) (by decide) (by decide) ?_
  show QV_1 Z iv1 h0 n0 _ T2.heap _
  rw [show T2.heap = h0 from e2]
  refine ⟨?_, N0, rfl⟩
  show (some (.ref iv1) : Option Value) = some (.ref iv1)
  rfl
theorem ef_rmV_2 (m : MethodId)  : entryFrame m #[(.int (2 : Int32))] 1 = mkF m 0 #[.val (.int (2 : Int32))] [] := by first | (simp [entryFrame, mkF, argsToLocals, Value.category]; done) | rfl
def QV_2 (Z : State) (iv2 : Addr) (h0 : Heap) (n0 : Nat) (v : Option Value) (h : Heap) (L : List Loc) : Prop := v = some (.ref iv2) ∧ Fr n0 L ∧ h = h0
set_option maxRecDepth 65536 in
set_option maxHeartbeats 40000000 in
theorem rmV_2 (l : Launch) (Z : State) (a0 : Array Value) (hw : ∀ d ∈ tables_1, d.before a0 Z = true) (ws : List Jvm.Cond)  (sc : Addr) (cc : Cell) (iv0 iv1 iv2 : Addr) (h0 : Heap) (n0 : Nat) (Z0 : n0 ≤ h0.size) (S_high : Sta Z h0 "java/lang/Integer$IntegerCache" "high" "I" (.int (127 : Int32))) (S_cache : Sta Z h0 "java/lang/Integer$IntegerCache" "cache" "[Ljava/lang/Integer;" (.ref sc)) (Ar_sc : Arr Z h0 sc cc (.object "java/lang/Integer")) (hin0 : ¬ ((128 : Int32) < 0 ∨ cc.slots.size ≤ (128 : Int32).toNatClampNeg)) (hin1 : ¬ ((129 : Int32) < 0 ∨ cc.slots.size ≤ (129 : Int32).toNatClampNeg)) (hin2 : ¬ ((130 : Int32) < 0 ∨ cc.slots.size ≤ (130 : Int32).toNatClampNeg)) (hat0 : cc.slots[(128 : Int32).toNatClampNeg]? = some (.ref iv0)) (hat1 : cc.slots[(129 : Int32).toNatClampNeg]? = some (.ref iv1)) (hat2 : cc.slots[(130 : Int32).toNatClampNeg]? = some (.ref iv2)) :
    MetFree l (⟨"java/lang/Integer", "valueOf", "(I)Ljava/lang/Integer;"⟩ : MethodName) (head1 (Jvm.Cond.code (⟨"java/lang/Integer", "valueOf", "(I)Ljava/lang/Integer;"⟩ : MethodName) jdk_33_method_22_code 1 (some (.object "java/lang/Integer")) :: ws) ({ frames := 0, cells := 0, slots := 0, locals := 0 } : Room)) (fun a U => a = #[(.int (2 : Int32))] ∧ Z.Warmed39 U.vm ∧ U.heap = h0) (fun _ _ _ _ _ => True) (fun _ U o U' => ∃ v L, o = .returned v ∧ QV_2 Z iv2 h0 n0 v U'.heap L ∧ FrameEnd U o U' L ({ frames := 0, cells := 0, slots := 0, locals := 0 } : Room).cells ({ frames := 0, cells := 0, slots := 0, locals := 0 } : Room).slots) := by
  refine MetFree.of_bodySF (plainFor_of_name pn_java_lang_Integer) hisR ?_
  intro p e s m args below meth c s₁ Bd hml0 hP hK
  obtain ⟨rfl, hZ, hh⟩ := hP
  have hx := Bd.exec
  have hby := Bd.bytes
  have hlk := BodyLoose.notSynchronized Bd
  have hml : c.maxLocals = 1 := hml0
  have hown : s.vm.findClass "java/lang/Integer" = some m.cls := findClass_of_methodNamed Bd.named
  have hnm := (name_of_methodNamed Bd.named Bd.method).1
  have X0 : Stand p l e ({ frames := 0, cells := 0, slots := 0, locals := 0 } : Room) s m #[(.int (2 : Int32))] below meth c s₁ [] 0 0 := Stand.of_body Bd
  have e0 : s₁.heap = h0 := by rw [← hh, Bd.state]; rfl
  have N0 := Fr.nil n0
  refine OwnR.of (s := s) (Q := QV_2 Z iv2 h0 n0) (fun t k => castTop (ef_rmV_2 m ) k) ?_
  show OwnR _ _ _ _ _ _ _ (s₁.setTop (mkF m 0 #[.val (.int (2 : Int32))] []))
  refine OwnR.of (fun _ hr => XS.iloadN X0.here hx rfl (hb hby d1_0) rfl hr) ?_
  show OwnR _ _ _ _ _ _ _ (s₁.setTop (mkF m 1 #[.val (.int (2 : Int32))] [(.int (2 : Int32))]))
  refine OwnR.of (fun _ hr => XS.bipush X0.here hx rfl (hb hby d1_1) hr) ?_
  show OwnR _ _ _ _ _ _ _ (s₁.setTop (mkF m 3 #[.val (.int (2 : Int32))] [(.int (-128 : Int32)), (.int (2 : Int32))]))
  refine OwnR.of (fun _ hr => XS.icmpNo X0.here hx rfl (hb hby d1_3) rfl (flt (by decide : ¬ ((2 : Int32) < (-128 : Int32)))).1 hr) ?_
  show OwnR _ _ _ _ _ _ _ (s₁.setTop (mkF m 6 #[.val (.int (2 : Int32))] []))
  refine OwnR.of (fun _ hr => XS.iloadN X0.here hx rfl (hb hby d1_6) rfl hr) ?_
  show OwnR _ _ _ _ _ _ _ (s₁.setTop (mkF m 7 #[.val (.int (2 : Int32))] [(.int (2 : Int32))]))
  obtain ⟨T1, X1, e1, st1⟩ := getS2 X0 hx hZ hown (host := "") (Or.inl (hw _ (List.mem_of_getElem? (i := 10) rfl))) Via.refl e0 S_high (g := (mkF m 7 #[.val (.int (2 : Int32))] [(.int (2 : Int32))])) rfl (hb hby d1_7)
  refine OwnR.of (st1) ?_
  show OwnR _ _ _ _ _ _ _ (T1.setTop (mkF m 10 #[.val (.int (2 : Int32))] [(.int (127 : Int32)), (.int (2 : Int32))]))
  refine OwnR.of (fun _ hr => XS.icmpNo X1.here hx rfl (hb hby d1_10) rfl (flt (by decide : ¬ ((127 : Int32) < (2 : Int32)))).2.2.1 hr) ?_
  show OwnR _ _ _ _ _ _ _ (T1.setTop (mkF m 13 #[.val (.int (2 : Int32))] []))
  obtain ⟨T2, X2, e2, st2⟩ := getS2 X1 hx hZ hown (host := "") (Or.inl (hw _ (List.mem_of_getElem? (i := 12) rfl))) Via.refl e1 S_cache (g := (mkF m 13 #[.val (.int (2 : Int32))] [])) rfl (hb hby d1_13)
  refine OwnR.of (st2) ?_
  show OwnR _ _ _ _ _ _ _ (T2.setTop (mkF m 16 #[.val (.int (2 : Int32))] [(.ref sc)]))
  refine OwnR.of (fun _ hr => XS.iloadN X2.here hx rfl (hb hby d1_16) rfl hr) ?_
  show OwnR _ _ _ _ _ _ _ (T2.setTop (mkF m 17 #[.val (.int (2 : Int32))] [(.int (2 : Int32)), (.ref sc)]))
  refine OwnR.of (fun _ hr => XS.sipush X2.here hx rfl (hb hby d1_17) hr) ?_
  show OwnR _ _ _ _ _ _ _ (T2.setTop (mkF m 20 #[.val (.int (2 : Int32))] [(.int (128 : Int32)), (.int (2 : Int32)), (.ref sc)]))
  refine OwnR.of (fun _ hr => XS.iadd X2.here hx rfl (hb hby d1_20) rfl hr) ?_
  show OwnR _ _ _ _ _ _ _ (T2.setTop (mkF m 21 #[.val (.int (2 : Int32))] [(.int ((2 : Int32) + (128 : Int32))), (.ref sc)]))
  rw [(by decide : ((2 : Int32) + (128 : Int32)) = (130 : Int32))]
  show OwnR _ _ _ _ _ _ _ (T2.setTop (mkF m 21 #[.val (.int (2 : Int32))] [(.int (130 : Int32)), (.ref sc)]))
  refine OwnR.of (X2.aaload hx (j := (130 : Int32)) (v := (.ref iv2)) (by rw [e2]; exact Ar_sc.1) (State.isArrayOf_alike hZ.alike Ar_sc.2.1) rfl Ar_sc.2.2 hin2 hat2 (g := (mkF m 21 #[.val (.int (2 : Int32))] [(.int (130 : Int32)), (.ref sc)])) rfl rfl (hb hby d1_21)) ?_
  show OwnR _ _ _ _ _ _ _ (T2.setTop (mkF m 22 #[.val (.int (2 : Int32))] [(.ref iv2)]))
  refine own_leafA X2 hx hlk Bd.returns rfl rfl (hb hby d1_22) (by decide) (by decide) ?_
  show QV_2 Z iv2 h0 n0 _ T2.heap _
  rw [show T2.heap = h0 from e2]
  refine ⟨?_, N0, rfl⟩
  show (some (.ref iv2) : Option Value) = some (.ref iv2)
  rfl
theorem ef_rmS_0 (m : MethodId) (x0 : Addr) (x2 : Int32) : entryFrame m #[(.ref x0), (.int (0 : Int32)), (.int x2)] 3 = mkF m 0 #[.val (.ref x0), .val (.int (0 : Int32)), .val (.int x2)] [] := by first | (simp [entryFrame, mkF, argsToLocals, Value.category]; done) | rfl
theorem d9_0 : decode prog_34_method_10_code 0 = .ok (.iload_n 1, 1) := by decide +kernel
theorem d9_1 : decode prog_34_method_10_code 1 = .ok (.ifCond .le 17, 3) := by decide +kernel
theorem d9_18 : decode prog_34_method_10_code 18 = .ok (.iconst 0, 1) := by decide +kernel
theorem d9_19 : decode prog_34_method_10_code 19 = .ok (.ireturn, 1) := by decide +kernel
def QS_0 (Z : State)  (h0 : Heap) (n0 : Nat) (v : Option Value) (h : Heap) (L : List Loc) : Prop := v = some (.int (0 : Int32)) ∧ Fr n0 L ∧ h = h0
set_option maxRecDepth 65536 in
set_option maxHeartbeats 40000000 in
theorem rmS_0 (l : Launch) (Z : State) (a0 : Array Value) (hw : ∀ d ∈ tables_1, d.before a0 Z = true) (ws : List Jvm.Cond) (a1 : Addr) (p3 : Int32) (h0 : Heap) (n0 : Nat) (Z0 : n0 ≤ h0.size) :
    MetFree l (⟨"com/example/tercet/tercet/core/Pages", "startsPage", "(II)Z"⟩ : MethodName) (head1 (Jvm.Cond.code (⟨"com/example/tercet/tercet/core/Pages", "startsPage", "(II)Z"⟩ : MethodName) prog_34_method_10_code 3 (some .boolean) :: ws) ({ frames := 0, cells := 0, slots := 0, locals := 0 } : Room)) (fun a U => a = #[(.ref a1), (.int (0 : Int32)), (.int p3)] ∧ Z.Warmed39 U.vm ∧ U.heap = h0) (fun _ _ _ _ _ => True) (fun _ U o U' => ∃ v L, o = .returned v ∧ QS_0 Z  h0 n0 v U'.heap L ∧ FrameEnd U o U' L ({ frames := 0, cells := 0, slots := 0, locals := 0 } : Room).cells ({ frames := 0, cells := 0, slots := 0, locals := 0 } : Room).slots) := by
  refine MetFree.of_bodySF (plainFor_of_name pn_com_example_tercet_tercet_core_Pages) hisR ?_
  intro p e s m args below meth c s₁ Bd hml0 hP hK
  obtain ⟨rfl, hZ, hh⟩ := hP
  have hx := Bd.exec
  have hby := Bd.bytes
  have hlk := BodyLoose.notSynchronized Bd
  have hml : c.maxLocals = 3 := hml0
  have hown : s.vm.findClass "com/example/tercet/tercet/core/Pages" = some m.cls := findClass_of_methodNamed Bd.named
  have hnm := (name_of_methodNamed Bd.named Bd.method).1
  have X0 : Stand p l e ({ frames := 0, cells := 0, slots := 0, locals := 0 } : Room) s m #[(.ref a1), (.int (0 : Int32)), (.int p3)] below meth c s₁ [] 0 0 := Stand.of_body Bd
  have e0 : s₁.heap = h0 := by rw [← hh, Bd.state]; rfl
  have N0 := Fr.nil n0
  refine OwnR.of (s := s) (Q := QS_0 Z  h0 n0) (fun t k => castTop (ef_rmS_0 m a1 p3) k) ?_
  show OwnR _ _ _ _ _ _ _ (s₁.setTop (mkF m 0 #[.val (.ref a1), .val (.int (0 : Int32)), .val (.int p3)] []))
  refine OwnR.of (fun _ hr => XS.iloadN X0.here hx rfl (hb hby d9_0) rfl hr) ?_
  show OwnR _ _ _ _ _ _ _ (s₁.setTop (mkF m 1 #[.val (.ref a1), .val (.int (0 : Int32)), .val (.int p3)] [(.int (0 : Int32))]))
  refine OwnR.of (fun _ hr => XS.ifYes X0.here hx rfl (pc0 := 1) (pc' := 18) rfl (hb hby d9_1) rfl ((if0 _ _).trans (flt (by decide : ¬ ((0 : Int32) < (0 : Int32)))).2.2.2) (by decide) (by decide) hr) ?_
  show OwnR _ _ _ _ _ _ _ (s₁.setTop (mkF m 18 #[.val (.ref a1), .val (.int (0 : Int32)), .val (.int p3)] []))
  refine OwnR.of (fun _ hr => XS.iconst X0.here hx rfl (hb hby d9_18) hr) ?_
  show OwnR _ _ _ _ _ _ _ (s₁.setTop (mkF m 19 #[.val (.ref a1), .val (.int (0 : Int32)), .val (.int p3)] [(.int (0 : Int32))]))
  refine own_leafN X0 hx hlk (t := .boolean) Bd.returns (by simp) (hb hby d9_19) (z' := (0 : Int32)) rfl (by decide) (by decide) ?_
  show QS_0 Z  h0 n0 _ s₁.heap _
  rw [show s₁.heap = h0 from e0]
  refine ⟨?_, N0, rfl⟩
  show (some (.int (0 : Int32)) : Option Value) = some (.int (0 : Int32))
  rfl
theorem ef_rmS_1_2 (m : MethodId) (x0 : Addr) (x2 : Int32) : entryFrame m #[(.ref x0), (.int (1 : Int32)), (.int x2)] 3 = mkF m 0 #[.val (.ref x0), .val (.int (1 : Int32)), .val (.int x2)] [] := by first | (simp [entryFrame, mkF, argsToLocals, Value.category]; done) | rfl
theorem d9_4 : decode prog_34_method_10_code 4 = .ok (.aload_n 0, 1) := by decide +kernel
theorem d9_5 : decode prog_34_method_10_code 5 = .ok (.getfield 24, 3) := by decide +kernel
theorem d9_8 : decode prog_34_method_10_code 8 = .ok (.iload_n 1, 1) := by decide +kernel
theorem d9_9 : decode prog_34_method_10_code 9 = .ok (.iaload, 1) := by decide +kernel
theorem d9_10 : decode prog_34_method_10_code 10 = .ok (.iload_n 2, 1) := by decide +kernel
theorem d9_11 : decode prog_34_method_10_code 11 = .ok (.if_icmp .ne 7, 3) := by decide +kernel
theorem d9_14 : decode prog_34_method_10_code 14 = .ok (.iconst 1, 1) := by decide +kernel
theorem d9_15 : decode prog_34_method_10_code 15 = .ok (.goto 4, 3) := by decide +kernel
def QS_1_2 (Z : State) (p3 : Int32) (f1 : Int32) (h0 : Heap) (n0 : Nat) (v : Option Value) (h : Heap) (L : List Loc) : Prop := v = some (.int (own_sp f1 p3)) ∧ Fr n0 L ∧ h = h0
set_option maxRecDepth 65536 in
set_option maxHeartbeats 40000000 in
theorem rmS_1_2 (l : Launch) (Z : State) (a0 : Array Value) (hw : ∀ d ∈ tables_1, d.before a0 Z = true) (ws : List Jvm.Cond) (a1 : Addr) (p3 : Int32) (bf : Addr) (kf : ClassId) (f0 f1 : Int32) (h0 : Heap) (n0 : Nat) (Z0 : n0 ≤ h0.size) (E_a1 : Exa Z h0 a1 "com/example/tercet/tercet/core/Pages") (F_firsts_a1 : Fld Z h0 a1 "com/example/tercet/tercet/core/Pages" "firsts" "[I" (.ref bf)) (V_bf : Arv Z h0 bf kf .int (2 : Int32) [(.int f0), (.int f1)] (.int (0 : Int32))) :
    MetFree l (⟨"com/example/tercet/tercet/core/Pages", "startsPage", "(II)Z"⟩ : MethodName) (head1 (Jvm.Cond.code (⟨"com/example/tercet/tercet/core/Pages", "startsPage", "(II)Z"⟩ : MethodName) prog_34_method_10_code 3 (some .boolean) :: ws) ({ frames := 0, cells := 0, slots := 0, locals := 0 } : Room)) (fun a U => a = #[(.ref a1), (.int (1 : Int32)), (.int p3)] ∧ Z.Warmed39 U.vm ∧ U.heap = h0) (fun _ _ _ _ _ => True) (fun _ U o U' => ∃ v L, o = .returned v ∧ QS_1_2 Z p3 f1 h0 n0 v U'.heap L ∧ FrameEnd U o U' L ({ frames := 0, cells := 0, slots := 0, locals := 0 } : Room).cells ({ frames := 0, cells := 0, slots := 0, locals := 0 } : Room).slots) := by
  refine MetFree.of_bodySF (plainFor_of_name pn_com_example_tercet_tercet_core_Pages) hisR ?_
  intro p e s m args below meth c s₁ Bd hml0 hP hK
  obtain ⟨rfl, hZ, hh⟩ := hP
  have hx := Bd.exec
  have hby := Bd.bytes
  have hlk := BodyLoose.notSynchronized Bd
  have hml : c.maxLocals = 3 := hml0
  have hown : s.vm.findClass "com/example/tercet/tercet/core/Pages" = some m.cls := findClass_of_methodNamed Bd.named
  have hnm := (name_of_methodNamed Bd.named Bd.method).1
  have X0 : Stand p l e ({ frames := 0, cells := 0, slots := 0, locals := 0 } : Room) s m #[(.ref a1), (.int (1 : Int32)), (.int p3)] below meth c s₁ [] 0 0 := Stand.of_body Bd
  have e0 : s₁.heap = h0 := by rw [← hh, Bd.state]; rfl
  have N0 := Fr.nil n0
  refine OwnR.of (s := s) (Q := QS_1_2 Z p3 f1 h0 n0) (fun t k => castTop (ef_rmS_1_2 m a1 p3) k) ?_
  show OwnR _ _ _ _ _ _ _ (s₁.setTop (mkF m 0 #[.val (.ref a1), .val (.int (1 : Int32)), .val (.int p3)] []))
  refine OwnR.of (fun _ hr => XS.iloadN X0.here hx rfl (hb hby d9_0) rfl hr) ?_
  show OwnR _ _ _ _ _ _ _ (s₁.setTop (mkF m 1 #[.val (.ref a1), .val (.int (1 : Int32)), .val (.int p3)] [(.int (1 : Int32))]))
  refine OwnR.of (fun _ hr => XS.ifNo X0.here hx rfl (hb hby d9_1) rfl ((if0 _ _).trans (tlt (by decide : (0 : Int32) < (1 : Int32))).2.2.2) hr) ?_
  show OwnR _ _ _ _ _ _ _ (s₁.setTop (mkF m 4 #[.val (.ref a1), .val (.int (1 : Int32)), .val (.int p3)] []))
  refine OwnR.of (fun _ hr => XS.aloadN X0.here hx rfl (hb hby d9_4) rfl rfl hr) ?_
  show OwnR _ _ _ _ _ _ _ (s₁.setTop (mkF m 5 #[.val (.ref a1), .val (.int (1 : Int32)), .val (.int p3)] [(.ref a1)]))
  obtain ⟨T1, X1, e1, st1⟩ := getF X0 hx hZ hown (host := "") (Or.inl (hw _ (List.mem_of_getElem? (i := 31) rfl))) Via.refl e0 F_firsts_a1 (g := (mkF m 5 #[.val (.ref a1), .val (.int (1 : Int32)), .val (.int p3)] [(.ref a1)])) rfl rfl (hb hby d9_5)
  refine OwnR.of (st1) ?_
  show OwnR _ _ _ _ _ _ _ (T1.setTop (mkF m 8 #[.val (.ref a1), .val (.int (1 : Int32)), .val (.int p3)] [(.ref bf)]))
  refine OwnR.of (fun _ hr => XS.iloadN X1.here hx rfl (hb hby d9_8) rfl hr) ?_
  show OwnR _ _ _ _ _ _ _ (T1.setTop (mkF m 9 #[.val (.ref a1), .val (.int (1 : Int32)), .val (.int p3)] [(.int (1 : Int32)), (.ref bf)]))
  obtain ⟨cl2, Ar2, -, S2, N2, H2, G2⟩ := id V_bf
  have hin2 : ¬ ((1 : Int32) < 0 ∨ cl2.slots.size ≤ ((1 : Int32)).toNatClampNeg) := (inb_of S2 ⟨by decide, by decide⟩)
  refine OwnR.of (X1.iaload hx (j := (1 : Int32)) (v := (.int f1)) (by rw [e1]; exact Ar2.1) (State.isArrayOf_alike hZ.alike Ar2.2.1) Ar2.2.2 hin2 (Has.at H2 hin2 rfl) (g := (mkF m 9 #[.val (.ref a1), .val (.int (1 : Int32)), .val (.int p3)] [(.int (1 : Int32)), (.ref bf)])) rfl rfl (hb hby d9_9)) ?_
  show OwnR _ _ _ _ _ _ _ (T1.setTop (mkF m 10 #[.val (.ref a1), .val (.int (1 : Int32)), .val (.int p3)] [(.int f1)]))
  refine OwnR.of (fun _ hr => XS.iloadN X1.here hx rfl (hb hby d9_10) rfl hr) ?_
  show OwnR _ _ _ _ _ _ _ (T1.setTop (mkF m 11 #[.val (.ref a1), .val (.int (1 : Int32)), .val (.int p3)] [(.int p3), (.int f1)]))
  by_cases hc11_3 : f1 = p3
  · skip
    refine OwnR.of (fun _ hr => XS.icmpNo X1.here hx rfl (hb hby d9_11) rfl (teq hc11_3).2 hr) ?_
    show OwnR _ _ _ _ _ _ _ (T1.setTop (mkF m 14 #[.val (.ref a1), .val (.int (1 : Int32)), .val (.int p3)] []))
    refine OwnR.of (fun _ hr => XS.iconst X1.here hx rfl (hb hby d9_14) hr) ?_
    show OwnR _ _ _ _ _ _ _ (T1.setTop (mkF m 15 #[.val (.ref a1), .val (.int (1 : Int32)), .val (.int p3)] [(.int (1 : Int32))]))
    refine OwnR.of (fun _ hr => XS.goto X1.here hx rfl (pc0 := 15) (pc' := 19) rfl (hb hby d9_15) (by decide) (by decide) hr) ?_
    show OwnR _ _ _ _ _ _ _ (T1.setTop (mkF m 19 #[.val (.ref a1), .val (.int (1 : Int32)), .val (.int p3)] [(.int (1 : Int32))]))
    refine own_leafN X1 hx hlk (t := .boolean) Bd.returns (by simp) (hb hby d9_19) (z' := (1 : Int32)) rfl (by decide) (by decide) ?_
    show QS_1_2 Z p3 f1 h0 n0 _ T1.heap _
    rw [show T1.heap = h0 from e1]
    refine ⟨?_, N0, rfl⟩
    show (some (.int (1 : Int32)) : Option Value) = some (.int (own_sp f1 p3))
    simp only [own_sp, if_pos hc11_3]
  · skip
    refine OwnR.of (fun _ hr => XS.icmpYes X1.here hx rfl (pc0 := 11) (pc' := 18) rfl (hb hby d9_11) rfl (feq hc11_3).2 (by decide) (by decide) hr) ?_
    show OwnR _ _ _ _ _ _ _ (T1.setTop (mkF m 18 #[.val (.ref a1), .val (.int (1 : Int32)), .val (.int p3)] []))
    refine OwnR.of (fun _ hr => XS.iconst X1.here hx rfl (hb hby d9_18) hr) ?_
    show OwnR _ _ _ _ _ _ _ (T1.setTop (mkF m 19 #[.val (.ref a1), .val (.int (1 : Int32)), .val (.int p3)] [(.int (0 : Int32))]))
    refine own_leafN X1 hx hlk (t := .boolean) Bd.returns (by simp) (hb hby d9_19) (z' := (0 : Int32)) rfl (by decide) (by decide) ?_
    show QS_1_2 Z p3 f1 h0 n0 _ T1.heap _
    rw [show T1.heap = h0 from e1]
    refine ⟨?_, N0, rfl⟩
    show (some (.int (0 : Int32)) : Option Value) = some (.int (own_sp f1 p3))
    simp only [own_sp, if_neg hc11_3]
theorem ef_rmS_1_4 (m : MethodId) (x0 : Addr) (x2 : Int32) : entryFrame m #[(.ref x0), (.int (1 : Int32)), (.int x2)] 3 = mkF m 0 #[.val (.ref x0), .val (.int (1 : Int32)), .val (.int x2)] [] := by first | (simp [entryFrame, mkF, argsToLocals, Value.category]; done) | rfl
def QS_1_4 (Z : State) (p3 : Int32) (f1 : Int32) (h0 : Heap) (n0 : Nat) (v : Option Value) (h : Heap) (L : List Loc) : Prop := v = some (.int (own_sp f1 p3)) ∧ Fr n0 L ∧ h = h0
set_option maxRecDepth 65536 in
set_option maxHeartbeats 40000000 in
theorem rmS_1_4 (l : Launch) (Z : State) (a0 : Array Value) (hw : ∀ d ∈ tables_1, d.before a0 Z = true) (ws : List Jvm.Cond) (a1 : Addr) (p3 : Int32) (bf : Addr) (kf : ClassId) (f0 f1 f2 f3 : Int32) (h0 : Heap) (n0 : Nat) (Z0 : n0 ≤ h0.size) (E_a1 : Exa Z h0 a1 "com/example/tercet/tercet/core/Pages") (F_firsts_a1 : Fld Z h0 a1 "com/example/tercet/tercet/core/Pages" "firsts" "[I" (.ref bf)) (V_bf : Arv Z h0 bf kf .int (4 : Int32) [(.int f0), (.int f1), (.int f2), (.int f3)] (.int (0 : Int32))) :
    MetFree l (⟨"com/example/tercet/tercet/core/Pages", "startsPage", "(II)Z"⟩ : MethodName) (head1 (Jvm.Cond.code (⟨"com/example/tercet/tercet/core/Pages", "startsPage", "(II)Z"⟩ : MethodName) prog_34_method_10_code 3 (some .boolean) :: ws) ({ frames := 0, cells := 0, slots := 0, locals := 0 } : Room)) (fun a U => a = #[(.ref a1), (.int (1 : Int32)), (.int p3)] ∧ Z.Warmed39 U.vm ∧ U.heap = h0) (fun _ _ _ _ _ => True) (fun _ U o U' => ∃ v L, o = .returned v ∧ QS_1_4 Z p3 f1 h0 n0 v U'.heap L ∧ FrameEnd U o U' L ({ frames := 0, cells := 0, slots := 0, locals := 0 } : Room).cells ({ frames := 0, cells := 0, slots := 0, locals := 0 } : Room).slots) := by
  refine MetFree.of_bodySF (plainFor_of_name pn_com_example_tercet_tercet_core_Pages) hisR ?_
  intro p e s m args below meth c s₁ Bd hml0 hP hK
  obtain ⟨rfl, hZ, hh⟩ := hP
  have hx := Bd.exec
  have hby := Bd.bytes
  have hlk := BodyLoose.notSynchronized Bd
  have hml : c.maxLocals = 3 := hml0
  have hown : s.vm.findClass "com/example/tercet/tercet/core/Pages" = some m.cls := findClass_of_methodNamed Bd.named
  have hnm := (name_of_methodNamed Bd.named Bd.method).1
  have X0 : Stand p l e ({ frames := 0, cells := 0, slots := 0, locals := 0 } : Room) s m #[(.ref a1), (.int (1 : Int32)), (.int p3)] below meth c s₁ [] 0 0 := Stand.of_body Bd
  have e0 : s₁.heap = h0 := by rw [← hh, Bd.state]; rfl
  have N0 := Fr.nil n0
  refine OwnR.of (s := s) (Q := QS_1_4 Z p3 f1 h0 n0) (fun t k => castTop (ef_rmS_1_4 m a1 p3) k) ?_
  show OwnR _ _ _ _ _ _ _ (s₁.setTop (mkF m 0 #[.val (.ref a1), .val (.int (1 : Int32)), .val (.int p3)] []))
  refine OwnR.of (fun _ hr => XS.iloadN X0.here hx rfl (hb hby d9_0) rfl hr) ?_
  show OwnR _ _ _ _ _ _ _ (s₁.setTop (mkF m 1 #[.val (.ref a1), .val (.int (1 : Int32)), .val (.int p3)] [(.int (1 : Int32))]))
  refine OwnR.of (fun _ hr => XS.ifNo X0.here hx rfl (hb hby d9_1) rfl ((if0 _ _).trans (tlt (by decide : (0 : Int32) < (1 : Int32))).2.2.2) hr) ?_
  show OwnR _ _ _ _ _ _ _ (s₁.setTop (mkF m 4 #[.val (.ref a1), .val (.int (1 : Int32)), .val (.int p3)] []))
  refine OwnR.of (fun _ hr => XS.aloadN X0.here hx rfl (hb hby d9_4) rfl rfl hr) ?_
  show OwnR _ _ _ _ _ _ _ (s₁.setTop (mkF m 5 #[.val (.ref a1), .val (.int (1 : Int32)), .val (.int p3)] [(.ref a1)]))
  obtain ⟨T1, X1, e1, st1⟩ := getF X0 hx hZ hown (host := "") (Or.inl (hw _ (List.mem_of_getElem? (i := 31) rfl))) Via.refl e0 F_firsts_a1 (g := (mkF m 5 #[.val (.ref a1), .val (.int (1 : Int32)), .val (.int p3)] [(.ref a1)])) rfl rfl (hb hby d9_5)
  refine OwnR.of (st1) ?_
  show OwnR _ _ _ _ _ _ _ (T1.setTop (mkF m 8 #[.val (.ref a1), .val (.int (1 : Int32)), .val (.int p3)] [(.ref bf)]))
  refine OwnR.of (fun _ hr => XS.iloadN X1.here hx rfl (hb hby d9_8) rfl hr) ?_
  show OwnR _ _ _ _ _ _ _ (T1.setTop (mkF m 9 #[.val (.ref a1), .val (.int (1 : Int32)), .val (.int p3)] [(.int (1 : Int32)), (.ref bf)]))
  obtain ⟨cl2, Ar2, -, S2, N2, H2, G2⟩ := id V_bf
  have hin2 : ¬ ((1 : Int32) < 0 ∨ cl2.slots.size ≤ ((1 : Int32)).toNatClampNeg) := (inb_of S2 ⟨by decide, by decide⟩)
  refine OwnR.of (X1.iaload hx (j := (1 : Int32)) (v := (.int f1)) (by rw [e1]; exact Ar2.1) (State.isArrayOf_alike hZ.alike Ar2.2.1) Ar2.2.2 hin2 (Has.at H2 hin2 rfl) (g := (mkF m 9 #[.val (.ref a1), .val (.int (1 : Int32)), .val (.int p3)] [(.int (1 : Int32)), (.ref bf)])) rfl rfl (hb hby d9_9)) ?_
  show OwnR _ _ _ _ _ _ _ (T1.setTop (mkF m 10 #[.val (.ref a1), .val (.int (1 : Int32)), .val (.int p3)] [(.int f1)]))
  refine OwnR.of (fun _ hr => XS.iloadN X1.here hx rfl (hb hby d9_10) rfl hr) ?_
  show OwnR _ _ _ _ _ _ _ (T1.setTop (mkF m 11 #[.val (.ref a1), .val (.int (1 : Int32)), .val (.int p3)] [(.int p3), (.int f1)]))
  by_cases hc11_3 : f1 = p3
  · skip
    refine OwnR.of (fun _ hr => XS.icmpNo X1.here hx rfl (hb hby d9_11) rfl (teq hc11_3).2 hr) ?_
    show OwnR _ _ _ _ _ _ _ (T1.setTop (mkF m 14 #[.val (.ref a1), .val (.int (1 : Int32)), .val (.int p3)] []))
    refine OwnR.of (fun _ hr => XS.iconst X1.here hx rfl (hb hby d9_14) hr) ?_
    show OwnR _ _ _ _ _ _ _ (T1.setTop (mkF m 15 #[.val (.ref a1), .val (.int (1 : Int32)), .val (.int p3)] [(.int (1 : Int32))]))
    refine OwnR.of (fun _ hr => XS.goto X1.here hx rfl (pc0 := 15) (pc' := 19) rfl (hb hby d9_15) (by decide) (by decide) hr) ?_
    show OwnR _ _ _ _ _ _ _ (T1.setTop (mkF m 19 #[.val (.ref a1), .val (.int (1 : Int32)), .val (.int p3)] [(.int (1 : Int32))]))
    refine own_leafN X1 hx hlk (t := .boolean) Bd.returns (by simp) (hb hby d9_19) (z' := (1 : Int32)) rfl (by decide) (by decide) ?_
    show QS_1_4 Z p3 f1 h0 n0 _ T1.heap _
    rw [show T1.heap = h0 from e1]
    refine ⟨?_, N0, rfl⟩
    show (some (.int (1 : Int32)) : Option Value) = some (.int (own_sp f1 p3))
    simp only [own_sp, if_pos hc11_3]
  · skip
    refine OwnR.of (fun _ hr => XS.icmpYes X1.here hx rfl (pc0 := 11) (pc' := 18) rfl (hb hby d9_11) rfl (feq hc11_3).2 (by decide) (by decide) hr) ?_
    show OwnR _ _ _ _ _ _ _ (T1.setTop (mkF m 18 #[.val (.ref a1), .val (.int (1 : Int32)), .val (.int p3)] []))
    refine OwnR.of (fun _ hr => XS.iconst X1.here hx rfl (hb hby d9_18) hr) ?_
    show OwnR _ _ _ _ _ _ _ (T1.setTop (mkF m 19 #[.val (.ref a1), .val (.int (1 : Int32)), .val (.int p3)] [(.int (0 : Int32))]))
    refine own_leafN X1 hx hlk (t := .boolean) Bd.returns (by simp) (hb hby d9_19) (z' := (0 : Int32)) rfl (by decide) (by decide) ?_
    show QS_1_4 Z p3 f1 h0 n0 _ T1.heap _
    rw [show T1.heap = h0 from e1]
    refine ⟨?_, N0, rfl⟩
    show (some (.int (0 : Int32)) : Option Value) = some (.int (own_sp f1 p3))
    simp only [own_sp, if_neg hc11_3]
theorem ef_rmS_2_4 (m : MethodId) (x0 : Addr) (x2 : Int32) : entryFrame m #[(.ref x0), (.int (2 : Int32)), (.int x2)] 3 = mkF m 0 #[.val (.ref x0), .val (.int (2 : Int32)), .val (.int x2)] [] := by first | (simp [entryFrame, mkF, argsToLocals, Value.category]; done) | rfl
def QS_2_4 (Z : State) (p3 : Int32) (f2 : Int32) (h0 : Heap) (n0 : Nat) (v : Option Value) (h : Heap) (L : List Loc) : Prop := v = some (.int (own_sp f2 p3)) ∧ Fr n0 L ∧ h = h0
set_option maxRecDepth 65536 in
set_option maxHeartbeats 40000000 in
theorem rmS_2_4 (l : Launch) (Z : State) (a0 : Array Value) (hw : ∀ d ∈ tables_1, d.before a0 Z = true) (ws : List Jvm.Cond) (a1 : Addr) (p3 : Int32) (bf : Addr) (kf : ClassId) (f0 f1 f2 f3 : Int32) (h0 : Heap) (n0 : Nat) (Z0 : n0 ≤ h0.size) (E_a1 : Exa Z h0 a1 "com/example/tercet/tercet/core/Pages") (F_firsts_a1 : Fld Z h0 a1 "com/example/tercet/tercet/core/Pages" "firsts" "[I" (.ref bf)) (V_bf : Arv Z h0 bf kf .int (4 : Int32) [(.int f0), (.int f1), (.int f2), (.int f3)] (.int (0 : Int32))) :
    MetFree l (⟨"com/example/tercet/tercet/core/Pages", "startsPage", "(II)Z"⟩ : MethodName) (head1 (Jvm.Cond.code (⟨"com/example/tercet/tercet/core/Pages", "startsPage", "(II)Z"⟩ : MethodName) prog_34_method_10_code 3 (some .boolean) :: ws) ({ frames := 0, cells := 0, slots := 0, locals := 0 } : Room)) (fun a U => a = #[(.ref a1), (.int (2 : Int32)), (.int p3)] ∧ Z.Warmed39 U.vm ∧ U.heap = h0) (fun _ _ _ _ _ => True) (fun _ U o U' => ∃ v L, o = .returned v ∧ QS_2_4 Z p3 f2 h0 n0 v U'.heap L ∧ FrameEnd U o U' L ({ frames := 0, cells := 0, slots := 0, locals := 0 } : Room).cells ({ frames := 0, cells := 0, slots := 0, locals := 0 } : Room).slots) := by
  refine MetFree.of_bodySF (plainFor_of_name pn_com_example_tercet_tercet_core_Pages) hisR ?_
  intro p e s m args below meth c s₁ Bd hml0 hP hK
  obtain ⟨rfl, hZ, hh⟩ := hP
  have hx := Bd.exec
  have hby := Bd.bytes
  have hlk := BodyLoose.notSynchronized Bd
  have hml : c.maxLocals = 3 := hml0
  have hown : s.vm.findClass "com/example/tercet/tercet/core/Pages" = some m.cls := findClass_of_methodNamed Bd.named
  have hnm := (name_of_methodNamed Bd.named Bd.method).1
  have X0 : Stand p l e ({ frames := 0, cells := 0, slots := 0, locals := 0 } : Room) s m #[(.ref a1), (.int (2 : Int32)), (.int p3)] below meth c s₁ [] 0 0 := Stand.of_body Bd
  have e0 : s₁.heap = h0 := by rw [← hh, Bd.state]; rfl
  have N0 := Fr.nil n0
  refine OwnR.of (s := s) (Q := QS_2_4 Z p3 f2 h0 n0) (fun t k => castTop (ef_rmS_2_4 m a1 p3) k) ?_
  show OwnR _ _ _ _ _ _ _ (s₁.setTop (mkF m 0 #[.val (.ref a1), .val (.int (2 : Int32)), .val (.int p3)] []))
  refine OwnR.of (fun _ hr => XS.iloadN X0.here hx rfl (hb hby d9_0) rfl hr) ?_
  show OwnR _ _ _ _ _ _ _ (s₁.setTop (mkF m 1 #[.val (.ref a1), .val (.int (2 : Int32)), .val (.int p3)] [(.int (2 : Int32))]))
  refine OwnR.of (fun _ hr => XS.ifNo X0.here hx rfl (hb hby d9_1) rfl ((if0 _ _).trans (tlt (by decide : (0 : Int32) < (2 : Int32))).2.2.2) hr) ?_
  show OwnR _ _ _ _ _ _ _ (s₁.setTop (mkF m 4 #[.val (.ref a1), .val (.int (2 : Int32)), .val (.int p3)] []))
  refine OwnR.of (fun _ hr => XS.aloadN X0.here hx rfl (hb hby d9_4) rfl rfl hr) ?_
  show OwnR _ _ _ _ _ _ _ (s₁.setTop (mkF m 5 #[.val (.ref a1), .val (.int (2 : Int32)), .val (.int p3)] [(.ref a1)]))
  obtain ⟨T1, X1, e1, st1⟩ := getF X0 hx hZ hown (host := "") (Or.inl (hw _ (List.mem_of_getElem? (i := 31) rfl))) Via.refl e0 F_firsts_a1 (g := (mkF m 5 #[.val (.ref a1), .val (.int (2 : Int32)), .val (.int p3)] [(.ref a1)])) rfl rfl (hb hby d9_5)
  refine OwnR.of (st1) ?_
  show OwnR _ _ _ _ _ _ _ (T1.setTop (mkF m 8 #[.val (.ref a1), .val (.int (2 : Int32)), .val (.int p3)] [(.ref bf)]))
  refine OwnR.of (fun _ hr => XS.iloadN X1.here hx rfl (hb hby d9_8) rfl hr) ?_
  show OwnR _ _ _ _ _ _ _ (T1.setTop (mkF m 9 #[.val (.ref a1), .val (.int (2 : Int32)), .val (.int p3)] [(.int (2 : Int32)), (.ref bf)]))
  obtain ⟨cl2, Ar2, -, S2, N2, H2, G2⟩ := id V_bf
  have hin2 : ¬ ((2 : Int32) < 0 ∨ cl2.slots.size ≤ ((2 : Int32)).toNatClampNeg) := (inb_of S2 ⟨by decide, by decide⟩)
  refine OwnR.of (X1.iaload hx (j := (2 : Int32)) (v := (.int f2)) (by rw [e1]; exact Ar2.1) (State.isArrayOf_alike hZ.alike Ar2.2.1) Ar2.2.2 hin2 (Has.at H2 hin2 rfl) (g := (mkF m 9 #[.val (.ref a1), .val (.int (2 : Int32)), .val (.int p3)] [(.int (2 : Int32)), (.ref bf)])) rfl rfl (hb hby d9_9)) ?_
  show OwnR _ _ _ _ _ _ _ (T1.setTop (mkF m 10 #[.val (.ref a1), .val (.int (2 : Int32)), .val (.int p3)] [(.int f2)]))
  refine OwnR.of (fun _ hr => XS.iloadN X1.here hx rfl (hb hby d9_10) rfl hr) ?_
  show OwnR _ _ _ _ _ _ _ (T1.setTop (mkF m 11 #[.val (.ref a1), .val (.int (2 : Int32)), .val (.int p3)] [(.int p3), (.int f2)]))
  by_cases hc11_3 : f2 = p3
  · skip
    refine OwnR.of (fun _ hr => XS.icmpNo X1.here hx rfl (hb hby d9_11) rfl (teq hc11_3).2 hr) ?_
    show OwnR _ _ _ _ _ _ _ (T1.setTop (mkF m 14 #[.val (.ref a1), .val (.int (2 : Int32)), .val (.int p3)] []))
    refine OwnR.of (fun _ hr => XS.iconst X1.here hx rfl (hb hby d9_14) hr) ?_
    show OwnR _ _ _ _ _ _ _ (T1.setTop (mkF m 15 #[.val (.ref a1), .val (.int (2 : Int32)), .val (.int p3)] [(.int (1 : Int32))]))
    refine OwnR.of (fun _ hr => XS.goto X1.here hx rfl (pc0 := 15) (pc' := 19) rfl (hb hby d9_15) (by decide) (by decide) hr) ?_
    show OwnR _ _ _ _ _ _ _ (T1.setTop (mkF m 19 #[.val (.ref a1), .val (.int (2 : Int32)), .val (.int p3)] [(.int (1 : Int32))]))
    refine own_leafN X1 hx hlk (t := .boolean) Bd.returns (by simp) (hb hby d9_19) (z' := (1 : Int32)) rfl (by decide) (by decide) ?_
    show QS_2_4 Z p3 f2 h0 n0 _ T1.heap _
    rw [show T1.heap = h0 from e1]
    refine ⟨?_, N0, rfl⟩
    show (some (.int (1 : Int32)) : Option Value) = some (.int (own_sp f2 p3))
    simp only [own_sp, if_pos hc11_3]
  · skip
    refine OwnR.of (fun _ hr => XS.icmpYes X1.here hx rfl (pc0 := 11) (pc' := 18) rfl (hb hby d9_11) rfl (feq hc11_3).2 (by decide) (by decide) hr) ?_
    show OwnR _ _ _ _ _ _ _ (T1.setTop (mkF m 18 #[.val (.ref a1), .val (.int (2 : Int32)), .val (.int p3)] []))
    refine OwnR.of (fun _ hr => XS.iconst X1.here hx rfl (hb hby d9_18) hr) ?_
    show OwnR _ _ _ _ _ _ _ (T1.setTop (mkF m 19 #[.val (.ref a1), .val (.int (2 : Int32)), .val (.int p3)] [(.int (0 : Int32))]))
    refine own_leafN X1 hx hlk (t := .boolean) Bd.returns (by simp) (hb hby d9_19) (z' := (0 : Int32)) rfl (by decide) (by decide) ?_
    show QS_2_4 Z p3 f2 h0 n0 _ T1.heap _
    rw [show T1.heap = h0 from e1]
    refine ⟨?_, N0, rfl⟩
    show (some (.int (0 : Int32)) : Option Value) = some (.int (own_sp f2 p3))
    simp only [own_sp, if_neg hc11_3]
theorem pn_com_example_tercet_tercet_core_PagesStartsPagePinLaw : plainName "com/example/tercet/tercet/core/PagesStartsPagePinLaw" = true := by first | (simp [plainName, overriddenIn]; done) | decide +kernel
theorem ef_rm0 (m : MethodId) (x0 : Int32) (x1 : Int32) (x2 : Int32) (x3 : Int32) (x4 : Int32) (x5 : Int32) : entryFrame m #[(.int x0), (.int x1), (.int x2), (.int x3), (.int x4), (.int x5)] maxLocals = mkF m 0 #[.val (.int x0), .val (.int x1), .val (.int x2), .val (.int x3), .val (.int x4), .val (.int x5), .unset, .unset, .unset, .unset, .unset, .unset, .unset, .unset, .unset, .unset, .unset, .unset, .unset, .unset, .unset] [] := by first | (simp [entryFrame, mkF, argsToLocals, Value.category, maxLocals]; done) | rfl
theorem pd__I_Ljava_lang_Integer_ : parseMethodDescriptor "(I)Ljava/lang/Integer;" = some ⟨[.int], some (.object "java/lang/Integer")⟩ := by decide +kernel
theorem pd__Ljava_lang_Object_II_V : parseMethodDescriptor "(Ljava/lang/Object;II)V" = some ⟨[(.object "java/lang/Object"), .int, .int], none⟩ := by decide +kernel
theorem pd__II_Z : parseMethodDescriptor "(II)Z" = some ⟨[.int, .int], some .boolean⟩ := by decide +kernel
theorem pd__ILjava_lang_Object__V : parseMethodDescriptor "(ILjava/lang/Object;)V" = some ⟨[.int, (.object "java/lang/Object")], none⟩ := by decide +kernel
def Q0 (Z : State)  (h0 : Heap) (n0 : Nat) (v : Option Value) (h : Heap) (L : List Loc) : Prop := v = some (.int (1 : Int32)) ∧ Fr n0 L
set_option maxRecDepth 65536 in
set_option maxHeartbeats 40000000 in
theorem rm0 (l : Launch) (Z : State) (a0 : Array Value) (hw : ∀ d ∈ tables_1, d.before a0 Z = true) (ws : List Jvm.Cond) (p1 : Int32) (p2 : Int32) (p3 : Int32) (p4 : Int32) (p5 : Int32) (p6 : Int32) (mo : Addr) (sc : Addr) (cc : Cell) (iv0 iv1 iv2 : Addr) (h0 : Heap) (n0 : Nat) (Z0 : n0 ≤ h0.size) (M_mo : OwnMir Z "[Ljava/lang/Object;" mo) (S_high : Sta Z h0 "java/lang/Integer$IntegerCache" "high" "I" (.int (127 : Int32))) (S_cache : Sta Z h0 "java/lang/Integer$IntegerCache" "cache" "[Ljava/lang/Integer;" (.ref sc)) (Ar_sc : Arr Z h0 sc cc (.object "java/lang/Integer")) (hin0 : ¬ ((128 : Int32) < 0 ∨ cc.slots.size ≤ (128 : Int32).toNatClampNeg)) (hin1 : ¬ ((129 : Int32) < 0 ∨ cc.slots.size ≤ (129 : Int32).toNatClampNeg)) (hin2 : ¬ ((130 : Int32) < 0 ∨ cc.slots.size ≤ (130 : Int32).toNatClampNeg)) (hat0 : cc.slots[(128 : Int32).toNatClampNeg]? = some (.ref iv0)) (hat1 : cc.slots[(129 : Int32).toNatClampNeg]? = some (.ref iv1)) (hat2 : cc.slots[(130 : Int32).toNatClampNeg]? = some (.ref iv2)) (E_iv0 : Exa Z h0 iv0 "java/lang/Integer") (E_iv1 : Exa Z h0 iv1 "java/lang/Integer") (E_iv2 : Exa Z h0 iv2 "java/lang/Integer") :
    MetFree l x (head1 (Jvm.Cond.code x code maxLocals ret :: ws) room_1) (fun a U => a = #[(.int p1), (.int p2), (.int p3), (.int p4), (.int p5), (.int p6)] ∧ Z.Warmed39 U.vm ∧ U.heap = h0) (fun _ _ _ _ _ => True) (fun _ U o U' => ∃ v L, o = .returned v ∧ Q0 Z  h0 n0 v U'.heap L ∧ FrameEnd U o U' L 24 128) := by
  refine MetFree.of_bodySF (plainFor_of_name pn_com_example_tercet_tercet_core_PagesStartsPagePinLaw) hisR ?_
  intro p e s m args below meth c s₁ Bd hml0 hP hK
  obtain ⟨rfl, hZ, hh⟩ := hP
  have hx := Bd.exec
  have hby := Bd.bytes
  have hlk := BodyLoose.notSynchronized Bd
  have hml : c.maxLocals = 21 := hml0
  have hown : s.vm.findClass "com/example/tercet/tercet/core/PagesStartsPagePinLaw" = some m.cls := findClass_of_methodNamed Bd.named
  have hnm := (name_of_methodNamed Bd.named Bd.method).1
  have X0 : Stand p l e room_1 s m #[(.int p1), (.int p2), (.int p3), (.int p4), (.int p5), (.int p6)] below meth c s₁ [] 0 0 := Stand.of_body Bd
  have e0 : s₁.heap = h0 := by rw [← hh, Bd.state]; rfl
  have N0 := Fr.nil n0
  refine OwnR.of (s := s) (Q := Q0 Z  h0 n0) (fun t k => castTop (ef_rm0 m p1 p2 p3 p4 p5 p6) k) ?_
  show OwnR _ _ _ _ _ _ _ (s₁.setTop (mkF m 0 #[.val (.int p1), .val (.int p2), .val (.int p3), .val (.int p4), .val (.int p5), .val (.int p6), .unset, .unset, .unset, .unset, .unset, .unset, .unset, .unset, .unset, .unset, .unset, .unset, .unset, .unset, .unset] []))
  refine OwnR.of (fun _ hr => XS.iconst X0.here hx rfl (hb hby at_0) hr) ?_
  show OwnR _ _ _ _ _ _ _ (s₁.setTop (mkF m 1 #[.val (.int p1), .val (.int p2), .val (.int p3), .val (.int p4), .val (.int p5), .val (.int p6), .unset, .unset, .unset, .unset, .unset, .unset, .unset, .unset, .unset, .unset, .unset, .unset, .unset, .unset, .unset] [(.int (1 : Int32))]))
  refine OwnR.of (fun _ hr => XS.iloadN X0.here hx rfl (hb hby at_1) rfl hr) ?_
  show OwnR _ _ _ _ _ _ _ (s₁.setTop (mkF m 2 #[.val (.int p1), .val (.int p2), .val (.int p3), .val (.int p4), .val (.int p5), .val (.int p6), .unset, .unset, .unset, .unset, .unset, .unset, .unset, .unset, .unset, .unset, .unset, .unset, .unset, .unset, .unset] [(.int p1), (.int (1 : Int32))]))
  refine OwnR.of (X0.ldcInt hx hown (mvT hZ (hw _ (List.mem_of_getElem? (i := 0) rfl))) (g := (mkF m 2 #[.val (.int p1), .val (.int p2), .val (.int p3), .val (.int p4), .val (.int p5), .val (.int p6), .unset, .unset, .unset, .unset, .unset, .unset, .unset, .unset, .unset, .unset, .unset, .unset, .unset, .unset, .unset] [(.int p1), (.int (1 : Int32))])) rfl (hb hby at_2)) ?_
  show OwnR _ _ _ _ _ _ _ (s₁.setTop (mkF m 4 #[.val (.int p1), .val (.int p2), .val (.int p3), .val (.int p4), .val (.int p5), .val (.int p6), .unset, .unset, .unset, .unset, .unset, .unset, .unset, .unset, .unset, .unset, .unset, .unset, .unset, .unset, .unset] [(.int (1073741823 : Int32)), (.int p1), (.int (1 : Int32))]))
  refine OwnR.of (fun _ hr => XS.iand X0.here hx rfl (hb hby at_4) rfl hr) ?_
  show OwnR _ _ _ _ _ _ _ (s₁.setTop (mkF m 5 #[.val (.int p1), .val (.int p2), .val (.int p3), .val (.int p4), .val (.int p5), .val (.int p6), .unset, .unset, .unset, .unset, .unset, .unset, .unset, .unset, .unset, .unset, .unset, .unset, .unset, .unset, .unset] [(.int (p1 &&& (1073741823 : Int32))), (.int (1 : Int32))]))
  refine OwnR.of (fun _ hr => XS.iadd X0.here hx rfl (hb hby at_5) rfl hr) ?_
  show OwnR _ _ _ _ _ _ _ (s₁.setTop (mkF m 6 #[.val (.int p1), .val (.int p2), .val (.int p3), .val (.int p4), .val (.int p5), .val (.int p6), .unset, .unset, .unset, .unset, .unset, .unset, .unset, .unset, .unset, .unset, .unset, .unset, .unset, .unset, .unset] [(.int ((1 : Int32) + (p1 &&& (1073741823 : Int32))))]))
  refine OwnR.of (fun _ hr => XS.istore X0.here hx rfl (hb hby at_6) rfl (l' := #[.val (.int p1), .val (.int p2), .val (.int p3), .val (.int p4), .val (.int p5), .val (.int p6), .val (.int ((1 : Int32) + (p1 &&& (1073741823 : Int32)))), .unset, .unset, .unset, .unset, .unset, .unset, .unset, .unset, .unset, .unset, .unset, .unset, .unset, .unset]) rfl hr) ?_
  show OwnR _ _ _ _ _ _ _ (s₁.setTop (mkF m 8 #[.val (.int p1), .val (.int p2), .val (.int p3), .val (.int p4), .val (.int p5), .val (.int p6), .val (.int ((1 : Int32) + (p1 &&& (1073741823 : Int32)))), .unset, .unset, .unset, .unset, .unset, .unset, .unset, .unset, .unset, .unset, .unset, .unset, .unset, .unset] []))
  obtain ⟨i1, hi1⟩ : ∃ z : Int32, z = ((1 : Int32) + (p1 &&& (1073741823 : Int32))) := ⟨_, rfl⟩
  rw [← hi1]
  show OwnR _ _ _ _ _ _ _ (s₁.setTop (mkF m 8 #[.val (.int p1), .val (.int p2), .val (.int p3), .val (.int p4), .val (.int p5), .val (.int p6), .val (.int i1), .unset, .unset, .unset, .unset, .unset, .unset, .unset, .unset, .unset, .unset, .unset, .unset, .unset, .unset] []))
  have b1 : 1 ≤ i1.toInt ∧ i1.toInt ≤ 1073741824 := by rw [hi1]; exact own_i1 p1
  refine OwnR.of (fun _ hr => XS.iload X0.here hx rfl (hb hby at_8) rfl hr) ?_
  show OwnR _ _ _ _ _ _ _ (s₁.setTop (mkF m 10 #[.val (.int p1), .val (.int p2), .val (.int p3), .val (.int p4), .val (.int p5), .val (.int p6), .val (.int i1), .unset, .unset, .unset, .unset, .unset, .unset, .unset, .unset, .unset, .unset, .unset, .unset, .unset, .unset] [(.int i1)]))
  refine OwnR.of (fun _ hr => XS.iconst X0.here hx rfl (hb hby at_10) hr) ?_
  show OwnR _ _ _ _ _ _ _ (s₁.setTop (mkF m 11 #[.val (.int p1), .val (.int p2), .val (.int p3), .val (.int p4), .val (.int p5), .val (.int p6), .val (.int i1), .unset, .unset, .unset, .unset, .unset, .unset, .unset, .unset, .unset, .unset, .unset, .unset, .unset, .unset] [(.int (1 : Int32)), (.int i1)]))
  refine OwnR.of (fun _ hr => XS.iadd X0.here hx rfl (hb hby at_11) rfl hr) ?_
  show OwnR _ _ _ _ _ _ _ (s₁.setTop (mkF m 12 #[.val (.int p1), .val (.int p2), .val (.int p3), .val (.int p4), .val (.int p5), .val (.int p6), .val (.int i1), .unset, .unset, .unset, .unset, .unset, .unset, .unset, .unset, .unset, .unset, .unset, .unset, .unset, .unset] [(.int (i1 + (1 : Int32)))]))
  refine OwnR.of (fun _ hr => XS.iloadN X0.here hx rfl (hb hby at_12) rfl hr) ?_
  show OwnR _ _ _ _ _ _ _ (s₁.setTop (mkF m 13 #[.val (.int p1), .val (.int p2), .val (.int p3), .val (.int p4), .val (.int p5), .val (.int p6), .val (.int i1), .unset, .unset, .unset, .unset, .unset, .unset, .unset, .unset, .unset, .unset, .unset, .unset, .unset, .unset] [(.int p2), (.int (i1 + (1 : Int32)))]))
  refine OwnR.of (X0.ldcInt hx hown (mvT hZ (hw _ (List.mem_of_getElem? (i := 1) rfl))) (g := (mkF m 13 #[.val (.int p1), .val (.int p2), .val (.int p3), .val (.int p4), .val (.int p5), .val (.int p6), .val (.int i1), .unset, .unset, .unset, .unset, .unset, .unset, .unset, .unset, .unset, .unset, .unset, .unset, .unset, .unset] [(.int p2), (.int (i1 + (1 : Int32)))])) rfl (hb hby at_13)) ?_
  show OwnR _ _ _ _ _ _ _ (s₁.setTop (mkF m 15 #[.val (.int p1), .val (.int p2), .val (.int p3), .val (.int p4), .val (.int p5), .val (.int p6), .val (.int i1), .unset, .unset, .unset, .unset, .unset, .unset, .unset, .unset, .unset, .unset, .unset, .unset, .unset, .unset] [(.int (1073741822 : Int32)), (.int p2), (.int (i1 + (1 : Int32)))]))
  refine OwnR.of (fun _ hr => XS.iand X0.here hx rfl (hb hby at_15) rfl hr) ?_
  show OwnR _ _ _ _ _ _ _ (s₁.setTop (mkF m 16 #[.val (.int p1), .val (.int p2), .val (.int p3), .val (.int p4), .val (.int p5), .val (.int p6), .val (.int i1), .unset, .unset, .unset, .unset, .unset, .unset, .unset, .unset, .unset, .unset, .unset, .unset, .unset, .unset] [(.int (p2 &&& (1073741822 : Int32))), (.int (i1 + (1 : Int32)))]))
  refine OwnR.of (fun _ hr => XS.iadd X0.here hx rfl (hb hby at_16) rfl hr) ?_
  show OwnR _ _ _ _ _ _ _ (s₁.setTop (mkF m 17 #[.val (.int p1), .val (.int p2), .val (.int p3), .val (.int p4), .val (.int p5), .val (.int p6), .val (.int i1), .unset, .unset, .unset, .unset, .unset, .unset, .unset, .unset, .unset, .unset, .unset, .unset, .unset, .unset] [(.int ((i1 + (1 : Int32)) + (p2 &&& (1073741822 : Int32))))]))
  refine OwnR.of (fun _ hr => XS.istore X0.here hx rfl (hb hby at_17) rfl (l' := #[.val (.int p1), .val (.int p2), .val (.int p3), .val (.int p4), .val (.int p5), .val (.int p6), .val (.int i1), .val (.int ((i1 + (1 : Int32)) + (p2 &&& (1073741822 : Int32)))), .unset, .unset, .unset, .unset, .unset, .unset, .unset, .unset, .unset, .unset, .unset, .unset, .unset]) rfl hr) ?_
  show OwnR _ _ _ _ _ _ _ (s₁.setTop (mkF m 19 #[.val (.int p1), .val (.int p2), .val (.int p3), .val (.int p4), .val (.int p5), .val (.int p6), .val (.int i1), .val (.int ((i1 + (1 : Int32)) + (p2 &&& (1073741822 : Int32)))), .unset, .unset, .unset, .unset, .unset, .unset, .unset, .unset, .unset, .unset, .unset, .unset, .unset] []))
  obtain ⟨i2, hi2⟩ : ∃ z : Int32, z = ((i1 + (1 : Int32)) + (p2 &&& (1073741822 : Int32))) := ⟨_, rfl⟩
  rw [← hi2]
  show OwnR _ _ _ _ _ _ _ (s₁.setTop (mkF m 19 #[.val (.int p1), .val (.int p2), .val (.int p3), .val (.int p4), .val (.int p5), .val (.int p6), .val (.int i1), .val (.int i2), .unset, .unset, .unset, .unset, .unset, .unset, .unset, .unset, .unset, .unset, .unset, .unset, .unset] []))
  have b2 : i1.toInt < i2.toInt := by rw [hi2]; exact own_i2 i1 p2 b1
  have b2g := own_ge b1 b2
  refine OwnR.of (fun _ hr => XS.iloadN X0.here hx rfl (hb hby at_19) rfl hr) ?_
  show OwnR _ _ _ _ _ _ _ (s₁.setTop (mkF m 20 #[.val (.int p1), .val (.int p2), .val (.int p3), .val (.int p4), .val (.int p5), .val (.int p6), .val (.int i1), .val (.int i2), .unset, .unset, .unset, .unset, .unset, .unset, .unset, .unset, .unset, .unset, .unset, .unset, .unset] [(.int p3)]))
  refine OwnR.of (X0.ldcInt hx hown (mvT hZ (hw _ (List.mem_of_getElem? (i := 2) rfl))) (g := (mkF m 20 #[.val (.int p1), .val (.int p2), .val (.int p3), .val (.int p4), .val (.int p5), .val (.int p6), .val (.int i1), .val (.int i2), .unset, .unset, .unset, .unset, .unset, .unset, .unset, .unset, .unset, .unset, .unset, .unset, .unset] [(.int p3)])) rfl (hb hby at_20)) ?_
  show OwnR _ _ _ _ _ _ _ (s₁.setTop (mkF m 22 #[.val (.int p1), .val (.int p2), .val (.int p3), .val (.int p4), .val (.int p5), .val (.int p6), .val (.int i1), .val (.int i2), .unset, .unset, .unset, .unset, .unset, .unset, .unset, .unset, .unset, .unset, .unset, .unset, .unset] [(.int (2147483647 : Int32)), (.int p3)]))
  refine OwnR.of (fun _ hr => XS.iand X0.here hx rfl (hb hby at_22) rfl hr) ?_
  show OwnR _ _ _ _ _ _ _ (s₁.setTop (mkF m 23 #[.val (.int p1), .val (.int p2), .val (.int p3), .val (.int p4), .val (.int p5), .val (.int p6), .val (.int i1), .val (.int i2), .unset, .unset, .unset, .unset, .unset, .unset, .unset, .unset, .unset, .unset, .unset, .unset, .unset] [(.int (p3 &&& (2147483647 : Int32)))]))
  refine OwnR.of (fun _ hr => XS.iconst X0.here hx rfl (hb hby at_23) hr) ?_
  show OwnR _ _ _ _ _ _ _ (s₁.setTop (mkF m 24 #[.val (.int p1), .val (.int p2), .val (.int p3), .val (.int p4), .val (.int p5), .val (.int p6), .val (.int i1), .val (.int i2), .unset, .unset, .unset, .unset, .unset, .unset, .unset, .unset, .unset, .unset, .unset, .unset, .unset] [(.int (3 : Int32)), (.int (p3 &&& (2147483647 : Int32)))]))
  refine OwnR.of (fun _ hr => iremM X0 hx rfl (hb hby at_24) rfl (by decide) hr) ?_
  show OwnR _ _ _ _ _ _ _ (s₁.setTop (mkF m 25 #[.val (.int p1), .val (.int p2), .val (.int p3), .val (.int p4), .val (.int p5), .val (.int p6), .val (.int i1), .val (.int i2), .unset, .unset, .unset, .unset, .unset, .unset, .unset, .unset, .unset, .unset, .unset, .unset, .unset] [(.int ((p3 &&& (2147483647 : Int32)) % (3 : Int32)))]))
  refine OwnR.of (fun _ hr => XS.istore X0.here hx rfl (hb hby at_25) rfl (l' := #[.val (.int p1), .val (.int p2), .val (.int p3), .val (.int p4), .val (.int p5), .val (.int p6), .val (.int i1), .val (.int i2), .val (.int ((p3 &&& (2147483647 : Int32)) % (3 : Int32))), .unset, .unset, .unset, .unset, .unset, .unset, .unset, .unset, .unset, .unset, .unset, .unset]) rfl hr) ?_
  show OwnR _ _ _ _ _ _ _ (s₁.setTop (mkF m 27 #[.val (.int p1), .val (.int p2), .val (.int p3), .val (.int p4), .val (.int p5), .val (.int p6), .val (.int i1), .val (.int i2), .val (.int ((p3 &&& (2147483647 : Int32)) % (3 : Int32))), .unset, .unset, .unset, .unset, .unset, .unset, .unset, .unset, .unset, .unset, .unset, .unset] []))
  obtain ⟨nt, hnt⟩ : ∃ z : Int32, z = ((p3 &&& (2147483647 : Int32)) % (3 : Int32)) := ⟨_, rfl⟩
  rw [← hnt]
  show OwnR _ _ _ _ _ _ _ (s₁.setTop (mkF m 27 #[.val (.int p1), .val (.int p2), .val (.int p3), .val (.int p4), .val (.int p5), .val (.int p6), .val (.int i1), .val (.int i2), .val (.int nt), .unset, .unset, .unset, .unset, .unset, .unset, .unset, .unset, .unset, .unset, .unset, .unset] []))
  have hnt3 : nt = (0 : Int32) ∨ nt = (1 : Int32) ∨ nt = (2 : Int32) := by rw [hnt]; exact own_m3 p3
  rcases hnt3 with rfl | rfl | rfl
  · skip
    show OwnR _ _ _ _ _ _ _ (s₁.setTop (mkF m 27 #[.val (.int p1), .val (.int p2), .val (.int p3), .val (.int p4), .val (.int p5), .val (.int p6), .val (.int i1), .val (.int i2), .val (.int (0 : Int32)), .unset, .unset, .unset, .unset, .unset, .unset, .unset, .unset, .unset, .unset, .unset, .unset] []))
    refine OwnR.of (fun _ hr => XS.iloadN X0.here hx rfl (hb hby at_27) rfl hr) ?_
    show OwnR _ _ _ _ _ _ _ (s₁.setTop (mkF m 28 #[.val (.int p1), .val (.int p2), .val (.int p3), .val (.int p4), .val (.int p5), .val (.int p6), .val (.int i1), .val (.int i2), .val (.int (0 : Int32)), .unset, .unset, .unset, .unset, .unset, .unset, .unset, .unset, .unset, .unset, .unset, .unset] [(.int p4)]))
    refine OwnR.of (X0.ldcInt hx hown (mvT hZ (hw _ (List.mem_of_getElem? (i := 2) rfl))) (g := (mkF m 28 #[.val (.int p1), .val (.int p2), .val (.int p3), .val (.int p4), .val (.int p5), .val (.int p6), .val (.int i1), .val (.int i2), .val (.int (0 : Int32)), .unset, .unset, .unset, .unset, .unset, .unset, .unset, .unset, .unset, .unset, .unset, .unset] [(.int p4)])) rfl (hb hby at_28)) ?_
    show OwnR _ _ _ _ _ _ _ (s₁.setTop (mkF m 30 #[.val (.int p1), .val (.int p2), .val (.int p3), .val (.int p4), .val (.int p5), .val (.int p6), .val (.int i1), .val (.int i2), .val (.int (0 : Int32)), .unset, .unset, .unset, .unset, .unset, .unset, .unset, .unset, .unset, .unset, .unset, .unset] [(.int (2147483647 : Int32)), (.int p4)]))
    refine OwnR.of (fun _ hr => XS.iand X0.here hx rfl (hb hby at_30) rfl hr) ?_
    show OwnR _ _ _ _ _ _ _ (s₁.setTop (mkF m 31 #[.val (.int p1), .val (.int p2), .val (.int p3), .val (.int p4), .val (.int p5), .val (.int p6), .val (.int i1), .val (.int i2), .val (.int (0 : Int32)), .unset, .unset, .unset, .unset, .unset, .unset, .unset, .unset, .unset, .unset, .unset, .unset] [(.int (p4 &&& (2147483647 : Int32)))]))
    refine OwnR.of (fun _ hr => XS.iload X0.here hx rfl (hb hby at_31) rfl hr) ?_
    show OwnR _ _ _ _ _ _ _ (s₁.setTop (mkF m 33 #[.val (.int p1), .val (.int p2), .val (.int p3), .val (.int p4), .val (.int p5), .val (.int p6), .val (.int i1), .val (.int i2), .val (.int (0 : Int32)), .unset, .unset, .unset, .unset, .unset, .unset, .unset, .unset, .unset, .unset, .unset, .unset] [(.int (0 : Int32)), (.int (p4 &&& (2147483647 : Int32)))]))
    refine OwnR.of (fun _ hr => XS.iconst X0.here hx rfl (hb hby at_33) hr) ?_
    show OwnR _ _ _ _ _ _ _ (s₁.setTop (mkF m 34 #[.val (.int p1), .val (.int p2), .val (.int p3), .val (.int p4), .val (.int p5), .val (.int p6), .val (.int i1), .val (.int i2), .val (.int (0 : Int32)), .unset, .unset, .unset, .unset, .unset, .unset, .unset, .unset, .unset, .unset, .unset, .unset] [(.int (1 : Int32)), (.int (0 : Int32)), (.int (p4 &&& (2147483647 : Int32)))]))
    refine OwnR.of (fun _ hr => XS.iadd X0.here hx rfl (hb hby at_34) rfl hr) ?_
    show OwnR _ _ _ _ _ _ _ (s₁.setTop (mkF m 35 #[.val (.int p1), .val (.int p2), .val (.int p3), .val (.int p4), .val (.int p5), .val (.int p6), .val (.int i1), .val (.int i2), .val (.int (0 : Int32)), .unset, .unset, .unset, .unset, .unset, .unset, .unset, .unset, .unset, .unset, .unset, .unset] [(.int ((0 : Int32) + (1 : Int32))), (.int (p4 &&& (2147483647 : Int32)))]))
    rw [(by decide : ((0 : Int32) + (1 : Int32)) = (1 : Int32))]
    show OwnR _ _ _ _ _ _ _ (s₁.setTop (mkF m 35 #[.val (.int p1), .val (.int p2), .val (.int p3), .val (.int p4), .val (.int p5), .val (.int p6), .val (.int i1), .val (.int i2), .val (.int (0 : Int32)), .unset, .unset, .unset, .unset, .unset, .unset, .unset, .unset, .unset, .unset, .unset, .unset] [(.int (1 : Int32)), (.int (p4 &&& (2147483647 : Int32)))]))
    refine OwnR.of (fun _ hr => iremM X0 hx rfl (hb hby at_35) rfl (by decide) hr) ?_
    show OwnR _ _ _ _ _ _ _ (s₁.setTop (mkF m 36 #[.val (.int p1), .val (.int p2), .val (.int p3), .val (.int p4), .val (.int p5), .val (.int p6), .val (.int i1), .val (.int i2), .val (.int (0 : Int32)), .unset, .unset, .unset, .unset, .unset, .unset, .unset, .unset, .unset, .unset, .unset, .unset] [(.int ((p4 &&& (2147483647 : Int32)) % (1 : Int32)))]))
    refine OwnR.of (fun _ hr => XS.istore X0.here hx rfl (hb hby at_36) rfl (l' := #[.val (.int p1), .val (.int p2), .val (.int p3), .val (.int p4), .val (.int p5), .val (.int p6), .val (.int i1), .val (.int i2), .val (.int (0 : Int32)), .val (.int ((p4 &&& (2147483647 : Int32)) % (1 : Int32))), .unset, .unset, .unset, .unset, .unset, .unset, .unset, .unset, .unset, .unset, .unset]) rfl hr) ?_
    show OwnR _ _ _ _ _ _ _ (s₁.setTop (mkF m 38 #[.val (.int p1), .val (.int p2), .val (.int p3), .val (.int p4), .val (.int p5), .val (.int p6), .val (.int i1), .val (.int i2), .val (.int (0 : Int32)), .val (.int ((p4 &&& (2147483647 : Int32)) % (1 : Int32))), .unset, .unset, .unset, .unset, .unset, .unset, .unset, .unset, .unset, .unset, .unset] []))
    obtain ⟨pg, hpg⟩ : ∃ z : Int32, z = ((p4 &&& (2147483647 : Int32)) % (1 : Int32)) := ⟨_, rfl⟩
    rw [← hpg]
    show OwnR _ _ _ _ _ _ _ (s₁.setTop (mkF m 38 #[.val (.int p1), .val (.int p2), .val (.int p3), .val (.int p4), .val (.int p5), .val (.int p6), .val (.int i1), .val (.int i2), .val (.int (0 : Int32)), .val (.int pg), .unset, .unset, .unset, .unset, .unset, .unset, .unset, .unset, .unset, .unset, .unset] []))
    have hpgs : pg = (0 : Int32) := by rw [hpg]; exact own_m1 p4
    rcases hpgs with rfl
    · skip
      show OwnR _ _ _ _ _ _ _ (s₁.setTop (mkF m 38 #[.val (.int p1), .val (.int p2), .val (.int p3), .val (.int p4), .val (.int p5), .val (.int p6), .val (.int i1), .val (.int i2), .val (.int (0 : Int32)), .val (.int (0 : Int32)), .unset, .unset, .unset, .unset, .unset, .unset, .unset, .unset, .unset, .unset, .unset] []))
      obtain ⟨T7, h7, X7, e7, E7, A7, D7, -, st7⟩ := newO X0 hx hZ hown (hw _ (List.mem_of_getElem? (i := 3) rfl)) (hw _ (List.mem_of_getElem? (i := 4) rfl)) (hw _ (List.mem_of_getElem? (i := 5) rfl)) e0 (g := (mkF m 38 #[.val (.int p1), .val (.int p2), .val (.int p3), .val (.int p4), .val (.int p5), .val (.int p6), .val (.int i1), .val (.int i2), .val (.int (0 : Int32)), .val (.int (0 : Int32)), .unset, .unset, .unset, .unset, .unset, .unset, .unset, .unset, .unset, .unset, .unset] [])) rfl (hb hby at_38) (by decide) (by decide)
      obtain ⟨b7, g7⟩ : ∃ z, z = h0.size := ⟨_, rfl⟩
      rw [← g7] at A7 D7 st7
      refine OwnR.of (st7) ?_
      have gn_b7 : n0 ≤ b7 := Nat.le_trans (Nat.le_trans Z0 (Keep.refl h0 []).1) (Nat.le_of_eq g7.symm)
      have sz_b7 : h0.size ≤ b7 := Nat.le_trans (Keep.refl h0 []).1 (Nat.le_of_eq g7.symm)
      have K7 : Keep h0 h7 [] := Keep.ext (Keep.refl h0 []) E7
      have F_pageLength_b7 : Fld Z h7 b7 "com/example/tercet/tercet/core/Pages" "pageLength" "I" (.int (0 : Int32)) := D7 (Or.inr (hw _ (List.mem_of_getElem? (i := 20) rfl))) (ty := .int) (by decide)
      have F_limit_b7 : Fld Z h7 b7 "com/example/tercet/tercet/core/Pages" "limit" "I" (.int (0 : Int32)) := D7 (Or.inl (hw _ (List.mem_of_getElem? (i := 22) rfl))) (ty := .int) (by decide)
      have F_last_b7 : Fld Z h7 b7 "com/example/tercet/tercet/core/Pages" "last" "Ljava/lang/Object;" .null := D7 (Or.inl (hw _ (List.mem_of_getElem? (i := 24) rfl))) (ty := (.object "java/lang/Object")) (by decide)
      have F_pages_b7 : Fld Z h7 b7 "com/example/tercet/tercet/core/Pages" "pages" "[Ljava/lang/Object;" .null := D7 (Or.inl (hw _ (List.mem_of_getElem? (i := 29) rfl))) (ty := (.array (.object "java/lang/Object"))) (by decide)
      have F_firsts_b7 : Fld Z h7 b7 "com/example/tercet/tercet/core/Pages" "firsts" "[I" .null := D7 (Or.inl (hw _ (List.mem_of_getElem? (i := 32) rfl))) (ty := (.array .int)) (by decide)
      have F_count_b7 : Fld Z h7 b7 "com/example/tercet/tercet/core/Pages" "count" "I" (.int (0 : Int32)) := D7 (Or.inl (hw _ (List.mem_of_getElem? (i := 34) rfl))) (ty := .int) (by decide)
      show OwnR _ _ _ _ _ _ _ (T7.setTop (mkF m 41 #[.val (.int p1), .val (.int p2), .val (.int p3), .val (.int p4), .val (.int p5), .val (.int p6), .val (.int i1), .val (.int i2), .val (.int (0 : Int32)), .val (.int (0 : Int32)), .unset, .unset, .unset, .unset, .unset, .unset, .unset, .unset, .unset, .unset, .unset] [(.ref b7)]))
      refine OwnR.of (fun _ hr => XS.dup X7.here hx rfl (hb hby at_41) rfl rfl hr) ?_
      show OwnR _ _ _ _ _ _ _ (T7.setTop (mkF m 42 #[.val (.int p1), .val (.int p2), .val (.int p3), .val (.int p4), .val (.int p5), .val (.int p6), .val (.int i1), .val (.int i2), .val (.int (0 : Int32)), .val (.int (0 : Int32)), .unset, .unset, .unset, .unset, .unset, .unset, .unset, .unset, .unset, .unset, .unset] [(.ref b7), (.ref b7)]))
      refine OwnR.of (fun _ hr => XS.iconst X7.here hx rfl (hb hby at_42) hr) ?_
      show OwnR _ _ _ _ _ _ _ (T7.setTop (mkF m 43 #[.val (.int p1), .val (.int p2), .val (.int p3), .val (.int p4), .val (.int p5), .val (.int p6), .val (.int i1), .val (.int i2), .val (.int (0 : Int32)), .val (.int (0 : Int32)), .unset, .unset, .unset, .unset, .unset, .unset, .unset, .unset, .unset, .unset, .unset] [(.int (0 : Int32)), (.ref b7), (.ref b7)]))
      obtain ⟨_, _, ⟨T8, L8, kc8, ns8⟩, -, X8, ⟨Lc8, hQ8, l8, y8, z8⟩, st8⟩ := Jvm.LawKit.callS X7 hx (y := (⟨"java/lang/Integer", "valueOf", "(I)Ljava/lang/Integer;"⟩ : MethodName)) hown (mvT hZ (hw _ (List.mem_of_getElem? (i := 6) rfl))) (mvT hZ (hw _ (List.mem_of_getElem? (i := 7) rfl))) (mvT hZ (hw _ (List.mem_of_getElem? (i := 8) rfl))) (mvT hZ (hw _ (List.mem_of_getElem? (i := 9) rfl))) (by decide) (backOf (W := 2) (rmV_0 l Z a0 hw [] sc cc iv0 iv1 iv2 h7 n0 (Nat.le_trans Z0 K7.1) (own_sta S_high K7) (own_sta S_cache K7) (own_arr Ar_sc K7 nin0) hin0 hin1 hin2 hat0 hat1 hat2) hZ (hw _ (List.mem_of_getElem? (i := 9) rfl)) (hw _ (List.mem_of_getElem? (i := 8) rfl)) (by decide) (by decide)) (g := (mkF m 43 #[.val (.int p1), .val (.int p2), .val (.int p3), .val (.int p4), .val (.int p5), .val (.int p6), .val (.int i1), .val (.int i2), .val (.int (0 : Int32)), .val (.int (0 : Int32)), .unset, .unset, .unset, .unset, .unset, .unset, .unset, .unset, .unset, .unset, .unset] [(.int (0 : Int32)), (.ref b7), (.ref b7)])) rfl (by rw [hml]; rfl) (argsL := [(.int (0 : Int32))]) (rest := [(.ref b7), (.ref b7)]) (lenOf pd__I_Ljava_lang_Integer_ rfl) rfl (by show 2 * 0 + _ ≤ _; exact Nat.le_of_eq rfl) (hb hby at_43) (fun _ _ => ⟨rfl, e7, (by decide : 1 + 0 ≤ _), (by decide : 7 + 0 ≤ _)⟩)
      dsimp only [Pt.U, Pt.locs, Pt.cells, Pt.slots] at X8 l8 y8 z8 st8 hQ8
      subst l8 y8 z8
      obtain ⟨rfl, N8q, e8⟩ := hQ8
      have N8 := Fr.app N0 N8q
      refine OwnR.of (st8) ?_
      show OwnR _ _ _ _ _ _ _ (T8.setTop (mkF m 46 #[.val (.int p1), .val (.int p2), .val (.int p3), .val (.int p4), .val (.int p5), .val (.int p6), .val (.int i1), .val (.int i2), .val (.int (0 : Int32)), .val (.int (0 : Int32)), .unset, .unset, .unset, .unset, .unset, .unset, .unset, .unset, .unset, .unset, .unset] [(.ref iv0), (.ref b7), (.ref b7)]))
      refine OwnR.of (fun _ hr => XS.iconst X8.here hx rfl (hb hby at_46) hr) ?_
      show OwnR _ _ _ _ _ _ _ (T8.setTop (mkF m 47 #[.val (.int p1), .val (.int p2), .val (.int p3), .val (.int p4), .val (.int p5), .val (.int p6), .val (.int i1), .val (.int i2), .val (.int (0 : Int32)), .val (.int (0 : Int32)), .unset, .unset, .unset, .unset, .unset, .unset, .unset, .unset, .unset, .unset, .unset] [(.int (4 : Int32)), (.ref iv0), (.ref b7), (.ref b7)]))
      refine OwnR.of (fun _ hr => XS.iconst X8.here hx rfl (hb hby at_47) hr) ?_
      show OwnR _ _ _ _ _ _ _ (T8.setTop (mkF m 48 #[.val (.int p1), .val (.int p2), .val (.int p3), .val (.int p4), .val (.int p5), .val (.int p6), .val (.int i1), .val (.int i2), .val (.int (0 : Int32)), .val (.int (0 : Int32)), .unset, .unset, .unset, .unset, .unset, .unset, .unset, .unset, .unset, .unset, .unset] [(.int (2 : Int32)), (.int (4 : Int32)), (.ref iv0), (.ref b7), (.ref b7)]))
      obtain ⟨_, _, ⟨T9, L9, kc9, ns9⟩, -, X9, ⟨Lc9, hQ9, l9, y9, z9⟩, st9⟩ := X8.specialBack hx (y := (⟨"com/example/tercet/tercet/core/Pages", "<init>", "(Ljava/lang/Object;II)V"⟩ : MethodName)) rfl hown (mvT hZ (hw _ (List.mem_of_getElem? (i := 13) rfl))) (mvT hZ (hw _ (List.mem_of_getElem? (i := 14) rfl))) (mvT hZ (hw _ (List.mem_of_getElem? (i := 15) rfl))) (by decide) (backOf (W := 1) (rmI l Z a0 hw [] b7 iv0 (4 : Int32) (2 : Int32) h7 n0 (Nat.le_trans Z0 K7.1) A7 F_pageLength_b7 F_limit_b7 F_last_b7 F_pages_b7 F_firsts_b7 F_count_b7 (Exa.keep E_iv0 K7) gn_b7) hZ (hw _ (List.mem_of_getElem? (i := 15) rfl)) (hw _ (List.mem_of_getElem? (i := 5) rfl)) (by decide) (by decide)) (g := (mkF m 48 #[.val (.int p1), .val (.int p2), .val (.int p3), .val (.int p4), .val (.int p5), .val (.int p6), .val (.int i1), .val (.int i2), .val (.int (0 : Int32)), .val (.int (0 : Int32)), .unset, .unset, .unset, .unset, .unset, .unset, .unset, .unset, .unset, .unset, .unset] [(.int (2 : Int32)), (.int (4 : Int32)), (.ref iv0), (.ref b7), (.ref b7)])) rfl (by rw [hml]; rfl) (Steps.refl _) (a := b7) (argsL := [(.ref iv0), (.int (4 : Int32)), (.int (2 : Int32))]) (rest := [(.ref b7)]) (lenOf pd__Ljava_lang_Object_II_V rfl) rfl (by show 2 * 0 + _ ≤ _; exact Nat.le_of_eq rfl) (hb hby at_48) (fun _ _ => ⟨rfl, e8, (by decide : 1 + 2 ≤ _), (by decide : 7 + 2 ≤ _)⟩)
      dsimp only [Pt.U, Pt.locs, Pt.cells, Pt.slots] at X9 l9 y9 z9 st9 hQ9
      subst l9 y9 z9
      obtain ⟨b_9, kb_9, c_9, kc_9, rfl, N9q, P9_0, P9_1, P9_2, P9_3, P9_4, P9_5, P9_6, P9_7, P9_8, P9_9, P9_10, P9_11, P9_12, P9_13, P9_14⟩ := hQ9
      have K9 : Keep h0 T9.heap [] := Keep.trans K7 P9_0 (allS (Or.inr sz_b7) all0)
      have sz_b_9 : h0.size ≤ b_9 := Nat.le_trans K7.1 P9_11
      have sz_c_9 : h0.size ≤ c_9 := Nat.le_trans K7.1 P9_13
      have N9 := Fr.app N8 N9q
      refine OwnR.of (fun _ hr => st9.trans hr) ?_
      show OwnR _ _ _ _ _ _ _ (T9.setTop (mkF m 51 #[.val (.int p1), .val (.int p2), .val (.int p3), .val (.int p4), .val (.int p5), .val (.int p6), .val (.int i1), .val (.int i2), .val (.int (0 : Int32)), .val (.int (0 : Int32)), .unset, .unset, .unset, .unset, .unset, .unset, .unset, .unset, .unset, .unset, .unset] [(.ref b7)]))
      refine OwnR.of (fun _ hr => XS.astore X9.here hx rfl (hb hby at_51) rfl rfl (l' := #[.val (.int p1), .val (.int p2), .val (.int p3), .val (.int p4), .val (.int p5), .val (.int p6), .val (.int i1), .val (.int i2), .val (.int (0 : Int32)), .val (.int (0 : Int32)), .val (.ref b7), .unset, .unset, .unset, .unset, .unset, .unset, .unset, .unset, .unset, .unset]) rfl hr) ?_
      show OwnR _ _ _ _ _ _ _ (T9.setTop (mkF m 53 #[.val (.int p1), .val (.int p2), .val (.int p3), .val (.int p4), .val (.int p5), .val (.int p6), .val (.int i1), .val (.int i2), .val (.int (0 : Int32)), .val (.int (0 : Int32)), .val (.ref b7), .unset, .unset, .unset, .unset, .unset, .unset, .unset, .unset, .unset, .unset] []))
      refine OwnR.of (fun _ hr => XS.iload X9.here hx rfl (hb hby at_53) rfl hr) ?_
      show OwnR _ _ _ _ _ _ _ (T9.setTop (mkF m 55 #[.val (.int p1), .val (.int p2), .val (.int p3), .val (.int p4), .val (.int p5), .val (.int p6), .val (.int i1), .val (.int i2), .val (.int (0 : Int32)), .val (.int (0 : Int32)), .val (.ref b7), .unset, .unset, .unset, .unset, .unset, .unset, .unset, .unset, .unset, .unset] [(.int (0 : Int32))]))
      refine OwnR.of (fun _ hr => XS.iconst X9.here hx rfl (hb hby at_55) hr) ?_
      show OwnR _ _ _ _ _ _ _ (T9.setTop (mkF m 56 #[.val (.int p1), .val (.int p2), .val (.int p3), .val (.int p4), .val (.int p5), .val (.int p6), .val (.int i1), .val (.int i2), .val (.int (0 : Int32)), .val (.int (0 : Int32)), .val (.ref b7), .unset, .unset, .unset, .unset, .unset, .unset, .unset, .unset, .unset, .unset] [(.int (1 : Int32)), (.int (0 : Int32))]))
      refine OwnR.of (fun _ hr => XS.icmpYes X9.here hx rfl (pc0 := 56) (pc' := 70) rfl (hb hby at_56) rfl (tlt (by decide : (0 : Int32) < (1 : Int32))).1 (by decide) (by decide) hr) ?_
      show OwnR _ _ _ _ _ _ _ (T9.setTop (mkF m 70 #[.val (.int p1), .val (.int p2), .val (.int p3), .val (.int p4), .val (.int p5), .val (.int p6), .val (.int i1), .val (.int i2), .val (.int (0 : Int32)), .val (.int (0 : Int32)), .val (.ref b7), .unset, .unset, .unset, .unset, .unset, .unset, .unset, .unset, .unset, .unset] []))
      refine OwnR.of (fun _ hr => XS.iload X9.here hx rfl (hb hby at_70) rfl hr) ?_
      show OwnR _ _ _ _ _ _ _ (T9.setTop (mkF m 72 #[.val (.int p1), .val (.int p2), .val (.int p3), .val (.int p4), .val (.int p5), .val (.int p6), .val (.int i1), .val (.int i2), .val (.int (0 : Int32)), .val (.int (0 : Int32)), .val (.ref b7), .unset, .unset, .unset, .unset, .unset, .unset, .unset, .unset, .unset, .unset] [(.int (0 : Int32))]))
      refine OwnR.of (fun _ hr => XS.iconst X9.here hx rfl (hb hby at_72) hr) ?_
      show OwnR _ _ _ _ _ _ _ (T9.setTop (mkF m 73 #[.val (.int p1), .val (.int p2), .val (.int p3), .val (.int p4), .val (.int p5), .val (.int p6), .val (.int i1), .val (.int i2), .val (.int (0 : Int32)), .val (.int (0 : Int32)), .val (.ref b7), .unset, .unset, .unset, .unset, .unset, .unset, .unset, .unset, .unset, .unset] [(.int (2 : Int32)), (.int (0 : Int32))]))
      refine OwnR.of (fun _ hr => XS.icmpYes X9.here hx rfl (pc0 := 73) (pc' := 87) rfl (hb hby at_73) rfl (tlt (by decide : (0 : Int32) < (2 : Int32))).1 (by decide) (by decide) hr) ?_
      show OwnR _ _ _ _ _ _ _ (T9.setTop (mkF m 87 #[.val (.int p1), .val (.int p2), .val (.int p3), .val (.int p4), .val (.int p5), .val (.int p6), .val (.int i1), .val (.int i2), .val (.int (0 : Int32)), .val (.int (0 : Int32)), .val (.ref b7), .unset, .unset, .unset, .unset, .unset, .unset, .unset, .unset, .unset, .unset] []))
      refine OwnR.of (fun _ hr => XS.iload X9.here hx rfl (hb hby at_87) rfl hr) ?_
      show OwnR _ _ _ _ _ _ _ (T9.setTop (mkF m 89 #[.val (.int p1), .val (.int p2), .val (.int p3), .val (.int p4), .val (.int p5), .val (.int p6), .val (.int i1), .val (.int i2), .val (.int (0 : Int32)), .val (.int (0 : Int32)), .val (.ref b7), .unset, .unset, .unset, .unset, .unset, .unset, .unset, .unset, .unset, .unset] [(.int (0 : Int32))]))
      refine OwnR.of (fun _ hr => XS.ifNo X9.here hx rfl (hb hby at_89) rfl ((if0 _ _).trans (teq (by decide : (0 : Int32) = (0 : Int32))).2) hr) ?_
      show OwnR _ _ _ _ _ _ _ (T9.setTop (mkF m 92 #[.val (.int p1), .val (.int p2), .val (.int p3), .val (.int p4), .val (.int p5), .val (.int p6), .val (.int i1), .val (.int i2), .val (.int (0 : Int32)), .val (.int (0 : Int32)), .val (.ref b7), .unset, .unset, .unset, .unset, .unset, .unset, .unset, .unset, .unset, .unset] []))
      refine OwnR.of (fun _ hr => XS.lconst X9.here hx rfl (hb hby at_92) hr) ?_
      show OwnR _ _ _ _ _ _ _ (T9.setTop (mkF m 93 #[.val (.int p1), .val (.int p2), .val (.int p3), .val (.int p4), .val (.int p5), .val (.int p6), .val (.int i1), .val (.int i2), .val (.int (0 : Int32)), .val (.int (0 : Int32)), .val (.ref b7), .unset, .unset, .unset, .unset, .unset, .unset, .unset, .unset, .unset, .unset] [(.long (0 : Int64))]))
      refine OwnR.of (fun _ hr => XS.lstore X9.here hx rfl (hb hby at_93) rfl (l' := #[.val (.int p1), .val (.int p2), .val (.int p3), .val (.int p4), .val (.int p5), .val (.int p6), .val (.int i1), .val (.int i2), .val (.int (0 : Int32)), .val (.int (0 : Int32)), .val (.ref b7), .val (.long (0 : Int64)), .second, .unset, .unset, .unset, .unset, .unset, .unset, .unset, .unset]) rfl hr) ?_
      show OwnR _ _ _ _ _ _ _ (T9.setTop (mkF m 95 #[.val (.int p1), .val (.int p2), .val (.int p3), .val (.int p4), .val (.int p5), .val (.int p6), .val (.int i1), .val (.int i2), .val (.int (0 : Int32)), .val (.int (0 : Int32)), .val (.ref b7), .val (.long (0 : Int64)), .second, .unset, .unset, .unset, .unset, .unset, .unset, .unset, .unset] []))
      refine OwnR.of (fun _ hr => XS.iload X9.here hx rfl (hb hby at_95) rfl hr) ?_
      show OwnR _ _ _ _ _ _ _ (T9.setTop (mkF m 97 #[.val (.int p1), .val (.int p2), .val (.int p3), .val (.int p4), .val (.int p5), .val (.int p6), .val (.int i1), .val (.int i2), .val (.int (0 : Int32)), .val (.int (0 : Int32)), .val (.ref b7), .val (.long (0 : Int64)), .second, .unset, .unset, .unset, .unset, .unset, .unset, .unset, .unset] [(.int (0 : Int32))]))
      refine OwnR.of (fun _ hr => XS.iconst X9.here hx rfl (hb hby at_97) hr) ?_
      show OwnR _ _ _ _ _ _ _ (T9.setTop (mkF m 98 #[.val (.int p1), .val (.int p2), .val (.int p3), .val (.int p4), .val (.int p5), .val (.int p6), .val (.int i1), .val (.int i2), .val (.int (0 : Int32)), .val (.int (0 : Int32)), .val (.ref b7), .val (.long (0 : Int64)), .second, .unset, .unset, .unset, .unset, .unset, .unset, .unset, .unset] [(.int (1 : Int32)), (.int (0 : Int32))]))
      refine OwnR.of (fun _ hr => XS.icmpYes X9.here hx rfl (pc0 := 98) (pc' := 107) rfl (hb hby at_98) rfl (tlt (by decide : (0 : Int32) < (1 : Int32))).1 (by decide) (by decide) hr) ?_
      show OwnR _ _ _ _ _ _ _ (T9.setTop (mkF m 107 #[.val (.int p1), .val (.int p2), .val (.int p3), .val (.int p4), .val (.int p5), .val (.int p6), .val (.int i1), .val (.int i2), .val (.int (0 : Int32)), .val (.int (0 : Int32)), .val (.ref b7), .val (.long (0 : Int64)), .second, .unset, .unset, .unset, .unset, .unset, .unset, .unset, .unset] []))
      refine OwnR.of (X9.ldc2Long hx hown (mvT hZ (hw _ (List.mem_of_getElem? (i := 71) rfl))) (g := (mkF m 107 #[.val (.int p1), .val (.int p2), .val (.int p3), .val (.int p4), .val (.int p5), .val (.int p6), .val (.int i1), .val (.int i2), .val (.int (0 : Int32)), .val (.int (0 : Int32)), .val (.ref b7), .val (.long (0 : Int64)), .second, .unset, .unset, .unset, .unset, .unset, .unset, .unset, .unset] [])) rfl (hb hby at_107)) ?_
      show OwnR _ _ _ _ _ _ _ (T9.setTop (mkF m 110 #[.val (.int p1), .val (.int p2), .val (.int p3), .val (.int p4), .val (.int p5), .val (.int p6), .val (.int i1), .val (.int i2), .val (.int (0 : Int32)), .val (.int (0 : Int32)), .val (.ref b7), .val (.long (0 : Int64)), .second, .unset, .unset, .unset, .unset, .unset, .unset, .unset, .unset] [(.long (2147483648 : Int64))]))
      refine OwnR.of (fun _ hr => XS.lstore X9.here hx rfl (hb hby at_110) rfl (l' := #[.val (.int p1), .val (.int p2), .val (.int p3), .val (.int p4), .val (.int p5), .val (.int p6), .val (.int i1), .val (.int i2), .val (.int (0 : Int32)), .val (.int (0 : Int32)), .val (.ref b7), .val (.long (0 : Int64)), .second, .val (.long (2147483648 : Int64)), .second, .unset, .unset, .unset, .unset, .unset, .unset]) rfl hr) ?_
      show OwnR _ _ _ _ _ _ _ (T9.setTop (mkF m 112 #[.val (.int p1), .val (.int p2), .val (.int p3), .val (.int p4), .val (.int p5), .val (.int p6), .val (.int i1), .val (.int i2), .val (.int (0 : Int32)), .val (.int (0 : Int32)), .val (.ref b7), .val (.long (0 : Int64)), .second, .val (.long (2147483648 : Int64)), .second, .unset, .unset, .unset, .unset, .unset, .unset] []))
      refine OwnR.of (fun _ hr => XS.goto X9.here hx rfl (pc0 := 112) (pc' := 156) rfl (hb hby at_112) (by decide) (by decide) hr) ?_
      show OwnR _ _ _ _ _ _ _ (T9.setTop (mkF m 156 #[.val (.int p1), .val (.int p2), .val (.int p3), .val (.int p4), .val (.int p5), .val (.int p6), .val (.int i1), .val (.int i2), .val (.int (0 : Int32)), .val (.int (0 : Int32)), .val (.ref b7), .val (.long (0 : Int64)), .second, .val (.long (2147483648 : Int64)), .second, .unset, .unset, .unset, .unset, .unset, .unset] []))
      refine OwnR.of (fun _ hr => XS.lload X9.here hx rfl (hb hby at_156) rfl hr) ?_
      show OwnR _ _ _ _ _ _ _ (T9.setTop (mkF m 158 #[.val (.int p1), .val (.int p2), .val (.int p3), .val (.int p4), .val (.int p5), .val (.int p6), .val (.int i1), .val (.int i2), .val (.int (0 : Int32)), .val (.int (0 : Int32)), .val (.ref b7), .val (.long (0 : Int64)), .second, .val (.long (2147483648 : Int64)), .second, .unset, .unset, .unset, .unset, .unset, .unset] [(.long (2147483648 : Int64))]))
      refine OwnR.of (fun _ hr => XS.lload X9.here hx rfl (hb hby at_158) rfl hr) ?_
      show OwnR _ _ _ _ _ _ _ (T9.setTop (mkF m 160 #[.val (.int p1), .val (.int p2), .val (.int p3), .val (.int p4), .val (.int p5), .val (.int p6), .val (.int i1), .val (.int i2), .val (.int (0 : Int32)), .val (.int (0 : Int32)), .val (.ref b7), .val (.long (0 : Int64)), .second, .val (.long (2147483648 : Int64)), .second, .unset, .unset, .unset, .unset, .unset, .unset] [(.long (0 : Int64)), (.long (2147483648 : Int64))]))
      refine OwnR.of (fun _ hr => XS.lsub X9.here hx rfl (hb hby at_160) rfl hr) ?_
      show OwnR _ _ _ _ _ _ _ (T9.setTop (mkF m 161 #[.val (.int p1), .val (.int p2), .val (.int p3), .val (.int p4), .val (.int p5), .val (.int p6), .val (.int i1), .val (.int i2), .val (.int (0 : Int32)), .val (.int (0 : Int32)), .val (.ref b7), .val (.long (0 : Int64)), .second, .val (.long (2147483648 : Int64)), .second, .unset, .unset, .unset, .unset, .unset, .unset] [(.long ((2147483648 : Int64) - (0 : Int64)))]))
      rw [(by decide : ((2147483648 : Int64) - (0 : Int64)) = (2147483648 : Int64))]
      show OwnR _ _ _ _ _ _ _ (T9.setTop (mkF m 161 #[.val (.int p1), .val (.int p2), .val (.int p3), .val (.int p4), .val (.int p5), .val (.int p6), .val (.int i1), .val (.int i2), .val (.int (0 : Int32)), .val (.int (0 : Int32)), .val (.ref b7), .val (.long (0 : Int64)), .second, .val (.long (2147483648 : Int64)), .second, .unset, .unset, .unset, .unset, .unset, .unset] [(.long (2147483648 : Int64))]))
      refine OwnR.of (fun _ hr => XS.lstore X9.here hx rfl (hb hby at_161) rfl (l' := #[.val (.int p1), .val (.int p2), .val (.int p3), .val (.int p4), .val (.int p5), .val (.int p6), .val (.int i1), .val (.int i2), .val (.int (0 : Int32)), .val (.int (0 : Int32)), .val (.ref b7), .val (.long (0 : Int64)), .second, .val (.long (2147483648 : Int64)), .second, .val (.long (2147483648 : Int64)), .second, .unset, .unset, .unset, .unset]) rfl hr) ?_
      show OwnR _ _ _ _ _ _ _ (T9.setTop (mkF m 163 #[.val (.int p1), .val (.int p2), .val (.int p3), .val (.int p4), .val (.int p5), .val (.int p6), .val (.int i1), .val (.int i2), .val (.int (0 : Int32)), .val (.int (0 : Int32)), .val (.ref b7), .val (.long (0 : Int64)), .second, .val (.long (2147483648 : Int64)), .second, .val (.long (2147483648 : Int64)), .second, .unset, .unset, .unset, .unset] []))
      refine OwnR.of (fun _ hr => XS.iload X9.here hx rfl (hb hby at_163) rfl hr) ?_
      show OwnR _ _ _ _ _ _ _ (T9.setTop (mkF m 165 #[.val (.int p1), .val (.int p2), .val (.int p3), .val (.int p4), .val (.int p5), .val (.int p6), .val (.int i1), .val (.int i2), .val (.int (0 : Int32)), .val (.int (0 : Int32)), .val (.ref b7), .val (.long (0 : Int64)), .second, .val (.long (2147483648 : Int64)), .second, .val (.long (2147483648 : Int64)), .second, .unset, .unset, .unset, .unset] [(.int p6)]))
      refine OwnR.of (fun _ hr => XS.iconst X9.here hx rfl (hb hby at_165) hr) ?_
      show OwnR _ _ _ _ _ _ _ (T9.setTop (mkF m 166 #[.val (.int p1), .val (.int p2), .val (.int p3), .val (.int p4), .val (.int p5), .val (.int p6), .val (.int i1), .val (.int i2), .val (.int (0 : Int32)), .val (.int (0 : Int32)), .val (.ref b7), .val (.long (0 : Int64)), .second, .val (.long (2147483648 : Int64)), .second, .val (.long (2147483648 : Int64)), .second, .unset, .unset, .unset, .unset] [(.int (1 : Int32)), (.int p6)]))
      refine OwnR.of (fun _ hr => XS.iand X9.here hx rfl (hb hby at_166) rfl hr) ?_
      show OwnR _ _ _ _ _ _ _ (T9.setTop (mkF m 167 #[.val (.int p1), .val (.int p2), .val (.int p3), .val (.int p4), .val (.int p5), .val (.int p6), .val (.int i1), .val (.int i2), .val (.int (0 : Int32)), .val (.int (0 : Int32)), .val (.ref b7), .val (.long (0 : Int64)), .second, .val (.long (2147483648 : Int64)), .second, .val (.long (2147483648 : Int64)), .second, .unset, .unset, .unset, .unset] [(.int (p6 &&& (1 : Int32)))]))
      by_cases hc167_10 : (p6 &&& (1 : Int32)) = (0 : Int32)
      · skip
        refine OwnR.of (fun _ hr => XS.ifYes X9.here hx rfl (pc0 := 167) (pc' := 174) rfl (hb hby at_167) rfl ((if0 _ _).trans (teq hc167_10).1) (by decide) (by decide) hr) ?_
        show OwnR _ _ _ _ _ _ _ (T9.setTop (mkF m 174 #[.val (.int p1), .val (.int p2), .val (.int p3), .val (.int p4), .val (.int p5), .val (.int p6), .val (.int i1), .val (.int i2), .val (.int (0 : Int32)), .val (.int (0 : Int32)), .val (.ref b7), .val (.long (0 : Int64)), .second, .val (.long (2147483648 : Int64)), .second, .val (.long (2147483648 : Int64)), .second, .unset, .unset, .unset, .unset] []))
        refine OwnR.of (fun _ hr => XS.iload X9.here hx rfl (hb hby at_174) rfl hr) ?_
        show OwnR _ _ _ _ _ _ _ (T9.setTop (mkF m 176 #[.val (.int p1), .val (.int p2), .val (.int p3), .val (.int p4), .val (.int p5), .val (.int p6), .val (.int i1), .val (.int i2), .val (.int (0 : Int32)), .val (.int (0 : Int32)), .val (.ref b7), .val (.long (0 : Int64)), .second, .val (.long (2147483648 : Int64)), .second, .val (.long (2147483648 : Int64)), .second, .unset, .unset, .unset, .unset] [(.int p5)]))
        refine OwnR.of (X9.ldcInt hx hown (mvT hZ (hw _ (List.mem_of_getElem? (i := 2) rfl))) (g := (mkF m 176 #[.val (.int p1), .val (.int p2), .val (.int p3), .val (.int p4), .val (.int p5), .val (.int p6), .val (.int i1), .val (.int i2), .val (.int (0 : Int32)), .val (.int (0 : Int32)), .val (.ref b7), .val (.long (0 : Int64)), .second, .val (.long (2147483648 : Int64)), .second, .val (.long (2147483648 : Int64)), .second, .unset, .unset, .unset, .unset] [(.int p5)])) rfl (hb hby at_176)) ?_
        show OwnR _ _ _ _ _ _ _ (T9.setTop (mkF m 178 #[.val (.int p1), .val (.int p2), .val (.int p3), .val (.int p4), .val (.int p5), .val (.int p6), .val (.int i1), .val (.int i2), .val (.int (0 : Int32)), .val (.int (0 : Int32)), .val (.ref b7), .val (.long (0 : Int64)), .second, .val (.long (2147483648 : Int64)), .second, .val (.long (2147483648 : Int64)), .second, .unset, .unset, .unset, .unset] [(.int (2147483647 : Int32)), (.int p5)]))
        refine OwnR.of (fun _ hr => XS.iand X9.here hx rfl (hb hby at_178) rfl hr) ?_
        show OwnR _ _ _ _ _ _ _ (T9.setTop (mkF m 179 #[.val (.int p1), .val (.int p2), .val (.int p3), .val (.int p4), .val (.int p5), .val (.int p6), .val (.int i1), .val (.int i2), .val (.int (0 : Int32)), .val (.int (0 : Int32)), .val (.ref b7), .val (.long (0 : Int64)), .second, .val (.long (2147483648 : Int64)), .second, .val (.long (2147483648 : Int64)), .second, .unset, .unset, .unset, .unset] [(.int (p5 &&& (2147483647 : Int32)))]))
        refine OwnR.of (fun _ hr => XS.i2l X9.here hx rfl (hb hby at_179) rfl hr) ?_
        show OwnR _ _ _ _ _ _ _ (T9.setTop (mkF m 180 #[.val (.int p1), .val (.int p2), .val (.int p3), .val (.int p4), .val (.int p5), .val (.int p6), .val (.int i1), .val (.int i2), .val (.int (0 : Int32)), .val (.int (0 : Int32)), .val (.ref b7), .val (.long (0 : Int64)), .second, .val (.long (2147483648 : Int64)), .second, .val (.long (2147483648 : Int64)), .second, .unset, .unset, .unset, .unset] [(.long ((p5 &&& (2147483647 : Int32)).toInt64))]))
        refine OwnR.of (fun _ hr => XS.lload X9.here hx rfl (hb hby at_180) rfl hr) ?_
        show OwnR _ _ _ _ _ _ _ (T9.setTop (mkF m 182 #[.val (.int p1), .val (.int p2), .val (.int p3), .val (.int p4), .val (.int p5), .val (.int p6), .val (.int i1), .val (.int i2), .val (.int (0 : Int32)), .val (.int (0 : Int32)), .val (.ref b7), .val (.long (0 : Int64)), .second, .val (.long (2147483648 : Int64)), .second, .val (.long (2147483648 : Int64)), .second, .unset, .unset, .unset, .unset] [(.long (2147483648 : Int64)), (.long ((p5 &&& (2147483647 : Int32)).toInt64))]))
        refine OwnR.of (fun _ hr => XS.lrem X9.here hx rfl (hb hby at_182) rfl (by decide) hr) ?_
        show OwnR _ _ _ _ _ _ _ (T9.setTop (mkF m 183 #[.val (.int p1), .val (.int p2), .val (.int p3), .val (.int p4), .val (.int p5), .val (.int p6), .val (.int i1), .val (.int i2), .val (.int (0 : Int32)), .val (.int (0 : Int32)), .val (.ref b7), .val (.long (0 : Int64)), .second, .val (.long (2147483648 : Int64)), .second, .val (.long (2147483648 : Int64)), .second, .unset, .unset, .unset, .unset] [(.long (((p5 &&& (2147483647 : Int32)).toInt64) - (((p5 &&& (2147483647 : Int32)).toInt64) / (2147483648 : Int64)) * (2147483648 : Int64)))]))
        refine OwnR.of (fun _ hr => XS.lstore X9.here hx rfl (hb hby at_183) rfl (l' := #[.val (.int p1), .val (.int p2), .val (.int p3), .val (.int p4), .val (.int p5), .val (.int p6), .val (.int i1), .val (.int i2), .val (.int (0 : Int32)), .val (.int (0 : Int32)), .val (.ref b7), .val (.long (0 : Int64)), .second, .val (.long (2147483648 : Int64)), .second, .val (.long (2147483648 : Int64)), .second, .val (.long (((p5 &&& (2147483647 : Int32)).toInt64) - (((p5 &&& (2147483647 : Int32)).toInt64) / (2147483648 : Int64)) * (2147483648 : Int64))), .second, .unset, .unset]) rfl hr) ?_
        show OwnR _ _ _ _ _ _ _ (T9.setTop (mkF m 185 #[.val (.int p1), .val (.int p2), .val (.int p3), .val (.int p4), .val (.int p5), .val (.int p6), .val (.int i1), .val (.int i2), .val (.int (0 : Int32)), .val (.int (0 : Int32)), .val (.ref b7), .val (.long (0 : Int64)), .second, .val (.long (2147483648 : Int64)), .second, .val (.long (2147483648 : Int64)), .second, .val (.long (((p5 &&& (2147483647 : Int32)).toInt64) - (((p5 &&& (2147483647 : Int32)).toInt64) / (2147483648 : Int64)) * (2147483648 : Int64))), .second, .unset, .unset] []))
        obtain ⟨off, hoff⟩ : ∃ z : Int64, z = (((p5 &&& (2147483647 : Int32)).toInt64) - (((p5 &&& (2147483647 : Int32)).toInt64) / (2147483648 : Int64)) * (2147483648 : Int64)) := ⟨_, rfl⟩
        rw [← hoff]
        show OwnR _ _ _ _ _ _ _ (T9.setTop (mkF m 185 #[.val (.int p1), .val (.int p2), .val (.int p3), .val (.int p4), .val (.int p5), .val (.int p6), .val (.int i1), .val (.int i2), .val (.int (0 : Int32)), .val (.int (0 : Int32)), .val (.ref b7), .val (.long (0 : Int64)), .second, .val (.long (2147483648 : Int64)), .second, .val (.long (2147483648 : Int64)), .second, .val (.long off), .second, .unset, .unset] []))
        refine OwnR.of (fun _ hr => XS.lload X9.here hx rfl (hb hby at_185) rfl hr) ?_
        show OwnR _ _ _ _ _ _ _ (T9.setTop (mkF m 187 #[.val (.int p1), .val (.int p2), .val (.int p3), .val (.int p4), .val (.int p5), .val (.int p6), .val (.int i1), .val (.int i2), .val (.int (0 : Int32)), .val (.int (0 : Int32)), .val (.ref b7), .val (.long (0 : Int64)), .second, .val (.long (2147483648 : Int64)), .second, .val (.long (2147483648 : Int64)), .second, .val (.long off), .second, .unset, .unset] [(.long (0 : Int64))]))
        refine OwnR.of (fun _ hr => XS.lload X9.here hx rfl (hb hby at_187) rfl hr) ?_
        show OwnR _ _ _ _ _ _ _ (T9.setTop (mkF m 189 #[.val (.int p1), .val (.int p2), .val (.int p3), .val (.int p4), .val (.int p5), .val (.int p6), .val (.int i1), .val (.int i2), .val (.int (0 : Int32)), .val (.int (0 : Int32)), .val (.ref b7), .val (.long (0 : Int64)), .second, .val (.long (2147483648 : Int64)), .second, .val (.long (2147483648 : Int64)), .second, .val (.long off), .second, .unset, .unset] [(.long off), (.long (0 : Int64))]))
        refine OwnR.of (fun _ hr => XS.ladd X9.here hx rfl (hb hby at_189) rfl hr) ?_
        show OwnR _ _ _ _ _ _ _ (T9.setTop (mkF m 190 #[.val (.int p1), .val (.int p2), .val (.int p3), .val (.int p4), .val (.int p5), .val (.int p6), .val (.int i1), .val (.int i2), .val (.int (0 : Int32)), .val (.int (0 : Int32)), .val (.ref b7), .val (.long (0 : Int64)), .second, .val (.long (2147483648 : Int64)), .second, .val (.long (2147483648 : Int64)), .second, .val (.long off), .second, .unset, .unset] [(.long ((0 : Int64) + off))]))
        refine OwnR.of (fun _ hr => XS.l2i X9.here hx rfl (hb hby at_190) rfl hr) ?_
        show OwnR _ _ _ _ _ _ _ (T9.setTop (mkF m 191 #[.val (.int p1), .val (.int p2), .val (.int p3), .val (.int p4), .val (.int p5), .val (.int p6), .val (.int i1), .val (.int i2), .val (.int (0 : Int32)), .val (.int (0 : Int32)), .val (.ref b7), .val (.long (0 : Int64)), .second, .val (.long (2147483648 : Int64)), .second, .val (.long (2147483648 : Int64)), .second, .val (.long off), .second, .unset, .unset] [(.int (((0 : Int64) + off).toInt32))]))
        refine OwnR.of (fun _ hr => XS.istore X9.here hx rfl (hb hby at_191) rfl (l' := #[.val (.int p1), .val (.int p2), .val (.int p3), .val (.int p4), .val (.int p5), .val (.int p6), .val (.int i1), .val (.int i2), .val (.int (0 : Int32)), .val (.int (0 : Int32)), .val (.ref b7), .val (.long (0 : Int64)), .second, .val (.long (2147483648 : Int64)), .second, .val (.long (2147483648 : Int64)), .second, .val (.long off), .second, .val (.int (((0 : Int64) + off).toInt32)), .unset]) rfl hr) ?_
        show OwnR _ _ _ _ _ _ _ (T9.setTop (mkF m 193 #[.val (.int p1), .val (.int p2), .val (.int p3), .val (.int p4), .val (.int p5), .val (.int p6), .val (.int i1), .val (.int i2), .val (.int (0 : Int32)), .val (.int (0 : Int32)), .val (.ref b7), .val (.long (0 : Int64)), .second, .val (.long (2147483648 : Int64)), .second, .val (.long (2147483648 : Int64)), .second, .val (.long off), .second, .val (.int (((0 : Int64) + off).toInt32)), .unset] []))
        refine OwnR.of (fun _ hr => XS.iload X9.here hx rfl (hb hby at_193) rfl hr) ?_
        show OwnR _ _ _ _ _ _ _ (T9.setTop (mkF m 195 #[.val (.int p1), .val (.int p2), .val (.int p3), .val (.int p4), .val (.int p5), .val (.int p6), .val (.int i1), .val (.int i2), .val (.int (0 : Int32)), .val (.int (0 : Int32)), .val (.ref b7), .val (.long (0 : Int64)), .second, .val (.long (2147483648 : Int64)), .second, .val (.long (2147483648 : Int64)), .second, .val (.long off), .second, .val (.int (((0 : Int64) + off).toInt32)), .unset] [(.int (0 : Int32))]))
        refine OwnR.of (fun _ hr => XS.ifYes X9.here hx rfl (pc0 := 195) (pc' := 209) rfl (hb hby at_195) rfl ((if0 _ _).trans (flt (by decide : ¬ ((0 : Int32) < (0 : Int32)))).2.2.2) (by decide) (by decide) hr) ?_
        show OwnR _ _ _ _ _ _ _ (T9.setTop (mkF m 209 #[.val (.int p1), .val (.int p2), .val (.int p3), .val (.int p4), .val (.int p5), .val (.int p6), .val (.int i1), .val (.int i2), .val (.int (0 : Int32)), .val (.int (0 : Int32)), .val (.ref b7), .val (.long (0 : Int64)), .second, .val (.long (2147483648 : Int64)), .second, .val (.long (2147483648 : Int64)), .second, .val (.long off), .second, .val (.int (((0 : Int64) + off).toInt32)), .unset] []))
        refine OwnR.of (fun _ hr => XS.iconst X9.here hx rfl (hb hby at_209) hr) ?_
        show OwnR _ _ _ _ _ _ _ (T9.setTop (mkF m 210 #[.val (.int p1), .val (.int p2), .val (.int p3), .val (.int p4), .val (.int p5), .val (.int p6), .val (.int i1), .val (.int i2), .val (.int (0 : Int32)), .val (.int (0 : Int32)), .val (.ref b7), .val (.long (0 : Int64)), .second, .val (.long (2147483648 : Int64)), .second, .val (.long (2147483648 : Int64)), .second, .val (.long off), .second, .val (.int (((0 : Int64) + off).toInt32)), .unset] [(.int (0 : Int32))]))
        refine OwnR.of (fun _ hr => XS.istore X9.here hx rfl (hb hby at_210) rfl (l' := #[.val (.int p1), .val (.int p2), .val (.int p3), .val (.int p4), .val (.int p5), .val (.int p6), .val (.int i1), .val (.int i2), .val (.int (0 : Int32)), .val (.int (0 : Int32)), .val (.ref b7), .val (.long (0 : Int64)), .second, .val (.long (2147483648 : Int64)), .second, .val (.long (2147483648 : Int64)), .second, .val (.long off), .second, .val (.int (((0 : Int64) + off).toInt32)), .val (.int (0 : Int32))]) rfl hr) ?_
        show OwnR _ _ _ _ _ _ _ (T9.setTop (mkF m 212 #[.val (.int p1), .val (.int p2), .val (.int p3), .val (.int p4), .val (.int p5), .val (.int p6), .val (.int i1), .val (.int i2), .val (.int (0 : Int32)), .val (.int (0 : Int32)), .val (.ref b7), .val (.long (0 : Int64)), .second, .val (.long (2147483648 : Int64)), .second, .val (.long (2147483648 : Int64)), .second, .val (.long off), .second, .val (.int (((0 : Int64) + off).toInt32)), .val (.int (0 : Int32))] []))
        refine OwnR.of (fun _ hr => XS.aload X9.here hx rfl (hb hby at_212) rfl rfl hr) ?_
        show OwnR _ _ _ _ _ _ _ (T9.setTop (mkF m 214 #[.val (.int p1), .val (.int p2), .val (.int p3), .val (.int p4), .val (.int p5), .val (.int p6), .val (.int i1), .val (.int i2), .val (.int (0 : Int32)), .val (.int (0 : Int32)), .val (.ref b7), .val (.long (0 : Int64)), .second, .val (.long (2147483648 : Int64)), .second, .val (.long (2147483648 : Int64)), .second, .val (.long off), .second, .val (.int (((0 : Int64) + off).toInt32)), .val (.int (0 : Int32))] [(.ref b7)]))
        refine OwnR.of (fun _ hr => XS.iload X9.here hx rfl (hb hby at_214) rfl hr) ?_
        show OwnR _ _ _ _ _ _ _ (T9.setTop (mkF m 216 #[.val (.int p1), .val (.int p2), .val (.int p3), .val (.int p4), .val (.int p5), .val (.int p6), .val (.int i1), .val (.int i2), .val (.int (0 : Int32)), .val (.int (0 : Int32)), .val (.ref b7), .val (.long (0 : Int64)), .second, .val (.long (2147483648 : Int64)), .second, .val (.long (2147483648 : Int64)), .second, .val (.long off), .second, .val (.int (((0 : Int64) + off).toInt32)), .val (.int (0 : Int32))] [(.int (0 : Int32)), (.ref b7)]))
        refine OwnR.of (fun _ hr => XS.iload X9.here hx rfl (hb hby at_216) rfl hr) ?_
        show OwnR _ _ _ _ _ _ _ (T9.setTop (mkF m 218 #[.val (.int p1), .val (.int p2), .val (.int p3), .val (.int p4), .val (.int p5), .val (.int p6), .val (.int i1), .val (.int i2), .val (.int (0 : Int32)), .val (.int (0 : Int32)), .val (.ref b7), .val (.long (0 : Int64)), .second, .val (.long (2147483648 : Int64)), .second, .val (.long (2147483648 : Int64)), .second, .val (.long off), .second, .val (.int (((0 : Int64) + off).toInt32)), .val (.int (0 : Int32))] [(.int (((0 : Int64) + off).toInt32)), (.int (0 : Int32)), (.ref b7)]))
        obtain ⟨cq11, kq11, q11a, q11b, q11c⟩ := isOf hZ rfl P9_1
        obtain ⟨_, _, ⟨T11, L11, kc11, ns11⟩, -, X11, ⟨Lc11, hQ11, l11, y11, z11⟩, st11⟩ := X9.virtualBack hx (y := (⟨"com/example/tercet/tercet/core/Pages", "startsPage", "(II)Z"⟩ : MethodName)) (z := (⟨"com/example/tercet/tercet/core/Pages", "startsPage", "(II)Z"⟩ : MethodName)) hown (mvT hZ (hw _ (List.mem_of_getElem? (i := 66) rfl))) (mvT hZ (hw _ (List.mem_of_getElem? (i := 67) rfl))) (notFace_of_selects (args := #[]) (mvT hZ (hw _ (List.mem_of_getElem? (i := 69) rfl)))) (mvT hZ (hw _ (List.mem_of_getElem? (i := 69) rfl))) (mvT hZ (hw _ (List.mem_of_getElem? (i := 68) rfl))) (by decide) (backOf (W := 0) (rmS_0 l Z a0 hw [] b7 (((0 : Int64) + off).toInt32) (T9.heap) n0 (Nat.le_trans Z0 K9.1) ) hZ (hw _ (List.mem_of_getElem? (i := 70) rfl)) (hw _ (List.mem_of_getElem? (i := 5) rfl)) (by decide) (by decide)) q11a q11c (g := (mkF m 218 #[.val (.int p1), .val (.int p2), .val (.int p3), .val (.int p4), .val (.int p5), .val (.int p6), .val (.int i1), .val (.int i2), .val (.int (0 : Int32)), .val (.int (0 : Int32)), .val (.ref b7), .val (.long (0 : Int64)), .second, .val (.long (2147483648 : Int64)), .second, .val (.long (2147483648 : Int64)), .second, .val (.long off), .second, .val (.int (((0 : Int64) + off).toInt32)), .val (.int (0 : Int32))] [(.int (((0 : Int64) + off).toInt32)), (.int (0 : Int32)), (.ref b7)])) rfl (by rw [hml]; rfl) (Steps.refl _) (argsL := [(.int (0 : Int32)), (.int (((0 : Int64) + off).toInt32))]) (rest := []) (lenOf pd__II_Z rfl) rfl (by show 2 * 0 + _ ≤ _; exact Nat.le_of_eq rfl) (hb hby at_218) (fun _ _ => ⟨rfl, rfl, (by decide : 3 + 0 ≤ _), (by decide : 9 + 0 ≤ _)⟩)
        dsimp only [Pt.U, Pt.locs, Pt.cells, Pt.slots] at X11 l11 y11 z11 st11 hQ11
        subst l11 y11 z11
        obtain ⟨rfl, N11q, e11⟩ := hQ11
        have N11 := Fr.app N9 N11q
        refine OwnR.of (fun _ hr => st11.trans hr) ?_
        show OwnR _ _ _ _ _ _ _ (T11.setTop (mkF m 221 #[.val (.int p1), .val (.int p2), .val (.int p3), .val (.int p4), .val (.int p5), .val (.int p6), .val (.int i1), .val (.int i2), .val (.int (0 : Int32)), .val (.int (0 : Int32)), .val (.ref b7), .val (.long (0 : Int64)), .second, .val (.long (2147483648 : Int64)), .second, .val (.long (2147483648 : Int64)), .second, .val (.long off), .second, .val (.int (((0 : Int64) + off).toInt32)), .val (.int (0 : Int32))] [(.int (0 : Int32))]))
        refine OwnR.of (fun _ hr => XS.iload X11.here hx rfl (hb hby at_221) rfl hr) ?_
        show OwnR _ _ _ _ _ _ _ (T11.setTop (mkF m 223 #[.val (.int p1), .val (.int p2), .val (.int p3), .val (.int p4), .val (.int p5), .val (.int p6), .val (.int i1), .val (.int i2), .val (.int (0 : Int32)), .val (.int (0 : Int32)), .val (.ref b7), .val (.long (0 : Int64)), .second, .val (.long (2147483648 : Int64)), .second, .val (.long (2147483648 : Int64)), .second, .val (.long off), .second, .val (.int (((0 : Int64) + off).toInt32)), .val (.int (0 : Int32))] [(.int (0 : Int32)), (.int (0 : Int32))]))
        refine OwnR.of (fun _ hr => XS.icmpNo X11.here hx rfl (hb hby at_223) rfl (teq (by decide : (0 : Int32) = (0 : Int32))).2 hr) ?_
        show OwnR _ _ _ _ _ _ _ (T11.setTop (mkF m 226 #[.val (.int p1), .val (.int p2), .val (.int p3), .val (.int p4), .val (.int p5), .val (.int p6), .val (.int i1), .val (.int i2), .val (.int (0 : Int32)), .val (.int (0 : Int32)), .val (.ref b7), .val (.long (0 : Int64)), .second, .val (.long (2147483648 : Int64)), .second, .val (.long (2147483648 : Int64)), .second, .val (.long off), .second, .val (.int (((0 : Int64) + off).toInt32)), .val (.int (0 : Int32))] []))
        refine OwnR.of (fun _ hr => XS.iconst X11.here hx rfl (hb hby at_226) hr) ?_
        show OwnR _ _ _ _ _ _ _ (T11.setTop (mkF m 227 #[.val (.int p1), .val (.int p2), .val (.int p3), .val (.int p4), .val (.int p5), .val (.int p6), .val (.int i1), .val (.int i2), .val (.int (0 : Int32)), .val (.int (0 : Int32)), .val (.ref b7), .val (.long (0 : Int64)), .second, .val (.long (2147483648 : Int64)), .second, .val (.long (2147483648 : Int64)), .second, .val (.long off), .second, .val (.int (((0 : Int64) + off).toInt32)), .val (.int (0 : Int32))] [(.int (1 : Int32))]))
        refine OwnR.of (fun _ hr => XS.goto X11.here hx rfl (pc0 := 227) (pc' := 231) rfl (hb hby at_227) (by decide) (by decide) hr) ?_
        show OwnR _ _ _ _ _ _ _ (T11.setTop (mkF m 231 #[.val (.int p1), .val (.int p2), .val (.int p3), .val (.int p4), .val (.int p5), .val (.int p6), .val (.int i1), .val (.int i2), .val (.int (0 : Int32)), .val (.int (0 : Int32)), .val (.ref b7), .val (.long (0 : Int64)), .second, .val (.long (2147483648 : Int64)), .second, .val (.long (2147483648 : Int64)), .second, .val (.long off), .second, .val (.int (((0 : Int64) + off).toInt32)), .val (.int (0 : Int32))] [(.int (1 : Int32))]))
        refine own_leafN X11 hx hlk (t := .boolean) Bd.returns (by simp) (hb hby at_231) (z' := (1 : Int32)) rfl (by decide) (by decide) ?_
        show Q0 Z  h0 n0 _ T11.heap _
        rw [show T11.heap = T9.heap from e11]
        refine ⟨?_, N11⟩
        show (some (.int (1 : Int32)) : Option Value) = some (.int (1 : Int32))
        rfl
      · skip
        refine OwnR.of (fun _ hr => XS.ifNo X9.here hx rfl (hb hby at_167) rfl ((if0 _ _).trans (feq hc167_10).1) hr) ?_
        show OwnR _ _ _ _ _ _ _ (T9.setTop (mkF m 170 #[.val (.int p1), .val (.int p2), .val (.int p3), .val (.int p4), .val (.int p5), .val (.int p6), .val (.int i1), .val (.int i2), .val (.int (0 : Int32)), .val (.int (0 : Int32)), .val (.ref b7), .val (.long (0 : Int64)), .second, .val (.long (2147483648 : Int64)), .second, .val (.long (2147483648 : Int64)), .second, .unset, .unset, .unset, .unset] []))
        refine OwnR.of (fun _ hr => XS.lconst X9.here hx rfl (hb hby at_170) hr) ?_
        show OwnR _ _ _ _ _ _ _ (T9.setTop (mkF m 171 #[.val (.int p1), .val (.int p2), .val (.int p3), .val (.int p4), .val (.int p5), .val (.int p6), .val (.int i1), .val (.int i2), .val (.int (0 : Int32)), .val (.int (0 : Int32)), .val (.ref b7), .val (.long (0 : Int64)), .second, .val (.long (2147483648 : Int64)), .second, .val (.long (2147483648 : Int64)), .second, .unset, .unset, .unset, .unset] [(.long (0 : Int64))]))
        refine OwnR.of (fun _ hr => XS.goto X9.here hx rfl (pc0 := 171) (pc' := 183) rfl (hb hby at_171) (by decide) (by decide) hr) ?_
        show OwnR _ _ _ _ _ _ _ (T9.setTop (mkF m 183 #[.val (.int p1), .val (.int p2), .val (.int p3), .val (.int p4), .val (.int p5), .val (.int p6), .val (.int i1), .val (.int i2), .val (.int (0 : Int32)), .val (.int (0 : Int32)), .val (.ref b7), .val (.long (0 : Int64)), .second, .val (.long (2147483648 : Int64)), .second, .val (.long (2147483648 : Int64)), .second, .unset, .unset, .unset, .unset] [(.long (0 : Int64))]))
        refine OwnR.of (fun _ hr => XS.lstore X9.here hx rfl (hb hby at_183) rfl (l' := #[.val (.int p1), .val (.int p2), .val (.int p3), .val (.int p4), .val (.int p5), .val (.int p6), .val (.int i1), .val (.int i2), .val (.int (0 : Int32)), .val (.int (0 : Int32)), .val (.ref b7), .val (.long (0 : Int64)), .second, .val (.long (2147483648 : Int64)), .second, .val (.long (2147483648 : Int64)), .second, .val (.long (0 : Int64)), .second, .unset, .unset]) rfl hr) ?_
        show OwnR _ _ _ _ _ _ _ (T9.setTop (mkF m 185 #[.val (.int p1), .val (.int p2), .val (.int p3), .val (.int p4), .val (.int p5), .val (.int p6), .val (.int i1), .val (.int i2), .val (.int (0 : Int32)), .val (.int (0 : Int32)), .val (.ref b7), .val (.long (0 : Int64)), .second, .val (.long (2147483648 : Int64)), .second, .val (.long (2147483648 : Int64)), .second, .val (.long (0 : Int64)), .second, .unset, .unset] []))
        refine OwnR.of (fun _ hr => XS.lload X9.here hx rfl (hb hby at_185) rfl hr) ?_
        show OwnR _ _ _ _ _ _ _ (T9.setTop (mkF m 187 #[.val (.int p1), .val (.int p2), .val (.int p3), .val (.int p4), .val (.int p5), .val (.int p6), .val (.int i1), .val (.int i2), .val (.int (0 : Int32)), .val (.int (0 : Int32)), .val (.ref b7), .val (.long (0 : Int64)), .second, .val (.long (2147483648 : Int64)), .second, .val (.long (2147483648 : Int64)), .second, .val (.long (0 : Int64)), .second, .unset, .unset] [(.long (0 : Int64))]))
        refine OwnR.of (fun _ hr => XS.lload X9.here hx rfl (hb hby at_187) rfl hr) ?_
        show OwnR _ _ _ _ _ _ _ (T9.setTop (mkF m 189 #[.val (.int p1), .val (.int p2), .val (.int p3), .val (.int p4), .val (.int p5), .val (.int p6), .val (.int i1), .val (.int i2), .val (.int (0 : Int32)), .val (.int (0 : Int32)), .val (.ref b7), .val (.long (0 : Int64)), .second, .val (.long (2147483648 : Int64)), .second, .val (.long (2147483648 : Int64)), .second, .val (.long (0 : Int64)), .second, .unset, .unset] [(.long (0 : Int64)), (.long (0 : Int64))]))
        refine OwnR.of (fun _ hr => XS.ladd X9.here hx rfl (hb hby at_189) rfl hr) ?_
        show OwnR _ _ _ _ _ _ _ (T9.setTop (mkF m 190 #[.val (.int p1), .val (.int p2), .val (.int p3), .val (.int p4), .val (.int p5), .val (.int p6), .val (.int i1), .val (.int i2), .val (.int (0 : Int32)), .val (.int (0 : Int32)), .val (.ref b7), .val (.long (0 : Int64)), .second, .val (.long (2147483648 : Int64)), .second, .val (.long (2147483648 : Int64)), .second, .val (.long (0 : Int64)), .second, .unset, .unset] [(.long ((0 : Int64) + (0 : Int64)))]))
        rw [(by decide : ((0 : Int64) + (0 : Int64)) = (0 : Int64))]
        show OwnR _ _ _ _ _ _ _ (T9.setTop (mkF m 190 #[.val (.int p1), .val (.int p2), .val (.int p3), .val (.int p4), .val (.int p5), .val (.int p6), .val (.int i1), .val (.int i2), .val (.int (0 : Int32)), .val (.int (0 : Int32)), .val (.ref b7), .val (.long (0 : Int64)), .second, .val (.long (2147483648 : Int64)), .second, .val (.long (2147483648 : Int64)), .second, .val (.long (0 : Int64)), .second, .unset, .unset] [(.long (0 : Int64))]))
        refine OwnR.of (fun _ hr => XS.l2i X9.here hx rfl (hb hby at_190) rfl hr) ?_
        show OwnR _ _ _ _ _ _ _ (T9.setTop (mkF m 191 #[.val (.int p1), .val (.int p2), .val (.int p3), .val (.int p4), .val (.int p5), .val (.int p6), .val (.int i1), .val (.int i2), .val (.int (0 : Int32)), .val (.int (0 : Int32)), .val (.ref b7), .val (.long (0 : Int64)), .second, .val (.long (2147483648 : Int64)), .second, .val (.long (2147483648 : Int64)), .second, .val (.long (0 : Int64)), .second, .unset, .unset] [(.int ((0 : Int64).toInt32))]))
        rw [(by decide : ((0 : Int64).toInt32) = (0 : Int32))]
        show OwnR _ _ _ _ _ _ _ (T9.setTop (mkF m 191 #[.val (.int p1), .val (.int p2), .val (.int p3), .val (.int p4), .val (.int p5), .val (.int p6), .val (.int i1), .val (.int i2), .val (.int (0 : Int32)), .val (.int (0 : Int32)), .val (.ref b7), .val (.long (0 : Int64)), .second, .val (.long (2147483648 : Int64)), .second, .val (.long (2147483648 : Int64)), .second, .val (.long (0 : Int64)), .second, .unset, .unset] [(.int (0 : Int32))]))
        refine OwnR.of (fun _ hr => XS.istore X9.here hx rfl (hb hby at_191) rfl (l' := #[.val (.int p1), .val (.int p2), .val (.int p3), .val (.int p4), .val (.int p5), .val (.int p6), .val (.int i1), .val (.int i2), .val (.int (0 : Int32)), .val (.int (0 : Int32)), .val (.ref b7), .val (.long (0 : Int64)), .second, .val (.long (2147483648 : Int64)), .second, .val (.long (2147483648 : Int64)), .second, .val (.long (0 : Int64)), .second, .val (.int (0 : Int32)), .unset]) rfl hr) ?_
        show OwnR _ _ _ _ _ _ _ (T9.setTop (mkF m 193 #[.val (.int p1), .val (.int p2), .val (.int p3), .val (.int p4), .val (.int p5), .val (.int p6), .val (.int i1), .val (.int i2), .val (.int (0 : Int32)), .val (.int (0 : Int32)), .val (.ref b7), .val (.long (0 : Int64)), .second, .val (.long (2147483648 : Int64)), .second, .val (.long (2147483648 : Int64)), .second, .val (.long (0 : Int64)), .second, .val (.int (0 : Int32)), .unset] []))
        refine OwnR.of (fun _ hr => XS.iload X9.here hx rfl (hb hby at_193) rfl hr) ?_
        show OwnR _ _ _ _ _ _ _ (T9.setTop (mkF m 195 #[.val (.int p1), .val (.int p2), .val (.int p3), .val (.int p4), .val (.int p5), .val (.int p6), .val (.int i1), .val (.int i2), .val (.int (0 : Int32)), .val (.int (0 : Int32)), .val (.ref b7), .val (.long (0 : Int64)), .second, .val (.long (2147483648 : Int64)), .second, .val (.long (2147483648 : Int64)), .second, .val (.long (0 : Int64)), .second, .val (.int (0 : Int32)), .unset] [(.int (0 : Int32))]))
        refine OwnR.of (fun _ hr => XS.ifYes X9.here hx rfl (pc0 := 195) (pc' := 209) rfl (hb hby at_195) rfl ((if0 _ _).trans (flt (by decide : ¬ ((0 : Int32) < (0 : Int32)))).2.2.2) (by decide) (by decide) hr) ?_
        show OwnR _ _ _ _ _ _ _ (T9.setTop (mkF m 209 #[.val (.int p1), .val (.int p2), .val (.int p3), .val (.int p4), .val (.int p5), .val (.int p6), .val (.int i1), .val (.int i2), .val (.int (0 : Int32)), .val (.int (0 : Int32)), .val (.ref b7), .val (.long (0 : Int64)), .second, .val (.long (2147483648 : Int64)), .second, .val (.long (2147483648 : Int64)), .second, .val (.long (0 : Int64)), .second, .val (.int (0 : Int32)), .unset] []))
        refine OwnR.of (fun _ hr => XS.iconst X9.here hx rfl (hb hby at_209) hr) ?_
        show OwnR _ _ _ _ _ _ _ (T9.setTop (mkF m 210 #[.val (.int p1), .val (.int p2), .val (.int p3), .val (.int p4), .val (.int p5), .val (.int p6), .val (.int i1), .val (.int i2), .val (.int (0 : Int32)), .val (.int (0 : Int32)), .val (.ref b7), .val (.long (0 : Int64)), .second, .val (.long (2147483648 : Int64)), .second, .val (.long (2147483648 : Int64)), .second, .val (.long (0 : Int64)), .second, .val (.int (0 : Int32)), .unset] [(.int (0 : Int32))]))
        refine OwnR.of (fun _ hr => XS.istore X9.here hx rfl (hb hby at_210) rfl (l' := #[.val (.int p1), .val (.int p2), .val (.int p3), .val (.int p4), .val (.int p5), .val (.int p6), .val (.int i1), .val (.int i2), .val (.int (0 : Int32)), .val (.int (0 : Int32)), .val (.ref b7), .val (.long (0 : Int64)), .second, .val (.long (2147483648 : Int64)), .second, .val (.long (2147483648 : Int64)), .second, .val (.long (0 : Int64)), .second, .val (.int (0 : Int32)), .val (.int (0 : Int32))]) rfl hr) ?_
        show OwnR _ _ _ _ _ _ _ (T9.setTop (mkF m 212 #[.val (.int p1), .val (.int p2), .val (.int p3), .val (.int p4), .val (.int p5), .val (.int p6), .val (.int i1), .val (.int i2), .val (.int (0 : Int32)), .val (.int (0 : Int32)), .val (.ref b7), .val (.long (0 : Int64)), .second, .val (.long (2147483648 : Int64)), .second, .val (.long (2147483648 : Int64)), .second, .val (.long (0 : Int64)), .second, .val (.int (0 : Int32)), .val (.int (0 : Int32))] []))
        refine OwnR.of (fun _ hr => XS.aload X9.here hx rfl (hb hby at_212) rfl rfl hr) ?_
        show OwnR _ _ _ _ _ _ _ (T9.setTop (mkF m 214 #[.val (.int p1), .val (.int p2), .val (.int p3), .val (.int p4), .val (.int p5), .val (.int p6), .val (.int i1), .val (.int i2), .val (.int (0 : Int32)), .val (.int (0 : Int32)), .val (.ref b7), .val (.long (0 : Int64)), .second, .val (.long (2147483648 : Int64)), .second, .val (.long (2147483648 : Int64)), .second, .val (.long (0 : Int64)), .second, .val (.int (0 : Int32)), .val (.int (0 : Int32))] [(.ref b7)]))
        refine OwnR.of (fun _ hr => XS.iload X9.here hx rfl (hb hby at_214) rfl hr) ?_
        show OwnR _ _ _ _ _ _ _ (T9.setTop (mkF m 216 #[.val (.int p1), .val (.int p2), .val (.int p3), .val (.int p4), .val (.int p5), .val (.int p6), .val (.int i1), .val (.int i2), .val (.int (0 : Int32)), .val (.int (0 : Int32)), .val (.ref b7), .val (.long (0 : Int64)), .second, .val (.long (2147483648 : Int64)), .second, .val (.long (2147483648 : Int64)), .second, .val (.long (0 : Int64)), .second, .val (.int (0 : Int32)), .val (.int (0 : Int32))] [(.int (0 : Int32)), (.ref b7)]))
        refine OwnR.of (fun _ hr => XS.iload X9.here hx rfl (hb hby at_216) rfl hr) ?_
        show OwnR _ _ _ _ _ _ _ (T9.setTop (mkF m 218 #[.val (.int p1), .val (.int p2), .val (.int p3), .val (.int p4), .val (.int p5), .val (.int p6), .val (.int i1), .val (.int i2), .val (.int (0 : Int32)), .val (.int (0 : Int32)), .val (.ref b7), .val (.long (0 : Int64)), .second, .val (.long (2147483648 : Int64)), .second, .val (.long (2147483648 : Int64)), .second, .val (.long (0 : Int64)), .second, .val (.int (0 : Int32)), .val (.int (0 : Int32))] [(.int (0 : Int32)), (.int (0 : Int32)), (.ref b7)]))
        obtain ⟨cq12, kq12, q12a, q12b, q12c⟩ := isOf hZ rfl P9_1
        obtain ⟨_, _, ⟨T12, L12, kc12, ns12⟩, -, X12, ⟨Lc12, hQ12, l12, y12, z12⟩, st12⟩ := X9.virtualBack hx (y := (⟨"com/example/tercet/tercet/core/Pages", "startsPage", "(II)Z"⟩ : MethodName)) (z := (⟨"com/example/tercet/tercet/core/Pages", "startsPage", "(II)Z"⟩ : MethodName)) hown (mvT hZ (hw _ (List.mem_of_getElem? (i := 66) rfl))) (mvT hZ (hw _ (List.mem_of_getElem? (i := 67) rfl))) (notFace_of_selects (args := #[]) (mvT hZ (hw _ (List.mem_of_getElem? (i := 69) rfl)))) (mvT hZ (hw _ (List.mem_of_getElem? (i := 69) rfl))) (mvT hZ (hw _ (List.mem_of_getElem? (i := 68) rfl))) (by decide) (backOf (W := 0) (rmS_0 l Z a0 hw [] b7 (0 : Int32) (T9.heap) n0 (Nat.le_trans Z0 K9.1) ) hZ (hw _ (List.mem_of_getElem? (i := 70) rfl)) (hw _ (List.mem_of_getElem? (i := 5) rfl)) (by decide) (by decide)) q12a q12c (g := (mkF m 218 #[.val (.int p1), .val (.int p2), .val (.int p3), .val (.int p4), .val (.int p5), .val (.int p6), .val (.int i1), .val (.int i2), .val (.int (0 : Int32)), .val (.int (0 : Int32)), .val (.ref b7), .val (.long (0 : Int64)), .second, .val (.long (2147483648 : Int64)), .second, .val (.long (2147483648 : Int64)), .second, .val (.long (0 : Int64)), .second, .val (.int (0 : Int32)), .val (.int (0 : Int32))] [(.int (0 : Int32)), (.int (0 : Int32)), (.ref b7)])) rfl (by rw [hml]; rfl) (Steps.refl _) (argsL := [(.int (0 : Int32)), (.int (0 : Int32))]) (rest := []) (lenOf pd__II_Z rfl) rfl (by show 2 * 0 + _ ≤ _; exact Nat.le_of_eq rfl) (hb hby at_218) (fun _ _ => ⟨rfl, rfl, (by decide : 3 + 0 ≤ _), (by decide : 9 + 0 ≤ _)⟩)
        dsimp only [Pt.U, Pt.locs, Pt.cells, Pt.slots] at X12 l12 y12 z12 st12 hQ12
        subst l12 y12 z12
        obtain ⟨rfl, N12q, e12⟩ := hQ12
        have N12 := Fr.app N9 N12q
        refine OwnR.of (fun _ hr => st12.trans hr) ?_
        show OwnR _ _ _ _ _ _ _ (T12.setTop (mkF m 221 #[.val (.int p1), .val (.int p2), .val (.int p3), .val (.int p4), .val (.int p5), .val (.int p6), .val (.int i1), .val (.int i2), .val (.int (0 : Int32)), .val (.int (0 : Int32)), .val (.ref b7), .val (.long (0 : Int64)), .second, .val (.long (2147483648 : Int64)), .second, .val (.long (2147483648 : Int64)), .second, .val (.long (0 : Int64)), .second, .val (.int (0 : Int32)), .val (.int (0 : Int32))] [(.int (0 : Int32))]))
        refine OwnR.of (fun _ hr => XS.iload X12.here hx rfl (hb hby at_221) rfl hr) ?_
        show OwnR _ _ _ _ _ _ _ (T12.setTop (mkF m 223 #[.val (.int p1), .val (.int p2), .val (.int p3), .val (.int p4), .val (.int p5), .val (.int p6), .val (.int i1), .val (.int i2), .val (.int (0 : Int32)), .val (.int (0 : Int32)), .val (.ref b7), .val (.long (0 : Int64)), .second, .val (.long (2147483648 : Int64)), .second, .val (.long (2147483648 : Int64)), .second, .val (.long (0 : Int64)), .second, .val (.int (0 : Int32)), .val (.int (0 : Int32))] [(.int (0 : Int32)), (.int (0 : Int32))]))
        refine OwnR.of (fun _ hr => XS.icmpNo X12.here hx rfl (hb hby at_223) rfl (teq (by decide : (0 : Int32) = (0 : Int32))).2 hr) ?_
        show OwnR _ _ _ _ _ _ _ (T12.setTop (mkF m 226 #[.val (.int p1), .val (.int p2), .val (.int p3), .val (.int p4), .val (.int p5), .val (.int p6), .val (.int i1), .val (.int i2), .val (.int (0 : Int32)), .val (.int (0 : Int32)), .val (.ref b7), .val (.long (0 : Int64)), .second, .val (.long (2147483648 : Int64)), .second, .val (.long (2147483648 : Int64)), .second, .val (.long (0 : Int64)), .second, .val (.int (0 : Int32)), .val (.int (0 : Int32))] []))
        refine OwnR.of (fun _ hr => XS.iconst X12.here hx rfl (hb hby at_226) hr) ?_
        show OwnR _ _ _ _ _ _ _ (T12.setTop (mkF m 227 #[.val (.int p1), .val (.int p2), .val (.int p3), .val (.int p4), .val (.int p5), .val (.int p6), .val (.int i1), .val (.int i2), .val (.int (0 : Int32)), .val (.int (0 : Int32)), .val (.ref b7), .val (.long (0 : Int64)), .second, .val (.long (2147483648 : Int64)), .second, .val (.long (2147483648 : Int64)), .second, .val (.long (0 : Int64)), .second, .val (.int (0 : Int32)), .val (.int (0 : Int32))] [(.int (1 : Int32))]))
        refine OwnR.of (fun _ hr => XS.goto X12.here hx rfl (pc0 := 227) (pc' := 231) rfl (hb hby at_227) (by decide) (by decide) hr) ?_
        show OwnR _ _ _ _ _ _ _ (T12.setTop (mkF m 231 #[.val (.int p1), .val (.int p2), .val (.int p3), .val (.int p4), .val (.int p5), .val (.int p6), .val (.int i1), .val (.int i2), .val (.int (0 : Int32)), .val (.int (0 : Int32)), .val (.ref b7), .val (.long (0 : Int64)), .second, .val (.long (2147483648 : Int64)), .second, .val (.long (2147483648 : Int64)), .second, .val (.long (0 : Int64)), .second, .val (.int (0 : Int32)), .val (.int (0 : Int32))] [(.int (1 : Int32))]))
        refine own_leafN X12 hx hlk (t := .boolean) Bd.returns (by simp) (hb hby at_231) (z' := (1 : Int32)) rfl (by decide) (by decide) ?_
        show Q0 Z  h0 n0 _ T12.heap _
        rw [show T12.heap = T9.heap from e12]
        refine ⟨?_, N12⟩
        show (some (.int (1 : Int32)) : Option Value) = some (.int (1 : Int32))
        rfl
  · skip
    show OwnR _ _ _ _ _ _ _ (s₁.setTop (mkF m 27 #[.val (.int p1), .val (.int p2), .val (.int p3), .val (.int p4), .val (.int p5), .val (.int p6), .val (.int i1), .val (.int i2), .val (.int (1 : Int32)), .unset, .unset, .unset, .unset, .unset, .unset, .unset, .unset, .unset, .unset, .unset, .unset] []))
    refine OwnR.of (fun _ hr => XS.iloadN X0.here hx rfl (hb hby at_27) rfl hr) ?_
    show OwnR _ _ _ _ _ _ _ (s₁.setTop (mkF m 28 #[.val (.int p1), .val (.int p2), .val (.int p3), .val (.int p4), .val (.int p5), .val (.int p6), .val (.int i1), .val (.int i2), .val (.int (1 : Int32)), .unset, .unset, .unset, .unset, .unset, .unset, .unset, .unset, .unset, .unset, .unset, .unset] [(.int p4)]))
    refine OwnR.of (X0.ldcInt hx hown (mvT hZ (hw _ (List.mem_of_getElem? (i := 2) rfl))) (g := (mkF m 28 #[.val (.int p1), .val (.int p2), .val (.int p3), .val (.int p4), .val (.int p5), .val (.int p6), .val (.int i1), .val (.int i2), .val (.int (1 : Int32)), .unset, .unset, .unset, .unset, .unset, .unset, .unset, .unset, .unset, .unset, .unset, .unset] [(.int p4)])) rfl (hb hby at_28)) ?_
    show OwnR _ _ _ _ _ _ _ (s₁.setTop (mkF m 30 #[.val (.int p1), .val (.int p2), .val (.int p3), .val (.int p4), .val (.int p5), .val (.int p6), .val (.int i1), .val (.int i2), .val (.int (1 : Int32)), .unset, .unset, .unset, .unset, .unset, .unset, .unset, .unset, .unset, .unset, .unset, .unset] [(.int (2147483647 : Int32)), (.int p4)]))
    refine OwnR.of (fun _ hr => XS.iand X0.here hx rfl (hb hby at_30) rfl hr) ?_
    show OwnR _ _ _ _ _ _ _ (s₁.setTop (mkF m 31 #[.val (.int p1), .val (.int p2), .val (.int p3), .val (.int p4), .val (.int p5), .val (.int p6), .val (.int i1), .val (.int i2), .val (.int (1 : Int32)), .unset, .unset, .unset, .unset, .unset, .unset, .unset, .unset, .unset, .unset, .unset, .unset] [(.int (p4 &&& (2147483647 : Int32)))]))
    refine OwnR.of (fun _ hr => XS.iload X0.here hx rfl (hb hby at_31) rfl hr) ?_
    show OwnR _ _ _ _ _ _ _ (s₁.setTop (mkF m 33 #[.val (.int p1), .val (.int p2), .val (.int p3), .val (.int p4), .val (.int p5), .val (.int p6), .val (.int i1), .val (.int i2), .val (.int (1 : Int32)), .unset, .unset, .unset, .unset, .unset, .unset, .unset, .unset, .unset, .unset, .unset, .unset] [(.int (1 : Int32)), (.int (p4 &&& (2147483647 : Int32)))]))
    refine OwnR.of (fun _ hr => XS.iconst X0.here hx rfl (hb hby at_33) hr) ?_
    show OwnR _ _ _ _ _ _ _ (s₁.setTop (mkF m 34 #[.val (.int p1), .val (.int p2), .val (.int p3), .val (.int p4), .val (.int p5), .val (.int p6), .val (.int i1), .val (.int i2), .val (.int (1 : Int32)), .unset, .unset, .unset, .unset, .unset, .unset, .unset, .unset, .unset, .unset, .unset, .unset] [(.int (1 : Int32)), (.int (1 : Int32)), (.int (p4 &&& (2147483647 : Int32)))]))
    refine OwnR.of (fun _ hr => XS.iadd X0.here hx rfl (hb hby at_34) rfl hr) ?_
    show OwnR _ _ _ _ _ _ _ (s₁.setTop (mkF m 35 #[.val (.int p1), .val (.int p2), .val (.int p3), .val (.int p4), .val (.int p5), .val (.int p6), .val (.int i1), .val (.int i2), .val (.int (1 : Int32)), .unset, .unset, .unset, .unset, .unset, .unset, .unset, .unset, .unset, .unset, .unset, .unset] [(.int ((1 : Int32) + (1 : Int32))), (.int (p4 &&& (2147483647 : Int32)))]))
    rw [(by decide : ((1 : Int32) + (1 : Int32)) = (2 : Int32))]
    show OwnR _ _ _ _ _ _ _ (s₁.setTop (mkF m 35 #[.val (.int p1), .val (.int p2), .val (.int p3), .val (.int p4), .val (.int p5), .val (.int p6), .val (.int i1), .val (.int i2), .val (.int (1 : Int32)), .unset, .unset, .unset, .unset, .unset, .unset, .unset, .unset, .unset, .unset, .unset, .unset] [(.int (2 : Int32)), (.int (p4 &&& (2147483647 : Int32)))]))
    refine OwnR.of (fun _ hr => iremM X0 hx rfl (hb hby at_35) rfl (by decide) hr) ?_
    show OwnR _ _ _ _ _ _ _ (s₁.setTop (mkF m 36 #[.val (.int p1), .val (.int p2), .val (.int p3), .val (.int p4), .val (.int p5), .val (.int p6), .val (.int i1), .val (.int i2), .val (.int (1 : Int32)), .unset, .unset, .unset, .unset, .unset, .unset, .unset, .unset, .unset, .unset, .unset, .unset] [(.int ((p4 &&& (2147483647 : Int32)) % (2 : Int32)))]))
    refine OwnR.of (fun _ hr => XS.istore X0.here hx rfl (hb hby at_36) rfl (l' := #[.val (.int p1), .val (.int p2), .val (.int p3), .val (.int p4), .val (.int p5), .val (.int p6), .val (.int i1), .val (.int i2), .val (.int (1 : Int32)), .val (.int ((p4 &&& (2147483647 : Int32)) % (2 : Int32))), .unset, .unset, .unset, .unset, .unset, .unset, .unset, .unset, .unset, .unset, .unset]) rfl hr) ?_
    show OwnR _ _ _ _ _ _ _ (s₁.setTop (mkF m 38 #[.val (.int p1), .val (.int p2), .val (.int p3), .val (.int p4), .val (.int p5), .val (.int p6), .val (.int i1), .val (.int i2), .val (.int (1 : Int32)), .val (.int ((p4 &&& (2147483647 : Int32)) % (2 : Int32))), .unset, .unset, .unset, .unset, .unset, .unset, .unset, .unset, .unset, .unset, .unset] []))
    obtain ⟨pg, hpg⟩ : ∃ z : Int32, z = ((p4 &&& (2147483647 : Int32)) % (2 : Int32)) := ⟨_, rfl⟩
    rw [← hpg]
    show OwnR _ _ _ _ _ _ _ (s₁.setTop (mkF m 38 #[.val (.int p1), .val (.int p2), .val (.int p3), .val (.int p4), .val (.int p5), .val (.int p6), .val (.int i1), .val (.int i2), .val (.int (1 : Int32)), .val (.int pg), .unset, .unset, .unset, .unset, .unset, .unset, .unset, .unset, .unset, .unset, .unset] []))
    have hpgs : pg = (0 : Int32) ∨ pg = (1 : Int32) := by rw [hpg]; exact own_m2 p4
    rcases hpgs with rfl | rfl
    · skip
      show OwnR _ _ _ _ _ _ _ (s₁.setTop (mkF m 38 #[.val (.int p1), .val (.int p2), .val (.int p3), .val (.int p4), .val (.int p5), .val (.int p6), .val (.int i1), .val (.int i2), .val (.int (1 : Int32)), .val (.int (0 : Int32)), .unset, .unset, .unset, .unset, .unset, .unset, .unset, .unset, .unset, .unset, .unset] []))
      obtain ⟨T13, h13, X13, e13, E13, A13, D13, -, st13⟩ := newO X0 hx hZ hown (hw _ (List.mem_of_getElem? (i := 3) rfl)) (hw _ (List.mem_of_getElem? (i := 4) rfl)) (hw _ (List.mem_of_getElem? (i := 5) rfl)) e0 (g := (mkF m 38 #[.val (.int p1), .val (.int p2), .val (.int p3), .val (.int p4), .val (.int p5), .val (.int p6), .val (.int i1), .val (.int i2), .val (.int (1 : Int32)), .val (.int (0 : Int32)), .unset, .unset, .unset, .unset, .unset, .unset, .unset, .unset, .unset, .unset, .unset] [])) rfl (hb hby at_38) (by decide) (by decide)
      obtain ⟨b13, g13⟩ : ∃ z, z = h0.size := ⟨_, rfl⟩
      rw [← g13] at A13 D13 st13
      refine OwnR.of (st13) ?_
      have gn_b13 : n0 ≤ b13 := Nat.le_trans (Nat.le_trans Z0 (Keep.refl h0 []).1) (Nat.le_of_eq g13.symm)
      have sz_b13 : h0.size ≤ b13 := Nat.le_trans (Keep.refl h0 []).1 (Nat.le_of_eq g13.symm)
      have K13 : Keep h0 h13 [] := Keep.ext (Keep.refl h0 []) E13
      have F_pageLength_b13 : Fld Z h13 b13 "com/example/tercet/tercet/core/Pages" "pageLength" "I" (.int (0 : Int32)) := D13 (Or.inr (hw _ (List.mem_of_getElem? (i := 20) rfl))) (ty := .int) (by decide)
      have F_limit_b13 : Fld Z h13 b13 "com/example/tercet/tercet/core/Pages" "limit" "I" (.int (0 : Int32)) := D13 (Or.inl (hw _ (List.mem_of_getElem? (i := 22) rfl))) (ty := .int) (by decide)
      have F_last_b13 : Fld Z h13 b13 "com/example/tercet/tercet/core/Pages" "last" "Ljava/lang/Object;" .null := D13 (Or.inl (hw _ (List.mem_of_getElem? (i := 24) rfl))) (ty := (.object "java/lang/Object")) (by decide)
      have F_pages_b13 : Fld Z h13 b13 "com/example/tercet/tercet/core/Pages" "pages" "[Ljava/lang/Object;" .null := D13 (Or.inl (hw _ (List.mem_of_getElem? (i := 29) rfl))) (ty := (.array (.object "java/lang/Object"))) (by decide)
      have F_firsts_b13 : Fld Z h13 b13 "com/example/tercet/tercet/core/Pages" "firsts" "[I" .null := D13 (Or.inl (hw _ (List.mem_of_getElem? (i := 32) rfl))) (ty := (.array .int)) (by decide)
      have F_count_b13 : Fld Z h13 b13 "com/example/tercet/tercet/core/Pages" "count" "I" (.int (0 : Int32)) := D13 (Or.inl (hw _ (List.mem_of_getElem? (i := 34) rfl))) (ty := .int) (by decide)
      show OwnR _ _ _ _ _ _ _ (T13.setTop (mkF m 41 #[.val (.int p1), .val (.int p2), .val (.int p3), .val (.int p4), .val (.int p5), .val (.int p6), .val (.int i1), .val (.int i2), .val (.int (1 : Int32)), .val (.int (0 : Int32)), .unset, .unset, .unset, .unset, .unset, .unset, .unset, .unset, .unset, .unset, .unset] [(.ref b13)]))
      refine OwnR.of (fun _ hr => XS.dup X13.here hx rfl (hb hby at_41) rfl rfl hr) ?_
      show OwnR _ _ _ _ _ _ _ (T13.setTop (mkF m 42 #[.val (.int p1), .val (.int p2), .val (.int p3), .val (.int p4), .val (.int p5), .val (.int p6), .val (.int i1), .val (.int i2), .val (.int (1 : Int32)), .val (.int (0 : Int32)), .unset, .unset, .unset, .unset, .unset, .unset, .unset, .unset, .unset, .unset, .unset] [(.ref b13), (.ref b13)]))
      refine OwnR.of (fun _ hr => XS.iconst X13.here hx rfl (hb hby at_42) hr) ?_
      show OwnR _ _ _ _ _ _ _ (T13.setTop (mkF m 43 #[.val (.int p1), .val (.int p2), .val (.int p3), .val (.int p4), .val (.int p5), .val (.int p6), .val (.int i1), .val (.int i2), .val (.int (1 : Int32)), .val (.int (0 : Int32)), .unset, .unset, .unset, .unset, .unset, .unset, .unset, .unset, .unset, .unset, .unset] [(.int (0 : Int32)), (.ref b13), (.ref b13)]))
      obtain ⟨_, _, ⟨T14, L14, kc14, ns14⟩, -, X14, ⟨Lc14, hQ14, l14, y14, z14⟩, st14⟩ := Jvm.LawKit.callS X13 hx (y := (⟨"java/lang/Integer", "valueOf", "(I)Ljava/lang/Integer;"⟩ : MethodName)) hown (mvT hZ (hw _ (List.mem_of_getElem? (i := 6) rfl))) (mvT hZ (hw _ (List.mem_of_getElem? (i := 7) rfl))) (mvT hZ (hw _ (List.mem_of_getElem? (i := 8) rfl))) (mvT hZ (hw _ (List.mem_of_getElem? (i := 9) rfl))) (by decide) (backOf (W := 2) (rmV_0 l Z a0 hw [] sc cc iv0 iv1 iv2 h13 n0 (Nat.le_trans Z0 K13.1) (own_sta S_high K13) (own_sta S_cache K13) (own_arr Ar_sc K13 nin0) hin0 hin1 hin2 hat0 hat1 hat2) hZ (hw _ (List.mem_of_getElem? (i := 9) rfl)) (hw _ (List.mem_of_getElem? (i := 8) rfl)) (by decide) (by decide)) (g := (mkF m 43 #[.val (.int p1), .val (.int p2), .val (.int p3), .val (.int p4), .val (.int p5), .val (.int p6), .val (.int i1), .val (.int i2), .val (.int (1 : Int32)), .val (.int (0 : Int32)), .unset, .unset, .unset, .unset, .unset, .unset, .unset, .unset, .unset, .unset, .unset] [(.int (0 : Int32)), (.ref b13), (.ref b13)])) rfl (by rw [hml]; rfl) (argsL := [(.int (0 : Int32))]) (rest := [(.ref b13), (.ref b13)]) (lenOf pd__I_Ljava_lang_Integer_ rfl) rfl (by show 2 * 0 + _ ≤ _; exact Nat.le_of_eq rfl) (hb hby at_43) (fun _ _ => ⟨rfl, e13, (by decide : 1 + 0 ≤ _), (by decide : 7 + 0 ≤ _)⟩)
      dsimp only [Pt.U, Pt.locs, Pt.cells, Pt.slots] at X14 l14 y14 z14 st14 hQ14
      subst l14 y14 z14
      obtain ⟨rfl, N14q, e14⟩ := hQ14
      have N14 := Fr.app N0 N14q
      refine OwnR.of (st14) ?_
      show OwnR _ _ _ _ _ _ _ (T14.setTop (mkF m 46 #[.val (.int p1), .val (.int p2), .val (.int p3), .val (.int p4), .val (.int p5), .val (.int p6), .val (.int i1), .val (.int i2), .val (.int (1 : Int32)), .val (.int (0 : Int32)), .unset, .unset, .unset, .unset, .unset, .unset, .unset, .unset, .unset, .unset, .unset] [(.ref iv0), (.ref b13), (.ref b13)]))
      refine OwnR.of (fun _ hr => XS.iconst X14.here hx rfl (hb hby at_46) hr) ?_
      show OwnR _ _ _ _ _ _ _ (T14.setTop (mkF m 47 #[.val (.int p1), .val (.int p2), .val (.int p3), .val (.int p4), .val (.int p5), .val (.int p6), .val (.int i1), .val (.int i2), .val (.int (1 : Int32)), .val (.int (0 : Int32)), .unset, .unset, .unset, .unset, .unset, .unset, .unset, .unset, .unset, .unset, .unset] [(.int (4 : Int32)), (.ref iv0), (.ref b13), (.ref b13)]))
      refine OwnR.of (fun _ hr => XS.iconst X14.here hx rfl (hb hby at_47) hr) ?_
      show OwnR _ _ _ _ _ _ _ (T14.setTop (mkF m 48 #[.val (.int p1), .val (.int p2), .val (.int p3), .val (.int p4), .val (.int p5), .val (.int p6), .val (.int i1), .val (.int i2), .val (.int (1 : Int32)), .val (.int (0 : Int32)), .unset, .unset, .unset, .unset, .unset, .unset, .unset, .unset, .unset, .unset, .unset] [(.int (2 : Int32)), (.int (4 : Int32)), (.ref iv0), (.ref b13), (.ref b13)]))
      obtain ⟨_, _, ⟨T15, L15, kc15, ns15⟩, -, X15, ⟨Lc15, hQ15, l15, y15, z15⟩, st15⟩ := X14.specialBack hx (y := (⟨"com/example/tercet/tercet/core/Pages", "<init>", "(Ljava/lang/Object;II)V"⟩ : MethodName)) rfl hown (mvT hZ (hw _ (List.mem_of_getElem? (i := 13) rfl))) (mvT hZ (hw _ (List.mem_of_getElem? (i := 14) rfl))) (mvT hZ (hw _ (List.mem_of_getElem? (i := 15) rfl))) (by decide) (backOf (W := 1) (rmI l Z a0 hw [] b13 iv0 (4 : Int32) (2 : Int32) h13 n0 (Nat.le_trans Z0 K13.1) A13 F_pageLength_b13 F_limit_b13 F_last_b13 F_pages_b13 F_firsts_b13 F_count_b13 (Exa.keep E_iv0 K13) gn_b13) hZ (hw _ (List.mem_of_getElem? (i := 15) rfl)) (hw _ (List.mem_of_getElem? (i := 5) rfl)) (by decide) (by decide)) (g := (mkF m 48 #[.val (.int p1), .val (.int p2), .val (.int p3), .val (.int p4), .val (.int p5), .val (.int p6), .val (.int i1), .val (.int i2), .val (.int (1 : Int32)), .val (.int (0 : Int32)), .unset, .unset, .unset, .unset, .unset, .unset, .unset, .unset, .unset, .unset, .unset] [(.int (2 : Int32)), (.int (4 : Int32)), (.ref iv0), (.ref b13), (.ref b13)])) rfl (by rw [hml]; rfl) (Steps.refl _) (a := b13) (argsL := [(.ref iv0), (.int (4 : Int32)), (.int (2 : Int32))]) (rest := [(.ref b13)]) (lenOf pd__Ljava_lang_Object_II_V rfl) rfl (by show 2 * 0 + _ ≤ _; exact Nat.le_of_eq rfl) (hb hby at_48) (fun _ _ => ⟨rfl, e14, (by decide : 1 + 2 ≤ _), (by decide : 7 + 2 ≤ _)⟩)
      dsimp only [Pt.U, Pt.locs, Pt.cells, Pt.slots] at X15 l15 y15 z15 st15 hQ15
      subst l15 y15 z15
      obtain ⟨b_15, kb_15, c_15, kc_15, rfl, N15q, P15_0, P15_1, P15_2, P15_3, P15_4, P15_5, P15_6, P15_7, P15_8, P15_9, P15_10, P15_11, P15_12, P15_13, P15_14⟩ := hQ15
      have K15 : Keep h0 T15.heap [] := Keep.trans K13 P15_0 (allS (Or.inr sz_b13) all0)
      have sz_b_15 : h0.size ≤ b_15 := Nat.le_trans K13.1 P15_11
      have sz_c_15 : h0.size ≤ c_15 := Nat.le_trans K13.1 P15_13
      have N15 := Fr.app N14 N15q
      refine OwnR.of (fun _ hr => st15.trans hr) ?_
      show OwnR _ _ _ _ _ _ _ (T15.setTop (mkF m 51 #[.val (.int p1), .val (.int p2), .val (.int p3), .val (.int p4), .val (.int p5), .val (.int p6), .val (.int i1), .val (.int i2), .val (.int (1 : Int32)), .val (.int (0 : Int32)), .unset, .unset, .unset, .unset, .unset, .unset, .unset, .unset, .unset, .unset, .unset] [(.ref b13)]))
      refine OwnR.of (fun _ hr => XS.astore X15.here hx rfl (hb hby at_51) rfl rfl (l' := #[.val (.int p1), .val (.int p2), .val (.int p3), .val (.int p4), .val (.int p5), .val (.int p6), .val (.int i1), .val (.int i2), .val (.int (1 : Int32)), .val (.int (0 : Int32)), .val (.ref b13), .unset, .unset, .unset, .unset, .unset, .unset, .unset, .unset, .unset, .unset]) rfl hr) ?_
      show OwnR _ _ _ _ _ _ _ (T15.setTop (mkF m 53 #[.val (.int p1), .val (.int p2), .val (.int p3), .val (.int p4), .val (.int p5), .val (.int p6), .val (.int i1), .val (.int i2), .val (.int (1 : Int32)), .val (.int (0 : Int32)), .val (.ref b13), .unset, .unset, .unset, .unset, .unset, .unset, .unset, .unset, .unset, .unset] []))
      refine OwnR.of (fun _ hr => XS.iload X15.here hx rfl (hb hby at_53) rfl hr) ?_
      show OwnR _ _ _ _ _ _ _ (T15.setTop (mkF m 55 #[.val (.int p1), .val (.int p2), .val (.int p3), .val (.int p4), .val (.int p5), .val (.int p6), .val (.int i1), .val (.int i2), .val (.int (1 : Int32)), .val (.int (0 : Int32)), .val (.ref b13), .unset, .unset, .unset, .unset, .unset, .unset, .unset, .unset, .unset, .unset] [(.int (1 : Int32))]))
      refine OwnR.of (fun _ hr => XS.iconst X15.here hx rfl (hb hby at_55) hr) ?_
      show OwnR _ _ _ _ _ _ _ (T15.setTop (mkF m 56 #[.val (.int p1), .val (.int p2), .val (.int p3), .val (.int p4), .val (.int p5), .val (.int p6), .val (.int i1), .val (.int i2), .val (.int (1 : Int32)), .val (.int (0 : Int32)), .val (.ref b13), .unset, .unset, .unset, .unset, .unset, .unset, .unset, .unset, .unset, .unset] [(.int (1 : Int32)), (.int (1 : Int32))]))
      refine OwnR.of (fun _ hr => XS.icmpNo X15.here hx rfl (hb hby at_56) rfl (flt (by decide : ¬ ((1 : Int32) < (1 : Int32)))).1 hr) ?_
      show OwnR _ _ _ _ _ _ _ (T15.setTop (mkF m 59 #[.val (.int p1), .val (.int p2), .val (.int p3), .val (.int p4), .val (.int p5), .val (.int p6), .val (.int i1), .val (.int i2), .val (.int (1 : Int32)), .val (.int (0 : Int32)), .val (.ref b13), .unset, .unset, .unset, .unset, .unset, .unset, .unset, .unset, .unset, .unset] []))
      refine OwnR.of (fun _ hr => XS.aload X15.here hx rfl (hb hby at_59) rfl rfl hr) ?_
      show OwnR _ _ _ _ _ _ _ (T15.setTop (mkF m 61 #[.val (.int p1), .val (.int p2), .val (.int p3), .val (.int p4), .val (.int p5), .val (.int p6), .val (.int i1), .val (.int i2), .val (.int (1 : Int32)), .val (.int (0 : Int32)), .val (.ref b13), .unset, .unset, .unset, .unset, .unset, .unset, .unset, .unset, .unset, .unset] [(.ref b13)]))
      refine OwnR.of (fun _ hr => XS.iload X15.here hx rfl (hb hby at_61) rfl hr) ?_
      show OwnR _ _ _ _ _ _ _ (T15.setTop (mkF m 63 #[.val (.int p1), .val (.int p2), .val (.int p3), .val (.int p4), .val (.int p5), .val (.int p6), .val (.int i1), .val (.int i2), .val (.int (1 : Int32)), .val (.int (0 : Int32)), .val (.ref b13), .unset, .unset, .unset, .unset, .unset, .unset, .unset, .unset, .unset, .unset] [(.int i1), (.ref b13)]))
      refine OwnR.of (fun _ hr => XS.iconst X15.here hx rfl (hb hby at_63) hr) ?_
      show OwnR _ _ _ _ _ _ _ (T15.setTop (mkF m 64 #[.val (.int p1), .val (.int p2), .val (.int p3), .val (.int p4), .val (.int p5), .val (.int p6), .val (.int i1), .val (.int i2), .val (.int (1 : Int32)), .val (.int (0 : Int32)), .val (.ref b13), .unset, .unset, .unset, .unset, .unset, .unset, .unset, .unset, .unset, .unset] [(.int (1 : Int32)), (.int i1), (.ref b13)]))
      obtain ⟨_, _, ⟨T16, L16, kc16, ns16⟩, -, X16, ⟨Lc16, hQ16, l16, y16, z16⟩, st16⟩ := Jvm.LawKit.callS X15 hx (y := (⟨"java/lang/Integer", "valueOf", "(I)Ljava/lang/Integer;"⟩ : MethodName)) hown (mvT hZ (hw _ (List.mem_of_getElem? (i := 6) rfl))) (mvT hZ (hw _ (List.mem_of_getElem? (i := 7) rfl))) (mvT hZ (hw _ (List.mem_of_getElem? (i := 8) rfl))) (mvT hZ (hw _ (List.mem_of_getElem? (i := 9) rfl))) (by decide) (backOf (W := 2) (rmV_1 l Z a0 hw [] sc cc iv0 iv1 iv2 (T15.heap) n0 (Nat.le_trans Z0 K15.1) (own_sta S_high K15) (own_sta S_cache K15) (own_arr Ar_sc K15 nin0) hin0 hin1 hin2 hat0 hat1 hat2) hZ (hw _ (List.mem_of_getElem? (i := 9) rfl)) (hw _ (List.mem_of_getElem? (i := 8) rfl)) (by decide) (by decide)) (g := (mkF m 64 #[.val (.int p1), .val (.int p2), .val (.int p3), .val (.int p4), .val (.int p5), .val (.int p6), .val (.int i1), .val (.int i2), .val (.int (1 : Int32)), .val (.int (0 : Int32)), .val (.ref b13), .unset, .unset, .unset, .unset, .unset, .unset, .unset, .unset, .unset, .unset] [(.int (1 : Int32)), (.int i1), (.ref b13)])) rfl (by rw [hml]; rfl) (argsL := [(.int (1 : Int32))]) (rest := [(.int i1), (.ref b13)]) (lenOf pd__I_Ljava_lang_Integer_ rfl) rfl (by show 2 * 0 + _ ≤ _; exact Nat.le_of_eq rfl) (hb hby at_64) (fun _ _ => ⟨rfl, rfl, (by decide : 3 + 0 ≤ _), (by decide : 9 + 0 ≤ _)⟩)
      dsimp only [Pt.U, Pt.locs, Pt.cells, Pt.slots] at X16 l16 y16 z16 st16 hQ16
      subst l16 y16 z16
      obtain ⟨rfl, N16q, e16⟩ := hQ16
      have N16 := Fr.app N15 N16q
      refine OwnR.of (st16) ?_
      show OwnR _ _ _ _ _ _ _ (T16.setTop (mkF m 67 #[.val (.int p1), .val (.int p2), .val (.int p3), .val (.int p4), .val (.int p5), .val (.int p6), .val (.int i1), .val (.int i2), .val (.int (1 : Int32)), .val (.int (0 : Int32)), .val (.ref b13), .unset, .unset, .unset, .unset, .unset, .unset, .unset, .unset, .unset, .unset] [(.ref iv1), (.int i1), (.ref b13)]))
      obtain ⟨cq17, kq17, q17a, q17b, q17c⟩ := isOf hZ e16 P15_1
      obtain ⟨_, _, ⟨T17, L17, kc17, ns17⟩, -, X17, ⟨Lc17, hQ17, l17, y17, z17⟩, st17⟩ := X16.virtualBack hx (y := (⟨"com/example/tercet/tercet/core/Pages", "turn", "(ILjava/lang/Object;)V"⟩ : MethodName)) (z := (⟨"com/example/tercet/tercet/core/Pages", "turn", "(ILjava/lang/Object;)V"⟩ : MethodName)) hown (mvT hZ (hw _ (List.mem_of_getElem? (i := 35) rfl))) (mvT hZ (hw _ (List.mem_of_getElem? (i := 36) rfl))) (notFace_of_selects (args := #[]) (mvT hZ (hw _ (List.mem_of_getElem? (i := 38) rfl)))) (mvT hZ (hw _ (List.mem_of_getElem? (i := 38) rfl))) (mvT hZ (hw _ (List.mem_of_getElem? (i := 37) rfl))) (by decide) (backOf (W := 0) (rmT_1 l Z a0 hw [] b13 i1 iv1 (2 : Int32) (4 : Int32) iv0 b_15 c_15 kb_15 kc_15 iv0 (0 : Int32) mo (T15.heap) n0 (Nat.le_trans Z0 K15.1) P15_1 P15_2 P15_3 P15_4 P15_5 P15_6 P15_7 P15_8 P15_10 P15_9 (Exa.keep E_iv1 K15) (Exa.keep E_iv0 K15) M_mo gn_b13 (Nat.ne_of_lt (Nat.lt_of_lt_of_le A13.lt P15_11)) (Nat.ne_of_lt (Nat.lt_of_lt_of_le A13.lt P15_13))) hZ (hw _ (List.mem_of_getElem? (i := 39) rfl)) (hw _ (List.mem_of_getElem? (i := 5) rfl)) (by decide) (by decide)) q17a q17c (g := (mkF m 67 #[.val (.int p1), .val (.int p2), .val (.int p3), .val (.int p4), .val (.int p5), .val (.int p6), .val (.int i1), .val (.int i2), .val (.int (1 : Int32)), .val (.int (0 : Int32)), .val (.ref b13), .unset, .unset, .unset, .unset, .unset, .unset, .unset, .unset, .unset, .unset] [(.ref iv1), (.int i1), (.ref b13)])) rfl (by rw [hml]; rfl) (Steps.refl _) (argsL := [(.int i1), (.ref iv1)]) (rest := []) (lenOf pd__ILjava_lang_Object__V rfl) rfl (by show 2 * 0 + _ ≤ _; exact Nat.le_of_eq rfl) (hb hby at_67) (fun _ _ => ⟨rfl, e16, (by decide : 3 + 2 ≤ _), (by decide : 9 + 4 ≤ _)⟩)
      dsimp only [Pt.U, Pt.locs, Pt.cells, Pt.slots] at X17 l17 y17 z17 st17 hQ17
      subst l17 y17 z17
      obtain ⟨b_17, kb_17, c_17, kc_17, rfl, N17q, P17_0, P17_1, P17_2, P17_3, P17_4, P17_5, P17_6, P17_7, P17_8, P17_9, P17_10, P17_11, P17_12, P17_13, P17_14, P17_15⟩ := hQ17
      have K17 : Keep h0 T17.heap [] := Keep.trans K15 P17_0 (allS (Or.inr sz_b13) all0)
      have sz_b_17 : h0.size ≤ b_17 := Nat.le_trans K15.1 P17_12
      have sz_c_17 : h0.size ≤ c_17 := Nat.le_trans K15.1 P17_14
      have N17 := Fr.app N16 N17q
      refine OwnR.of (fun _ hr => st17.trans hr) ?_
      show OwnR _ _ _ _ _ _ _ (T17.setTop (mkF m 70 #[.val (.int p1), .val (.int p2), .val (.int p3), .val (.int p4), .val (.int p5), .val (.int p6), .val (.int i1), .val (.int i2), .val (.int (1 : Int32)), .val (.int (0 : Int32)), .val (.ref b13), .unset, .unset, .unset, .unset, .unset, .unset, .unset, .unset, .unset, .unset] []))
      refine OwnR.of (fun _ hr => XS.iload X17.here hx rfl (hb hby at_70) rfl hr) ?_
      show OwnR _ _ _ _ _ _ _ (T17.setTop (mkF m 72 #[.val (.int p1), .val (.int p2), .val (.int p3), .val (.int p4), .val (.int p5), .val (.int p6), .val (.int i1), .val (.int i2), .val (.int (1 : Int32)), .val (.int (0 : Int32)), .val (.ref b13), .unset, .unset, .unset, .unset, .unset, .unset, .unset, .unset, .unset, .unset] [(.int (1 : Int32))]))
      refine OwnR.of (fun _ hr => XS.iconst X17.here hx rfl (hb hby at_72) hr) ?_
      show OwnR _ _ _ _ _ _ _ (T17.setTop (mkF m 73 #[.val (.int p1), .val (.int p2), .val (.int p3), .val (.int p4), .val (.int p5), .val (.int p6), .val (.int i1), .val (.int i2), .val (.int (1 : Int32)), .val (.int (0 : Int32)), .val (.ref b13), .unset, .unset, .unset, .unset, .unset, .unset, .unset, .unset, .unset, .unset] [(.int (2 : Int32)), (.int (1 : Int32))]))
      refine OwnR.of (fun _ hr => XS.icmpYes X17.here hx rfl (pc0 := 73) (pc' := 87) rfl (hb hby at_73) rfl (tlt (by decide : (1 : Int32) < (2 : Int32))).1 (by decide) (by decide) hr) ?_
      show OwnR _ _ _ _ _ _ _ (T17.setTop (mkF m 87 #[.val (.int p1), .val (.int p2), .val (.int p3), .val (.int p4), .val (.int p5), .val (.int p6), .val (.int i1), .val (.int i2), .val (.int (1 : Int32)), .val (.int (0 : Int32)), .val (.ref b13), .unset, .unset, .unset, .unset, .unset, .unset, .unset, .unset, .unset, .unset] []))
      refine OwnR.of (fun _ hr => XS.iload X17.here hx rfl (hb hby at_87) rfl hr) ?_
      show OwnR _ _ _ _ _ _ _ (T17.setTop (mkF m 89 #[.val (.int p1), .val (.int p2), .val (.int p3), .val (.int p4), .val (.int p5), .val (.int p6), .val (.int i1), .val (.int i2), .val (.int (1 : Int32)), .val (.int (0 : Int32)), .val (.ref b13), .unset, .unset, .unset, .unset, .unset, .unset, .unset, .unset, .unset, .unset] [(.int (0 : Int32))]))
      refine OwnR.of (fun _ hr => XS.ifNo X17.here hx rfl (hb hby at_89) rfl ((if0 _ _).trans (teq (by decide : (0 : Int32) = (0 : Int32))).2) hr) ?_
      show OwnR _ _ _ _ _ _ _ (T17.setTop (mkF m 92 #[.val (.int p1), .val (.int p2), .val (.int p3), .val (.int p4), .val (.int p5), .val (.int p6), .val (.int i1), .val (.int i2), .val (.int (1 : Int32)), .val (.int (0 : Int32)), .val (.ref b13), .unset, .unset, .unset, .unset, .unset, .unset, .unset, .unset, .unset, .unset] []))
      refine OwnR.of (fun _ hr => XS.lconst X17.here hx rfl (hb hby at_92) hr) ?_
      show OwnR _ _ _ _ _ _ _ (T17.setTop (mkF m 93 #[.val (.int p1), .val (.int p2), .val (.int p3), .val (.int p4), .val (.int p5), .val (.int p6), .val (.int i1), .val (.int i2), .val (.int (1 : Int32)), .val (.int (0 : Int32)), .val (.ref b13), .unset, .unset, .unset, .unset, .unset, .unset, .unset, .unset, .unset, .unset] [(.long (0 : Int64))]))
      refine OwnR.of (fun _ hr => XS.lstore X17.here hx rfl (hb hby at_93) rfl (l' := #[.val (.int p1), .val (.int p2), .val (.int p3), .val (.int p4), .val (.int p5), .val (.int p6), .val (.int i1), .val (.int i2), .val (.int (1 : Int32)), .val (.int (0 : Int32)), .val (.ref b13), .val (.long (0 : Int64)), .second, .unset, .unset, .unset, .unset, .unset, .unset, .unset, .unset]) rfl hr) ?_
      show OwnR _ _ _ _ _ _ _ (T17.setTop (mkF m 95 #[.val (.int p1), .val (.int p2), .val (.int p3), .val (.int p4), .val (.int p5), .val (.int p6), .val (.int i1), .val (.int i2), .val (.int (1 : Int32)), .val (.int (0 : Int32)), .val (.ref b13), .val (.long (0 : Int64)), .second, .unset, .unset, .unset, .unset, .unset, .unset, .unset, .unset] []))
      refine OwnR.of (fun _ hr => XS.iload X17.here hx rfl (hb hby at_95) rfl hr) ?_
      show OwnR _ _ _ _ _ _ _ (T17.setTop (mkF m 97 #[.val (.int p1), .val (.int p2), .val (.int p3), .val (.int p4), .val (.int p5), .val (.int p6), .val (.int i1), .val (.int i2), .val (.int (1 : Int32)), .val (.int (0 : Int32)), .val (.ref b13), .val (.long (0 : Int64)), .second, .unset, .unset, .unset, .unset, .unset, .unset, .unset, .unset] [(.int (1 : Int32))]))
      refine OwnR.of (fun _ hr => XS.iconst X17.here hx rfl (hb hby at_97) hr) ?_
      show OwnR _ _ _ _ _ _ _ (T17.setTop (mkF m 98 #[.val (.int p1), .val (.int p2), .val (.int p3), .val (.int p4), .val (.int p5), .val (.int p6), .val (.int i1), .val (.int i2), .val (.int (1 : Int32)), .val (.int (0 : Int32)), .val (.ref b13), .val (.long (0 : Int64)), .second, .unset, .unset, .unset, .unset, .unset, .unset, .unset, .unset] [(.int (1 : Int32)), (.int (1 : Int32))]))
      refine OwnR.of (fun _ hr => XS.icmpNo X17.here hx rfl (hb hby at_98) rfl (flt (by decide : ¬ ((1 : Int32) < (1 : Int32)))).1 hr) ?_
      show OwnR _ _ _ _ _ _ _ (T17.setTop (mkF m 101 #[.val (.int p1), .val (.int p2), .val (.int p3), .val (.int p4), .val (.int p5), .val (.int p6), .val (.int i1), .val (.int i2), .val (.int (1 : Int32)), .val (.int (0 : Int32)), .val (.ref b13), .val (.long (0 : Int64)), .second, .unset, .unset, .unset, .unset, .unset, .unset, .unset, .unset] []))
      refine OwnR.of (fun _ hr => XS.iload X17.here hx rfl (hb hby at_101) rfl hr) ?_
      show OwnR _ _ _ _ _ _ _ (T17.setTop (mkF m 103 #[.val (.int p1), .val (.int p2), .val (.int p3), .val (.int p4), .val (.int p5), .val (.int p6), .val (.int i1), .val (.int i2), .val (.int (1 : Int32)), .val (.int (0 : Int32)), .val (.ref b13), .val (.long (0 : Int64)), .second, .unset, .unset, .unset, .unset, .unset, .unset, .unset, .unset] [(.int i1)]))
      refine OwnR.of (fun _ hr => XS.i2l X17.here hx rfl (hb hby at_103) rfl hr) ?_
      show OwnR _ _ _ _ _ _ _ (T17.setTop (mkF m 104 #[.val (.int p1), .val (.int p2), .val (.int p3), .val (.int p4), .val (.int p5), .val (.int p6), .val (.int i1), .val (.int i2), .val (.int (1 : Int32)), .val (.int (0 : Int32)), .val (.ref b13), .val (.long (0 : Int64)), .second, .unset, .unset, .unset, .unset, .unset, .unset, .unset, .unset] [(.long (i1.toInt64))]))
      refine OwnR.of (fun _ hr => XS.goto X17.here hx rfl (pc0 := 104) (pc' := 110) rfl (hb hby at_104) (by decide) (by decide) hr) ?_
      show OwnR _ _ _ _ _ _ _ (T17.setTop (mkF m 110 #[.val (.int p1), .val (.int p2), .val (.int p3), .val (.int p4), .val (.int p5), .val (.int p6), .val (.int i1), .val (.int i2), .val (.int (1 : Int32)), .val (.int (0 : Int32)), .val (.ref b13), .val (.long (0 : Int64)), .second, .unset, .unset, .unset, .unset, .unset, .unset, .unset, .unset] [(.long (i1.toInt64))]))
      refine OwnR.of (fun _ hr => XS.lstore X17.here hx rfl (hb hby at_110) rfl (l' := #[.val (.int p1), .val (.int p2), .val (.int p3), .val (.int p4), .val (.int p5), .val (.int p6), .val (.int i1), .val (.int i2), .val (.int (1 : Int32)), .val (.int (0 : Int32)), .val (.ref b13), .val (.long (0 : Int64)), .second, .val (.long (i1.toInt64)), .second, .unset, .unset, .unset, .unset, .unset, .unset]) rfl hr) ?_
      show OwnR _ _ _ _ _ _ _ (T17.setTop (mkF m 112 #[.val (.int p1), .val (.int p2), .val (.int p3), .val (.int p4), .val (.int p5), .val (.int p6), .val (.int i1), .val (.int i2), .val (.int (1 : Int32)), .val (.int (0 : Int32)), .val (.ref b13), .val (.long (0 : Int64)), .second, .val (.long (i1.toInt64)), .second, .unset, .unset, .unset, .unset, .unset, .unset] []))
      refine OwnR.of (fun _ hr => XS.goto X17.here hx rfl (pc0 := 112) (pc' := 156) rfl (hb hby at_112) (by decide) (by decide) hr) ?_
      show OwnR _ _ _ _ _ _ _ (T17.setTop (mkF m 156 #[.val (.int p1), .val (.int p2), .val (.int p3), .val (.int p4), .val (.int p5), .val (.int p6), .val (.int i1), .val (.int i2), .val (.int (1 : Int32)), .val (.int (0 : Int32)), .val (.ref b13), .val (.long (0 : Int64)), .second, .val (.long (i1.toInt64)), .second, .unset, .unset, .unset, .unset, .unset, .unset] []))
      refine OwnR.of (fun _ hr => XS.lload X17.here hx rfl (hb hby at_156) rfl hr) ?_
      show OwnR _ _ _ _ _ _ _ (T17.setTop (mkF m 158 #[.val (.int p1), .val (.int p2), .val (.int p3), .val (.int p4), .val (.int p5), .val (.int p6), .val (.int i1), .val (.int i2), .val (.int (1 : Int32)), .val (.int (0 : Int32)), .val (.ref b13), .val (.long (0 : Int64)), .second, .val (.long (i1.toInt64)), .second, .unset, .unset, .unset, .unset, .unset, .unset] [(.long (i1.toInt64))]))
      refine OwnR.of (fun _ hr => XS.lload X17.here hx rfl (hb hby at_158) rfl hr) ?_
      show OwnR _ _ _ _ _ _ _ (T17.setTop (mkF m 160 #[.val (.int p1), .val (.int p2), .val (.int p3), .val (.int p4), .val (.int p5), .val (.int p6), .val (.int i1), .val (.int i2), .val (.int (1 : Int32)), .val (.int (0 : Int32)), .val (.ref b13), .val (.long (0 : Int64)), .second, .val (.long (i1.toInt64)), .second, .unset, .unset, .unset, .unset, .unset, .unset] [(.long (0 : Int64)), (.long (i1.toInt64))]))
      refine OwnR.of (fun _ hr => XS.lsub X17.here hx rfl (hb hby at_160) rfl hr) ?_
      show OwnR _ _ _ _ _ _ _ (T17.setTop (mkF m 161 #[.val (.int p1), .val (.int p2), .val (.int p3), .val (.int p4), .val (.int p5), .val (.int p6), .val (.int i1), .val (.int i2), .val (.int (1 : Int32)), .val (.int (0 : Int32)), .val (.ref b13), .val (.long (0 : Int64)), .second, .val (.long (i1.toInt64)), .second, .unset, .unset, .unset, .unset, .unset, .unset] [(.long ((i1.toInt64) - (0 : Int64)))]))
      refine OwnR.of (fun _ hr => XS.lstore X17.here hx rfl (hb hby at_161) rfl (l' := #[.val (.int p1), .val (.int p2), .val (.int p3), .val (.int p4), .val (.int p5), .val (.int p6), .val (.int i1), .val (.int i2), .val (.int (1 : Int32)), .val (.int (0 : Int32)), .val (.ref b13), .val (.long (0 : Int64)), .second, .val (.long (i1.toInt64)), .second, .val (.long ((i1.toInt64) - (0 : Int64))), .second, .unset, .unset, .unset, .unset]) rfl hr) ?_
      show OwnR _ _ _ _ _ _ _ (T17.setTop (mkF m 163 #[.val (.int p1), .val (.int p2), .val (.int p3), .val (.int p4), .val (.int p5), .val (.int p6), .val (.int i1), .val (.int i2), .val (.int (1 : Int32)), .val (.int (0 : Int32)), .val (.ref b13), .val (.long (0 : Int64)), .second, .val (.long (i1.toInt64)), .second, .val (.long ((i1.toInt64) - (0 : Int64))), .second, .unset, .unset, .unset, .unset] []))
      obtain ⟨len, hlen⟩ : ∃ z : Int64, z = ((i1.toInt64) - (0 : Int64)) := ⟨_, rfl⟩
      rw [← hlen]
      show OwnR _ _ _ _ _ _ _ (T17.setTop (mkF m 163 #[.val (.int p1), .val (.int p2), .val (.int p3), .val (.int p4), .val (.int p5), .val (.int p6), .val (.int i1), .val (.int i2), .val (.int (1 : Int32)), .val (.int (0 : Int32)), .val (.ref b13), .val (.long (0 : Int64)), .second, .val (.long (i1.toInt64)), .second, .val (.long len), .second, .unset, .unset, .unset, .unset] []))
      have hl0 : 0 < len.toInt ∧ True := by rw [hlen]; exact own_l0 i1 b1
      have hnz182 : ¬ len = (0 : Int64) := own_nz len hl0.1
      refine OwnR.of (fun _ hr => XS.iload X17.here hx rfl (hb hby at_163) rfl hr) ?_
      show OwnR _ _ _ _ _ _ _ (T17.setTop (mkF m 165 #[.val (.int p1), .val (.int p2), .val (.int p3), .val (.int p4), .val (.int p5), .val (.int p6), .val (.int i1), .val (.int i2), .val (.int (1 : Int32)), .val (.int (0 : Int32)), .val (.ref b13), .val (.long (0 : Int64)), .second, .val (.long (i1.toInt64)), .second, .val (.long len), .second, .unset, .unset, .unset, .unset] [(.int p6)]))
      refine OwnR.of (fun _ hr => XS.iconst X17.here hx rfl (hb hby at_165) hr) ?_
      show OwnR _ _ _ _ _ _ _ (T17.setTop (mkF m 166 #[.val (.int p1), .val (.int p2), .val (.int p3), .val (.int p4), .val (.int p5), .val (.int p6), .val (.int i1), .val (.int i2), .val (.int (1 : Int32)), .val (.int (0 : Int32)), .val (.ref b13), .val (.long (0 : Int64)), .second, .val (.long (i1.toInt64)), .second, .val (.long len), .second, .unset, .unset, .unset, .unset] [(.int (1 : Int32)), (.int p6)]))
      refine OwnR.of (fun _ hr => XS.iand X17.here hx rfl (hb hby at_166) rfl hr) ?_
      show OwnR _ _ _ _ _ _ _ (T17.setTop (mkF m 167 #[.val (.int p1), .val (.int p2), .val (.int p3), .val (.int p4), .val (.int p5), .val (.int p6), .val (.int i1), .val (.int i2), .val (.int (1 : Int32)), .val (.int (0 : Int32)), .val (.ref b13), .val (.long (0 : Int64)), .second, .val (.long (i1.toInt64)), .second, .val (.long len), .second, .unset, .unset, .unset, .unset] [(.int (p6 &&& (1 : Int32)))]))
      by_cases hc167_18 : (p6 &&& (1 : Int32)) = (0 : Int32)
      · skip
        refine OwnR.of (fun _ hr => XS.ifYes X17.here hx rfl (pc0 := 167) (pc' := 174) rfl (hb hby at_167) rfl ((if0 _ _).trans (teq hc167_18).1) (by decide) (by decide) hr) ?_
        show OwnR _ _ _ _ _ _ _ (T17.setTop (mkF m 174 #[.val (.int p1), .val (.int p2), .val (.int p3), .val (.int p4), .val (.int p5), .val (.int p6), .val (.int i1), .val (.int i2), .val (.int (1 : Int32)), .val (.int (0 : Int32)), .val (.ref b13), .val (.long (0 : Int64)), .second, .val (.long (i1.toInt64)), .second, .val (.long len), .second, .unset, .unset, .unset, .unset] []))
        refine OwnR.of (fun _ hr => XS.iload X17.here hx rfl (hb hby at_174) rfl hr) ?_
        show OwnR _ _ _ _ _ _ _ (T17.setTop (mkF m 176 #[.val (.int p1), .val (.int p2), .val (.int p3), .val (.int p4), .val (.int p5), .val (.int p6), .val (.int i1), .val (.int i2), .val (.int (1 : Int32)), .val (.int (0 : Int32)), .val (.ref b13), .val (.long (0 : Int64)), .second, .val (.long (i1.toInt64)), .second, .val (.long len), .second, .unset, .unset, .unset, .unset] [(.int p5)]))
        refine OwnR.of (X17.ldcInt hx hown (mvT hZ (hw _ (List.mem_of_getElem? (i := 2) rfl))) (g := (mkF m 176 #[.val (.int p1), .val (.int p2), .val (.int p3), .val (.int p4), .val (.int p5), .val (.int p6), .val (.int i1), .val (.int i2), .val (.int (1 : Int32)), .val (.int (0 : Int32)), .val (.ref b13), .val (.long (0 : Int64)), .second, .val (.long (i1.toInt64)), .second, .val (.long len), .second, .unset, .unset, .unset, .unset] [(.int p5)])) rfl (hb hby at_176)) ?_
        show OwnR _ _ _ _ _ _ _ (T17.setTop (mkF m 178 #[.val (.int p1), .val (.int p2), .val (.int p3), .val (.int p4), .val (.int p5), .val (.int p6), .val (.int i1), .val (.int i2), .val (.int (1 : Int32)), .val (.int (0 : Int32)), .val (.ref b13), .val (.long (0 : Int64)), .second, .val (.long (i1.toInt64)), .second, .val (.long len), .second, .unset, .unset, .unset, .unset] [(.int (2147483647 : Int32)), (.int p5)]))
        refine OwnR.of (fun _ hr => XS.iand X17.here hx rfl (hb hby at_178) rfl hr) ?_
        show OwnR _ _ _ _ _ _ _ (T17.setTop (mkF m 179 #[.val (.int p1), .val (.int p2), .val (.int p3), .val (.int p4), .val (.int p5), .val (.int p6), .val (.int i1), .val (.int i2), .val (.int (1 : Int32)), .val (.int (0 : Int32)), .val (.ref b13), .val (.long (0 : Int64)), .second, .val (.long (i1.toInt64)), .second, .val (.long len), .second, .unset, .unset, .unset, .unset] [(.int (p5 &&& (2147483647 : Int32)))]))
        refine OwnR.of (fun _ hr => XS.i2l X17.here hx rfl (hb hby at_179) rfl hr) ?_
        show OwnR _ _ _ _ _ _ _ (T17.setTop (mkF m 180 #[.val (.int p1), .val (.int p2), .val (.int p3), .val (.int p4), .val (.int p5), .val (.int p6), .val (.int i1), .val (.int i2), .val (.int (1 : Int32)), .val (.int (0 : Int32)), .val (.ref b13), .val (.long (0 : Int64)), .second, .val (.long (i1.toInt64)), .second, .val (.long len), .second, .unset, .unset, .unset, .unset] [(.long ((p5 &&& (2147483647 : Int32)).toInt64))]))
        refine OwnR.of (fun _ hr => XS.lload X17.here hx rfl (hb hby at_180) rfl hr) ?_
        show OwnR _ _ _ _ _ _ _ (T17.setTop (mkF m 182 #[.val (.int p1), .val (.int p2), .val (.int p3), .val (.int p4), .val (.int p5), .val (.int p6), .val (.int i1), .val (.int i2), .val (.int (1 : Int32)), .val (.int (0 : Int32)), .val (.ref b13), .val (.long (0 : Int64)), .second, .val (.long (i1.toInt64)), .second, .val (.long len), .second, .unset, .unset, .unset, .unset] [(.long len), (.long ((p5 &&& (2147483647 : Int32)).toInt64))]))
        refine OwnR.of (fun _ hr => XS.lrem X17.here hx rfl (hb hby at_182) rfl hnz182 hr) ?_
        show OwnR _ _ _ _ _ _ _ (T17.setTop (mkF m 183 #[.val (.int p1), .val (.int p2), .val (.int p3), .val (.int p4), .val (.int p5), .val (.int p6), .val (.int i1), .val (.int i2), .val (.int (1 : Int32)), .val (.int (0 : Int32)), .val (.ref b13), .val (.long (0 : Int64)), .second, .val (.long (i1.toInt64)), .second, .val (.long len), .second, .unset, .unset, .unset, .unset] [(.long (((p5 &&& (2147483647 : Int32)).toInt64) - (((p5 &&& (2147483647 : Int32)).toInt64) / len) * len))]))
        refine OwnR.of (fun _ hr => XS.lstore X17.here hx rfl (hb hby at_183) rfl (l' := #[.val (.int p1), .val (.int p2), .val (.int p3), .val (.int p4), .val (.int p5), .val (.int p6), .val (.int i1), .val (.int i2), .val (.int (1 : Int32)), .val (.int (0 : Int32)), .val (.ref b13), .val (.long (0 : Int64)), .second, .val (.long (i1.toInt64)), .second, .val (.long len), .second, .val (.long (((p5 &&& (2147483647 : Int32)).toInt64) - (((p5 &&& (2147483647 : Int32)).toInt64) / len) * len)), .second, .unset, .unset]) rfl hr) ?_
        show OwnR _ _ _ _ _ _ _ (T17.setTop (mkF m 185 #[.val (.int p1), .val (.int p2), .val (.int p3), .val (.int p4), .val (.int p5), .val (.int p6), .val (.int i1), .val (.int i2), .val (.int (1 : Int32)), .val (.int (0 : Int32)), .val (.ref b13), .val (.long (0 : Int64)), .second, .val (.long (i1.toInt64)), .second, .val (.long len), .second, .val (.long (((p5 &&& (2147483647 : Int32)).toInt64) - (((p5 &&& (2147483647 : Int32)).toInt64) / len) * len)), .second, .unset, .unset] []))
        obtain ⟨off, hoff⟩ : ∃ z : Int64, z = (((p5 &&& (2147483647 : Int32)).toInt64) - (((p5 &&& (2147483647 : Int32)).toInt64) / len) * len) := ⟨_, rfl⟩
        rw [← hoff]
        show OwnR _ _ _ _ _ _ _ (T17.setTop (mkF m 185 #[.val (.int p1), .val (.int p2), .val (.int p3), .val (.int p4), .val (.int p5), .val (.int p6), .val (.int i1), .val (.int i2), .val (.int (1 : Int32)), .val (.int (0 : Int32)), .val (.ref b13), .val (.long (0 : Int64)), .second, .val (.long (i1.toInt64)), .second, .val (.long len), .second, .val (.long off), .second, .unset, .unset] []))
        refine OwnR.of (fun _ hr => XS.lload X17.here hx rfl (hb hby at_185) rfl hr) ?_
        show OwnR _ _ _ _ _ _ _ (T17.setTop (mkF m 187 #[.val (.int p1), .val (.int p2), .val (.int p3), .val (.int p4), .val (.int p5), .val (.int p6), .val (.int i1), .val (.int i2), .val (.int (1 : Int32)), .val (.int (0 : Int32)), .val (.ref b13), .val (.long (0 : Int64)), .second, .val (.long (i1.toInt64)), .second, .val (.long len), .second, .val (.long off), .second, .unset, .unset] [(.long (0 : Int64))]))
        refine OwnR.of (fun _ hr => XS.lload X17.here hx rfl (hb hby at_187) rfl hr) ?_
        show OwnR _ _ _ _ _ _ _ (T17.setTop (mkF m 189 #[.val (.int p1), .val (.int p2), .val (.int p3), .val (.int p4), .val (.int p5), .val (.int p6), .val (.int i1), .val (.int i2), .val (.int (1 : Int32)), .val (.int (0 : Int32)), .val (.ref b13), .val (.long (0 : Int64)), .second, .val (.long (i1.toInt64)), .second, .val (.long len), .second, .val (.long off), .second, .unset, .unset] [(.long off), (.long (0 : Int64))]))
        refine OwnR.of (fun _ hr => XS.ladd X17.here hx rfl (hb hby at_189) rfl hr) ?_
        show OwnR _ _ _ _ _ _ _ (T17.setTop (mkF m 190 #[.val (.int p1), .val (.int p2), .val (.int p3), .val (.int p4), .val (.int p5), .val (.int p6), .val (.int i1), .val (.int i2), .val (.int (1 : Int32)), .val (.int (0 : Int32)), .val (.ref b13), .val (.long (0 : Int64)), .second, .val (.long (i1.toInt64)), .second, .val (.long len), .second, .val (.long off), .second, .unset, .unset] [(.long ((0 : Int64) + off))]))
        refine OwnR.of (fun _ hr => XS.l2i X17.here hx rfl (hb hby at_190) rfl hr) ?_
        show OwnR _ _ _ _ _ _ _ (T17.setTop (mkF m 191 #[.val (.int p1), .val (.int p2), .val (.int p3), .val (.int p4), .val (.int p5), .val (.int p6), .val (.int i1), .val (.int i2), .val (.int (1 : Int32)), .val (.int (0 : Int32)), .val (.ref b13), .val (.long (0 : Int64)), .second, .val (.long (i1.toInt64)), .second, .val (.long len), .second, .val (.long off), .second, .unset, .unset] [(.int (((0 : Int64) + off).toInt32))]))
        refine OwnR.of (fun _ hr => XS.istore X17.here hx rfl (hb hby at_191) rfl (l' := #[.val (.int p1), .val (.int p2), .val (.int p3), .val (.int p4), .val (.int p5), .val (.int p6), .val (.int i1), .val (.int i2), .val (.int (1 : Int32)), .val (.int (0 : Int32)), .val (.ref b13), .val (.long (0 : Int64)), .second, .val (.long (i1.toInt64)), .second, .val (.long len), .second, .val (.long off), .second, .val (.int (((0 : Int64) + off).toInt32)), .unset]) rfl hr) ?_
        show OwnR _ _ _ _ _ _ _ (T17.setTop (mkF m 193 #[.val (.int p1), .val (.int p2), .val (.int p3), .val (.int p4), .val (.int p5), .val (.int p6), .val (.int i1), .val (.int i2), .val (.int (1 : Int32)), .val (.int (0 : Int32)), .val (.ref b13), .val (.long (0 : Int64)), .second, .val (.long (i1.toInt64)), .second, .val (.long len), .second, .val (.long off), .second, .val (.int (((0 : Int64) + off).toInt32)), .unset] []))
        refine OwnR.of (fun _ hr => XS.iload X17.here hx rfl (hb hby at_193) rfl hr) ?_
        show OwnR _ _ _ _ _ _ _ (T17.setTop (mkF m 195 #[.val (.int p1), .val (.int p2), .val (.int p3), .val (.int p4), .val (.int p5), .val (.int p6), .val (.int i1), .val (.int i2), .val (.int (1 : Int32)), .val (.int (0 : Int32)), .val (.ref b13), .val (.long (0 : Int64)), .second, .val (.long (i1.toInt64)), .second, .val (.long len), .second, .val (.long off), .second, .val (.int (((0 : Int64) + off).toInt32)), .unset] [(.int (0 : Int32))]))
        refine OwnR.of (fun _ hr => XS.ifYes X17.here hx rfl (pc0 := 195) (pc' := 209) rfl (hb hby at_195) rfl ((if0 _ _).trans (flt (by decide : ¬ ((0 : Int32) < (0 : Int32)))).2.2.2) (by decide) (by decide) hr) ?_
        show OwnR _ _ _ _ _ _ _ (T17.setTop (mkF m 209 #[.val (.int p1), .val (.int p2), .val (.int p3), .val (.int p4), .val (.int p5), .val (.int p6), .val (.int i1), .val (.int i2), .val (.int (1 : Int32)), .val (.int (0 : Int32)), .val (.ref b13), .val (.long (0 : Int64)), .second, .val (.long (i1.toInt64)), .second, .val (.long len), .second, .val (.long off), .second, .val (.int (((0 : Int64) + off).toInt32)), .unset] []))
        refine OwnR.of (fun _ hr => XS.iconst X17.here hx rfl (hb hby at_209) hr) ?_
        show OwnR _ _ _ _ _ _ _ (T17.setTop (mkF m 210 #[.val (.int p1), .val (.int p2), .val (.int p3), .val (.int p4), .val (.int p5), .val (.int p6), .val (.int i1), .val (.int i2), .val (.int (1 : Int32)), .val (.int (0 : Int32)), .val (.ref b13), .val (.long (0 : Int64)), .second, .val (.long (i1.toInt64)), .second, .val (.long len), .second, .val (.long off), .second, .val (.int (((0 : Int64) + off).toInt32)), .unset] [(.int (0 : Int32))]))
        refine OwnR.of (fun _ hr => XS.istore X17.here hx rfl (hb hby at_210) rfl (l' := #[.val (.int p1), .val (.int p2), .val (.int p3), .val (.int p4), .val (.int p5), .val (.int p6), .val (.int i1), .val (.int i2), .val (.int (1 : Int32)), .val (.int (0 : Int32)), .val (.ref b13), .val (.long (0 : Int64)), .second, .val (.long (i1.toInt64)), .second, .val (.long len), .second, .val (.long off), .second, .val (.int (((0 : Int64) + off).toInt32)), .val (.int (0 : Int32))]) rfl hr) ?_
        show OwnR _ _ _ _ _ _ _ (T17.setTop (mkF m 212 #[.val (.int p1), .val (.int p2), .val (.int p3), .val (.int p4), .val (.int p5), .val (.int p6), .val (.int i1), .val (.int i2), .val (.int (1 : Int32)), .val (.int (0 : Int32)), .val (.ref b13), .val (.long (0 : Int64)), .second, .val (.long (i1.toInt64)), .second, .val (.long len), .second, .val (.long off), .second, .val (.int (((0 : Int64) + off).toInt32)), .val (.int (0 : Int32))] []))
        refine OwnR.of (fun _ hr => XS.aload X17.here hx rfl (hb hby at_212) rfl rfl hr) ?_
        show OwnR _ _ _ _ _ _ _ (T17.setTop (mkF m 214 #[.val (.int p1), .val (.int p2), .val (.int p3), .val (.int p4), .val (.int p5), .val (.int p6), .val (.int i1), .val (.int i2), .val (.int (1 : Int32)), .val (.int (0 : Int32)), .val (.ref b13), .val (.long (0 : Int64)), .second, .val (.long (i1.toInt64)), .second, .val (.long len), .second, .val (.long off), .second, .val (.int (((0 : Int64) + off).toInt32)), .val (.int (0 : Int32))] [(.ref b13)]))
        refine OwnR.of (fun _ hr => XS.iload X17.here hx rfl (hb hby at_214) rfl hr) ?_
        show OwnR _ _ _ _ _ _ _ (T17.setTop (mkF m 216 #[.val (.int p1), .val (.int p2), .val (.int p3), .val (.int p4), .val (.int p5), .val (.int p6), .val (.int i1), .val (.int i2), .val (.int (1 : Int32)), .val (.int (0 : Int32)), .val (.ref b13), .val (.long (0 : Int64)), .second, .val (.long (i1.toInt64)), .second, .val (.long len), .second, .val (.long off), .second, .val (.int (((0 : Int64) + off).toInt32)), .val (.int (0 : Int32))] [(.int (0 : Int32)), (.ref b13)]))
        refine OwnR.of (fun _ hr => XS.iload X17.here hx rfl (hb hby at_216) rfl hr) ?_
        show OwnR _ _ _ _ _ _ _ (T17.setTop (mkF m 218 #[.val (.int p1), .val (.int p2), .val (.int p3), .val (.int p4), .val (.int p5), .val (.int p6), .val (.int i1), .val (.int i2), .val (.int (1 : Int32)), .val (.int (0 : Int32)), .val (.ref b13), .val (.long (0 : Int64)), .second, .val (.long (i1.toInt64)), .second, .val (.long len), .second, .val (.long off), .second, .val (.int (((0 : Int64) + off).toInt32)), .val (.int (0 : Int32))] [(.int (((0 : Int64) + off).toInt32)), (.int (0 : Int32)), (.ref b13)]))
        obtain ⟨cq19, kq19, q19a, q19b, q19c⟩ := isOf hZ rfl P17_1
        obtain ⟨_, _, ⟨T19, L19, kc19, ns19⟩, -, X19, ⟨Lc19, hQ19, l19, y19, z19⟩, st19⟩ := X17.virtualBack hx (y := (⟨"com/example/tercet/tercet/core/Pages", "startsPage", "(II)Z"⟩ : MethodName)) (z := (⟨"com/example/tercet/tercet/core/Pages", "startsPage", "(II)Z"⟩ : MethodName)) hown (mvT hZ (hw _ (List.mem_of_getElem? (i := 66) rfl))) (mvT hZ (hw _ (List.mem_of_getElem? (i := 67) rfl))) (notFace_of_selects (args := #[]) (mvT hZ (hw _ (List.mem_of_getElem? (i := 69) rfl)))) (mvT hZ (hw _ (List.mem_of_getElem? (i := 69) rfl))) (mvT hZ (hw _ (List.mem_of_getElem? (i := 68) rfl))) (by decide) (backOf (W := 0) (rmS_0 l Z a0 hw [] b13 (((0 : Int64) + off).toInt32) (T17.heap) n0 (Nat.le_trans Z0 K17.1) ) hZ (hw _ (List.mem_of_getElem? (i := 70) rfl)) (hw _ (List.mem_of_getElem? (i := 5) rfl)) (by decide) (by decide)) q19a q19c (g := (mkF m 218 #[.val (.int p1), .val (.int p2), .val (.int p3), .val (.int p4), .val (.int p5), .val (.int p6), .val (.int i1), .val (.int i2), .val (.int (1 : Int32)), .val (.int (0 : Int32)), .val (.ref b13), .val (.long (0 : Int64)), .second, .val (.long (i1.toInt64)), .second, .val (.long len), .second, .val (.long off), .second, .val (.int (((0 : Int64) + off).toInt32)), .val (.int (0 : Int32))] [(.int (((0 : Int64) + off).toInt32)), (.int (0 : Int32)), (.ref b13)])) rfl (by rw [hml]; rfl) (Steps.refl _) (argsL := [(.int (0 : Int32)), (.int (((0 : Int64) + off).toInt32))]) (rest := []) (lenOf pd__II_Z rfl) rfl (by show 2 * 0 + _ ≤ _; exact Nat.le_of_eq rfl) (hb hby at_218) (fun _ _ => ⟨rfl, rfl, (by decide : 5 + 0 ≤ _), (by decide : 13 + 0 ≤ _)⟩)
        dsimp only [Pt.U, Pt.locs, Pt.cells, Pt.slots] at X19 l19 y19 z19 st19 hQ19
        subst l19 y19 z19
        obtain ⟨rfl, N19q, e19⟩ := hQ19
        have N19 := Fr.app N17 N19q
        refine OwnR.of (fun _ hr => st19.trans hr) ?_
        show OwnR _ _ _ _ _ _ _ (T19.setTop (mkF m 221 #[.val (.int p1), .val (.int p2), .val (.int p3), .val (.int p4), .val (.int p5), .val (.int p6), .val (.int i1), .val (.int i2), .val (.int (1 : Int32)), .val (.int (0 : Int32)), .val (.ref b13), .val (.long (0 : Int64)), .second, .val (.long (i1.toInt64)), .second, .val (.long len), .second, .val (.long off), .second, .val (.int (((0 : Int64) + off).toInt32)), .val (.int (0 : Int32))] [(.int (0 : Int32))]))
        refine OwnR.of (fun _ hr => XS.iload X19.here hx rfl (hb hby at_221) rfl hr) ?_
        show OwnR _ _ _ _ _ _ _ (T19.setTop (mkF m 223 #[.val (.int p1), .val (.int p2), .val (.int p3), .val (.int p4), .val (.int p5), .val (.int p6), .val (.int i1), .val (.int i2), .val (.int (1 : Int32)), .val (.int (0 : Int32)), .val (.ref b13), .val (.long (0 : Int64)), .second, .val (.long (i1.toInt64)), .second, .val (.long len), .second, .val (.long off), .second, .val (.int (((0 : Int64) + off).toInt32)), .val (.int (0 : Int32))] [(.int (0 : Int32)), (.int (0 : Int32))]))
        refine OwnR.of (fun _ hr => XS.icmpNo X19.here hx rfl (hb hby at_223) rfl (teq (by decide : (0 : Int32) = (0 : Int32))).2 hr) ?_
        show OwnR _ _ _ _ _ _ _ (T19.setTop (mkF m 226 #[.val (.int p1), .val (.int p2), .val (.int p3), .val (.int p4), .val (.int p5), .val (.int p6), .val (.int i1), .val (.int i2), .val (.int (1 : Int32)), .val (.int (0 : Int32)), .val (.ref b13), .val (.long (0 : Int64)), .second, .val (.long (i1.toInt64)), .second, .val (.long len), .second, .val (.long off), .second, .val (.int (((0 : Int64) + off).toInt32)), .val (.int (0 : Int32))] []))
        refine OwnR.of (fun _ hr => XS.iconst X19.here hx rfl (hb hby at_226) hr) ?_
        show OwnR _ _ _ _ _ _ _ (T19.setTop (mkF m 227 #[.val (.int p1), .val (.int p2), .val (.int p3), .val (.int p4), .val (.int p5), .val (.int p6), .val (.int i1), .val (.int i2), .val (.int (1 : Int32)), .val (.int (0 : Int32)), .val (.ref b13), .val (.long (0 : Int64)), .second, .val (.long (i1.toInt64)), .second, .val (.long len), .second, .val (.long off), .second, .val (.int (((0 : Int64) + off).toInt32)), .val (.int (0 : Int32))] [(.int (1 : Int32))]))
        refine OwnR.of (fun _ hr => XS.goto X19.here hx rfl (pc0 := 227) (pc' := 231) rfl (hb hby at_227) (by decide) (by decide) hr) ?_
        show OwnR _ _ _ _ _ _ _ (T19.setTop (mkF m 231 #[.val (.int p1), .val (.int p2), .val (.int p3), .val (.int p4), .val (.int p5), .val (.int p6), .val (.int i1), .val (.int i2), .val (.int (1 : Int32)), .val (.int (0 : Int32)), .val (.ref b13), .val (.long (0 : Int64)), .second, .val (.long (i1.toInt64)), .second, .val (.long len), .second, .val (.long off), .second, .val (.int (((0 : Int64) + off).toInt32)), .val (.int (0 : Int32))] [(.int (1 : Int32))]))
        refine own_leafN X19 hx hlk (t := .boolean) Bd.returns (by simp) (hb hby at_231) (z' := (1 : Int32)) rfl (by decide) (by decide) ?_
        show Q0 Z  h0 n0 _ T19.heap _
        rw [show T19.heap = T17.heap from e19]
        refine ⟨?_, N19⟩
        show (some (.int (1 : Int32)) : Option Value) = some (.int (1 : Int32))
        rfl
      · skip
        refine OwnR.of (fun _ hr => XS.ifNo X17.here hx rfl (hb hby at_167) rfl ((if0 _ _).trans (feq hc167_18).1) hr) ?_
        show OwnR _ _ _ _ _ _ _ (T17.setTop (mkF m 170 #[.val (.int p1), .val (.int p2), .val (.int p3), .val (.int p4), .val (.int p5), .val (.int p6), .val (.int i1), .val (.int i2), .val (.int (1 : Int32)), .val (.int (0 : Int32)), .val (.ref b13), .val (.long (0 : Int64)), .second, .val (.long (i1.toInt64)), .second, .val (.long len), .second, .unset, .unset, .unset, .unset] []))
        refine OwnR.of (fun _ hr => XS.lconst X17.here hx rfl (hb hby at_170) hr) ?_
        show OwnR _ _ _ _ _ _ _ (T17.setTop (mkF m 171 #[.val (.int p1), .val (.int p2), .val (.int p3), .val (.int p4), .val (.int p5), .val (.int p6), .val (.int i1), .val (.int i2), .val (.int (1 : Int32)), .val (.int (0 : Int32)), .val (.ref b13), .val (.long (0 : Int64)), .second, .val (.long (i1.toInt64)), .second, .val (.long len), .second, .unset, .unset, .unset, .unset] [(.long (0 : Int64))]))
        refine OwnR.of (fun _ hr => XS.goto X17.here hx rfl (pc0 := 171) (pc' := 183) rfl (hb hby at_171) (by decide) (by decide) hr) ?_
        show OwnR _ _ _ _ _ _ _ (T17.setTop (mkF m 183 #[.val (.int p1), .val (.int p2), .val (.int p3), .val (.int p4), .val (.int p5), .val (.int p6), .val (.int i1), .val (.int i2), .val (.int (1 : Int32)), .val (.int (0 : Int32)), .val (.ref b13), .val (.long (0 : Int64)), .second, .val (.long (i1.toInt64)), .second, .val (.long len), .second, .unset, .unset, .unset, .unset] [(.long (0 : Int64))]))
        refine OwnR.of (fun _ hr => XS.lstore X17.here hx rfl (hb hby at_183) rfl (l' := #[.val (.int p1), .val (.int p2), .val (.int p3), .val (.int p4), .val (.int p5), .val (.int p6), .val (.int i1), .val (.int i2), .val (.int (1 : Int32)), .val (.int (0 : Int32)), .val (.ref b13), .val (.long (0 : Int64)), .second, .val (.long (i1.toInt64)), .second, .val (.long len), .second, .val (.long (0 : Int64)), .second, .unset, .unset]) rfl hr) ?_
        show OwnR _ _ _ _ _ _ _ (T17.setTop (mkF m 185 #[.val (.int p1), .val (.int p2), .val (.int p3), .val (.int p4), .val (.int p5), .val (.int p6), .val (.int i1), .val (.int i2), .val (.int (1 : Int32)), .val (.int (0 : Int32)), .val (.ref b13), .val (.long (0 : Int64)), .second, .val (.long (i1.toInt64)), .second, .val (.long len), .second, .val (.long (0 : Int64)), .second, .unset, .unset] []))
        refine OwnR.of (fun _ hr => XS.lload X17.here hx rfl (hb hby at_185) rfl hr) ?_
        show OwnR _ _ _ _ _ _ _ (T17.setTop (mkF m 187 #[.val (.int p1), .val (.int p2), .val (.int p3), .val (.int p4), .val (.int p5), .val (.int p6), .val (.int i1), .val (.int i2), .val (.int (1 : Int32)), .val (.int (0 : Int32)), .val (.ref b13), .val (.long (0 : Int64)), .second, .val (.long (i1.toInt64)), .second, .val (.long len), .second, .val (.long (0 : Int64)), .second, .unset, .unset] [(.long (0 : Int64))]))
        refine OwnR.of (fun _ hr => XS.lload X17.here hx rfl (hb hby at_187) rfl hr) ?_
        show OwnR _ _ _ _ _ _ _ (T17.setTop (mkF m 189 #[.val (.int p1), .val (.int p2), .val (.int p3), .val (.int p4), .val (.int p5), .val (.int p6), .val (.int i1), .val (.int i2), .val (.int (1 : Int32)), .val (.int (0 : Int32)), .val (.ref b13), .val (.long (0 : Int64)), .second, .val (.long (i1.toInt64)), .second, .val (.long len), .second, .val (.long (0 : Int64)), .second, .unset, .unset] [(.long (0 : Int64)), (.long (0 : Int64))]))
        refine OwnR.of (fun _ hr => XS.ladd X17.here hx rfl (hb hby at_189) rfl hr) ?_
        show OwnR _ _ _ _ _ _ _ (T17.setTop (mkF m 190 #[.val (.int p1), .val (.int p2), .val (.int p3), .val (.int p4), .val (.int p5), .val (.int p6), .val (.int i1), .val (.int i2), .val (.int (1 : Int32)), .val (.int (0 : Int32)), .val (.ref b13), .val (.long (0 : Int64)), .second, .val (.long (i1.toInt64)), .second, .val (.long len), .second, .val (.long (0 : Int64)), .second, .unset, .unset] [(.long ((0 : Int64) + (0 : Int64)))]))
        rw [(by decide : ((0 : Int64) + (0 : Int64)) = (0 : Int64))]
        show OwnR _ _ _ _ _ _ _ (T17.setTop (mkF m 190 #[.val (.int p1), .val (.int p2), .val (.int p3), .val (.int p4), .val (.int p5), .val (.int p6), .val (.int i1), .val (.int i2), .val (.int (1 : Int32)), .val (.int (0 : Int32)), .val (.ref b13), .val (.long (0 : Int64)), .second, .val (.long (i1.toInt64)), .second, .val (.long len), .second, .val (.long (0 : Int64)), .second, .unset, .unset] [(.long (0 : Int64))]))
        refine OwnR.of (fun _ hr => XS.l2i X17.here hx rfl (hb hby at_190) rfl hr) ?_
        show OwnR _ _ _ _ _ _ _ (T17.setTop (mkF m 191 #[.val (.int p1), .val (.int p2), .val (.int p3), .val (.int p4), .val (.int p5), .val (.int p6), .val (.int i1), .val (.int i2), .val (.int (1 : Int32)), .val (.int (0 : Int32)), .val (.ref b13), .val (.long (0 : Int64)), .second, .val (.long (i1.toInt64)), .second, .val (.long len), .second, .val (.long (0 : Int64)), .second, .unset, .unset] [(.int ((0 : Int64).toInt32))]))
        rw [(by decide : ((0 : Int64).toInt32) = (0 : Int32))]
        show OwnR _ _ _ _ _ _ _ (T17.setTop (mkF m 191 #[.val (.int p1), .val (.int p2), .val (.int p3), .val (.int p4), .val (.int p5), .val (.int p6), .val (.int i1), .val (.int i2), .val (.int (1 : Int32)), .val (.int (0 : Int32)), .val (.ref b13), .val (.long (0 : Int64)), .second, .val (.long (i1.toInt64)), .second, .val (.long len), .second, .val (.long (0 : Int64)), .second, .unset, .unset] [(.int (0 : Int32))]))
        refine OwnR.of (fun _ hr => XS.istore X17.here hx rfl (hb hby at_191) rfl (l' := #[.val (.int p1), .val (.int p2), .val (.int p3), .val (.int p4), .val (.int p5), .val (.int p6), .val (.int i1), .val (.int i2), .val (.int (1 : Int32)), .val (.int (0 : Int32)), .val (.ref b13), .val (.long (0 : Int64)), .second, .val (.long (i1.toInt64)), .second, .val (.long len), .second, .val (.long (0 : Int64)), .second, .val (.int (0 : Int32)), .unset]) rfl hr) ?_
        show OwnR _ _ _ _ _ _ _ (T17.setTop (mkF m 193 #[.val (.int p1), .val (.int p2), .val (.int p3), .val (.int p4), .val (.int p5), .val (.int p6), .val (.int i1), .val (.int i2), .val (.int (1 : Int32)), .val (.int (0 : Int32)), .val (.ref b13), .val (.long (0 : Int64)), .second, .val (.long (i1.toInt64)), .second, .val (.long len), .second, .val (.long (0 : Int64)), .second, .val (.int (0 : Int32)), .unset] []))
        refine OwnR.of (fun _ hr => XS.iload X17.here hx rfl (hb hby at_193) rfl hr) ?_
        show OwnR _ _ _ _ _ _ _ (T17.setTop (mkF m 195 #[.val (.int p1), .val (.int p2), .val (.int p3), .val (.int p4), .val (.int p5), .val (.int p6), .val (.int i1), .val (.int i2), .val (.int (1 : Int32)), .val (.int (0 : Int32)), .val (.ref b13), .val (.long (0 : Int64)), .second, .val (.long (i1.toInt64)), .second, .val (.long len), .second, .val (.long (0 : Int64)), .second, .val (.int (0 : Int32)), .unset] [(.int (0 : Int32))]))
        refine OwnR.of (fun _ hr => XS.ifYes X17.here hx rfl (pc0 := 195) (pc' := 209) rfl (hb hby at_195) rfl ((if0 _ _).trans (flt (by decide : ¬ ((0 : Int32) < (0 : Int32)))).2.2.2) (by decide) (by decide) hr) ?_
        show OwnR _ _ _ _ _ _ _ (T17.setTop (mkF m 209 #[.val (.int p1), .val (.int p2), .val (.int p3), .val (.int p4), .val (.int p5), .val (.int p6), .val (.int i1), .val (.int i2), .val (.int (1 : Int32)), .val (.int (0 : Int32)), .val (.ref b13), .val (.long (0 : Int64)), .second, .val (.long (i1.toInt64)), .second, .val (.long len), .second, .val (.long (0 : Int64)), .second, .val (.int (0 : Int32)), .unset] []))
        refine OwnR.of (fun _ hr => XS.iconst X17.here hx rfl (hb hby at_209) hr) ?_
        show OwnR _ _ _ _ _ _ _ (T17.setTop (mkF m 210 #[.val (.int p1), .val (.int p2), .val (.int p3), .val (.int p4), .val (.int p5), .val (.int p6), .val (.int i1), .val (.int i2), .val (.int (1 : Int32)), .val (.int (0 : Int32)), .val (.ref b13), .val (.long (0 : Int64)), .second, .val (.long (i1.toInt64)), .second, .val (.long len), .second, .val (.long (0 : Int64)), .second, .val (.int (0 : Int32)), .unset] [(.int (0 : Int32))]))
        refine OwnR.of (fun _ hr => XS.istore X17.here hx rfl (hb hby at_210) rfl (l' := #[.val (.int p1), .val (.int p2), .val (.int p3), .val (.int p4), .val (.int p5), .val (.int p6), .val (.int i1), .val (.int i2), .val (.int (1 : Int32)), .val (.int (0 : Int32)), .val (.ref b13), .val (.long (0 : Int64)), .second, .val (.long (i1.toInt64)), .second, .val (.long len), .second, .val (.long (0 : Int64)), .second, .val (.int (0 : Int32)), .val (.int (0 : Int32))]) rfl hr) ?_
        show OwnR _ _ _ _ _ _ _ (T17.setTop (mkF m 212 #[.val (.int p1), .val (.int p2), .val (.int p3), .val (.int p4), .val (.int p5), .val (.int p6), .val (.int i1), .val (.int i2), .val (.int (1 : Int32)), .val (.int (0 : Int32)), .val (.ref b13), .val (.long (0 : Int64)), .second, .val (.long (i1.toInt64)), .second, .val (.long len), .second, .val (.long (0 : Int64)), .second, .val (.int (0 : Int32)), .val (.int (0 : Int32))] []))
        refine OwnR.of (fun _ hr => XS.aload X17.here hx rfl (hb hby at_212) rfl rfl hr) ?_
        show OwnR _ _ _ _ _ _ _ (T17.setTop (mkF m 214 #[.val (.int p1), .val (.int p2), .val (.int p3), .val (.int p4), .val (.int p5), .val (.int p6), .val (.int i1), .val (.int i2), .val (.int (1 : Int32)), .val (.int (0 : Int32)), .val (.ref b13), .val (.long (0 : Int64)), .second, .val (.long (i1.toInt64)), .second, .val (.long len), .second, .val (.long (0 : Int64)), .second, .val (.int (0 : Int32)), .val (.int (0 : Int32))] [(.ref b13)]))
        refine OwnR.of (fun _ hr => XS.iload X17.here hx rfl (hb hby at_214) rfl hr) ?_
        show OwnR _ _ _ _ _ _ _ (T17.setTop (mkF m 216 #[.val (.int p1), .val (.int p2), .val (.int p3), .val (.int p4), .val (.int p5), .val (.int p6), .val (.int i1), .val (.int i2), .val (.int (1 : Int32)), .val (.int (0 : Int32)), .val (.ref b13), .val (.long (0 : Int64)), .second, .val (.long (i1.toInt64)), .second, .val (.long len), .second, .val (.long (0 : Int64)), .second, .val (.int (0 : Int32)), .val (.int (0 : Int32))] [(.int (0 : Int32)), (.ref b13)]))
        refine OwnR.of (fun _ hr => XS.iload X17.here hx rfl (hb hby at_216) rfl hr) ?_
        show OwnR _ _ _ _ _ _ _ (T17.setTop (mkF m 218 #[.val (.int p1), .val (.int p2), .val (.int p3), .val (.int p4), .val (.int p5), .val (.int p6), .val (.int i1), .val (.int i2), .val (.int (1 : Int32)), .val (.int (0 : Int32)), .val (.ref b13), .val (.long (0 : Int64)), .second, .val (.long (i1.toInt64)), .second, .val (.long len), .second, .val (.long (0 : Int64)), .second, .val (.int (0 : Int32)), .val (.int (0 : Int32))] [(.int (0 : Int32)), (.int (0 : Int32)), (.ref b13)]))
        obtain ⟨cq20, kq20, q20a, q20b, q20c⟩ := isOf hZ rfl P17_1
        obtain ⟨_, _, ⟨T20, L20, kc20, ns20⟩, -, X20, ⟨Lc20, hQ20, l20, y20, z20⟩, st20⟩ := X17.virtualBack hx (y := (⟨"com/example/tercet/tercet/core/Pages", "startsPage", "(II)Z"⟩ : MethodName)) (z := (⟨"com/example/tercet/tercet/core/Pages", "startsPage", "(II)Z"⟩ : MethodName)) hown (mvT hZ (hw _ (List.mem_of_getElem? (i := 66) rfl))) (mvT hZ (hw _ (List.mem_of_getElem? (i := 67) rfl))) (notFace_of_selects (args := #[]) (mvT hZ (hw _ (List.mem_of_getElem? (i := 69) rfl)))) (mvT hZ (hw _ (List.mem_of_getElem? (i := 69) rfl))) (mvT hZ (hw _ (List.mem_of_getElem? (i := 68) rfl))) (by decide) (backOf (W := 0) (rmS_0 l Z a0 hw [] b13 (0 : Int32) (T17.heap) n0 (Nat.le_trans Z0 K17.1) ) hZ (hw _ (List.mem_of_getElem? (i := 70) rfl)) (hw _ (List.mem_of_getElem? (i := 5) rfl)) (by decide) (by decide)) q20a q20c (g := (mkF m 218 #[.val (.int p1), .val (.int p2), .val (.int p3), .val (.int p4), .val (.int p5), .val (.int p6), .val (.int i1), .val (.int i2), .val (.int (1 : Int32)), .val (.int (0 : Int32)), .val (.ref b13), .val (.long (0 : Int64)), .second, .val (.long (i1.toInt64)), .second, .val (.long len), .second, .val (.long (0 : Int64)), .second, .val (.int (0 : Int32)), .val (.int (0 : Int32))] [(.int (0 : Int32)), (.int (0 : Int32)), (.ref b13)])) rfl (by rw [hml]; rfl) (Steps.refl _) (argsL := [(.int (0 : Int32)), (.int (0 : Int32))]) (rest := []) (lenOf pd__II_Z rfl) rfl (by show 2 * 0 + _ ≤ _; exact Nat.le_of_eq rfl) (hb hby at_218) (fun _ _ => ⟨rfl, rfl, (by decide : 5 + 0 ≤ _), (by decide : 13 + 0 ≤ _)⟩)
        dsimp only [Pt.U, Pt.locs, Pt.cells, Pt.slots] at X20 l20 y20 z20 st20 hQ20
        subst l20 y20 z20
        obtain ⟨rfl, N20q, e20⟩ := hQ20
        have N20 := Fr.app N17 N20q
        refine OwnR.of (fun _ hr => st20.trans hr) ?_
        show OwnR _ _ _ _ _ _ _ (T20.setTop (mkF m 221 #[.val (.int p1), .val (.int p2), .val (.int p3), .val (.int p4), .val (.int p5), .val (.int p6), .val (.int i1), .val (.int i2), .val (.int (1 : Int32)), .val (.int (0 : Int32)), .val (.ref b13), .val (.long (0 : Int64)), .second, .val (.long (i1.toInt64)), .second, .val (.long len), .second, .val (.long (0 : Int64)), .second, .val (.int (0 : Int32)), .val (.int (0 : Int32))] [(.int (0 : Int32))]))
        refine OwnR.of (fun _ hr => XS.iload X20.here hx rfl (hb hby at_221) rfl hr) ?_
        show OwnR _ _ _ _ _ _ _ (T20.setTop (mkF m 223 #[.val (.int p1), .val (.int p2), .val (.int p3), .val (.int p4), .val (.int p5), .val (.int p6), .val (.int i1), .val (.int i2), .val (.int (1 : Int32)), .val (.int (0 : Int32)), .val (.ref b13), .val (.long (0 : Int64)), .second, .val (.long (i1.toInt64)), .second, .val (.long len), .second, .val (.long (0 : Int64)), .second, .val (.int (0 : Int32)), .val (.int (0 : Int32))] [(.int (0 : Int32)), (.int (0 : Int32))]))
        refine OwnR.of (fun _ hr => XS.icmpNo X20.here hx rfl (hb hby at_223) rfl (teq (by decide : (0 : Int32) = (0 : Int32))).2 hr) ?_
        show OwnR _ _ _ _ _ _ _ (T20.setTop (mkF m 226 #[.val (.int p1), .val (.int p2), .val (.int p3), .val (.int p4), .val (.int p5), .val (.int p6), .val (.int i1), .val (.int i2), .val (.int (1 : Int32)), .val (.int (0 : Int32)), .val (.ref b13), .val (.long (0 : Int64)), .second, .val (.long (i1.toInt64)), .second, .val (.long len), .second, .val (.long (0 : Int64)), .second, .val (.int (0 : Int32)), .val (.int (0 : Int32))] []))
        refine OwnR.of (fun _ hr => XS.iconst X20.here hx rfl (hb hby at_226) hr) ?_
        show OwnR _ _ _ _ _ _ _ (T20.setTop (mkF m 227 #[.val (.int p1), .val (.int p2), .val (.int p3), .val (.int p4), .val (.int p5), .val (.int p6), .val (.int i1), .val (.int i2), .val (.int (1 : Int32)), .val (.int (0 : Int32)), .val (.ref b13), .val (.long (0 : Int64)), .second, .val (.long (i1.toInt64)), .second, .val (.long len), .second, .val (.long (0 : Int64)), .second, .val (.int (0 : Int32)), .val (.int (0 : Int32))] [(.int (1 : Int32))]))
        refine OwnR.of (fun _ hr => XS.goto X20.here hx rfl (pc0 := 227) (pc' := 231) rfl (hb hby at_227) (by decide) (by decide) hr) ?_
        show OwnR _ _ _ _ _ _ _ (T20.setTop (mkF m 231 #[.val (.int p1), .val (.int p2), .val (.int p3), .val (.int p4), .val (.int p5), .val (.int p6), .val (.int i1), .val (.int i2), .val (.int (1 : Int32)), .val (.int (0 : Int32)), .val (.ref b13), .val (.long (0 : Int64)), .second, .val (.long (i1.toInt64)), .second, .val (.long len), .second, .val (.long (0 : Int64)), .second, .val (.int (0 : Int32)), .val (.int (0 : Int32))] [(.int (1 : Int32))]))
        refine own_leafN X20 hx hlk (t := .boolean) Bd.returns (by simp) (hb hby at_231) (z' := (1 : Int32)) rfl (by decide) (by decide) ?_
        show Q0 Z  h0 n0 _ T20.heap _
        rw [show T20.heap = T17.heap from e20]
        refine ⟨?_, N20⟩
        show (some (.int (1 : Int32)) : Option Value) = some (.int (1 : Int32))
        rfl
    · skip
      show OwnR _ _ _ _ _ _ _ (s₁.setTop (mkF m 38 #[.val (.int p1), .val (.int p2), .val (.int p3), .val (.int p4), .val (.int p5), .val (.int p6), .val (.int i1), .val (.int i2), .val (.int (1 : Int32)), .val (.int (1 : Int32)), .unset, .unset, .unset, .unset, .unset, .unset, .unset, .unset, .unset, .unset, .unset] []))
      obtain ⟨T21, h21, X21, e21, E21, A21, D21, -, st21⟩ := newO X0 hx hZ hown (hw _ (List.mem_of_getElem? (i := 3) rfl)) (hw _ (List.mem_of_getElem? (i := 4) rfl)) (hw _ (List.mem_of_getElem? (i := 5) rfl)) e0 (g := (mkF m 38 #[.val (.int p1), .val (.int p2), .val (.int p3), .val (.int p4), .val (.int p5), .val (.int p6), .val (.int i1), .val (.int i2), .val (.int (1 : Int32)), .val (.int (1 : Int32)), .unset, .unset, .unset, .unset, .unset, .unset, .unset, .unset, .unset, .unset, .unset] [])) rfl (hb hby at_38) (by decide) (by decide)
      obtain ⟨b21, g21⟩ : ∃ z, z = h0.size := ⟨_, rfl⟩
      rw [← g21] at A21 D21 st21
      refine OwnR.of (st21) ?_
      have gn_b21 : n0 ≤ b21 := Nat.le_trans (Nat.le_trans Z0 (Keep.refl h0 []).1) (Nat.le_of_eq g21.symm)
      have sz_b21 : h0.size ≤ b21 := Nat.le_trans (Keep.refl h0 []).1 (Nat.le_of_eq g21.symm)
      have K21 : Keep h0 h21 [] := Keep.ext (Keep.refl h0 []) E21
      have F_pageLength_b21 : Fld Z h21 b21 "com/example/tercet/tercet/core/Pages" "pageLength" "I" (.int (0 : Int32)) := D21 (Or.inr (hw _ (List.mem_of_getElem? (i := 20) rfl))) (ty := .int) (by decide)
      have F_limit_b21 : Fld Z h21 b21 "com/example/tercet/tercet/core/Pages" "limit" "I" (.int (0 : Int32)) := D21 (Or.inl (hw _ (List.mem_of_getElem? (i := 22) rfl))) (ty := .int) (by decide)
      have F_last_b21 : Fld Z h21 b21 "com/example/tercet/tercet/core/Pages" "last" "Ljava/lang/Object;" .null := D21 (Or.inl (hw _ (List.mem_of_getElem? (i := 24) rfl))) (ty := (.object "java/lang/Object")) (by decide)
      have F_pages_b21 : Fld Z h21 b21 "com/example/tercet/tercet/core/Pages" "pages" "[Ljava/lang/Object;" .null := D21 (Or.inl (hw _ (List.mem_of_getElem? (i := 29) rfl))) (ty := (.array (.object "java/lang/Object"))) (by decide)
      have F_firsts_b21 : Fld Z h21 b21 "com/example/tercet/tercet/core/Pages" "firsts" "[I" .null := D21 (Or.inl (hw _ (List.mem_of_getElem? (i := 32) rfl))) (ty := (.array .int)) (by decide)
      have F_count_b21 : Fld Z h21 b21 "com/example/tercet/tercet/core/Pages" "count" "I" (.int (0 : Int32)) := D21 (Or.inl (hw _ (List.mem_of_getElem? (i := 34) rfl))) (ty := .int) (by decide)
      show OwnR _ _ _ _ _ _ _ (T21.setTop (mkF m 41 #[.val (.int p1), .val (.int p2), .val (.int p3), .val (.int p4), .val (.int p5), .val (.int p6), .val (.int i1), .val (.int i2), .val (.int (1 : Int32)), .val (.int (1 : Int32)), .unset, .unset, .unset, .unset, .unset, .unset, .unset, .unset, .unset, .unset, .unset] [(.ref b21)]))
      refine OwnR.of (fun _ hr => XS.dup X21.here hx rfl (hb hby at_41) rfl rfl hr) ?_
      show OwnR _ _ _ _ _ _ _ (T21.setTop (mkF m 42 #[.val (.int p1), .val (.int p2), .val (.int p3), .val (.int p4), .val (.int p5), .val (.int p6), .val (.int i1), .val (.int i2), .val (.int (1 : Int32)), .val (.int (1 : Int32)), .unset, .unset, .unset, .unset, .unset, .unset, .unset, .unset, .unset, .unset, .unset] [(.ref b21), (.ref b21)]))
      refine OwnR.of (fun _ hr => XS.iconst X21.here hx rfl (hb hby at_42) hr) ?_
      show OwnR _ _ _ _ _ _ _ (T21.setTop (mkF m 43 #[.val (.int p1), .val (.int p2), .val (.int p3), .val (.int p4), .val (.int p5), .val (.int p6), .val (.int i1), .val (.int i2), .val (.int (1 : Int32)), .val (.int (1 : Int32)), .unset, .unset, .unset, .unset, .unset, .unset, .unset, .unset, .unset, .unset, .unset] [(.int (0 : Int32)), (.ref b21), (.ref b21)]))
      obtain ⟨_, _, ⟨T22, L22, kc22, ns22⟩, -, X22, ⟨Lc22, hQ22, l22, y22, z22⟩, st22⟩ := Jvm.LawKit.callS X21 hx (y := (⟨"java/lang/Integer", "valueOf", "(I)Ljava/lang/Integer;"⟩ : MethodName)) hown (mvT hZ (hw _ (List.mem_of_getElem? (i := 6) rfl))) (mvT hZ (hw _ (List.mem_of_getElem? (i := 7) rfl))) (mvT hZ (hw _ (List.mem_of_getElem? (i := 8) rfl))) (mvT hZ (hw _ (List.mem_of_getElem? (i := 9) rfl))) (by decide) (backOf (W := 2) (rmV_0 l Z a0 hw [] sc cc iv0 iv1 iv2 h21 n0 (Nat.le_trans Z0 K21.1) (own_sta S_high K21) (own_sta S_cache K21) (own_arr Ar_sc K21 nin0) hin0 hin1 hin2 hat0 hat1 hat2) hZ (hw _ (List.mem_of_getElem? (i := 9) rfl)) (hw _ (List.mem_of_getElem? (i := 8) rfl)) (by decide) (by decide)) (g := (mkF m 43 #[.val (.int p1), .val (.int p2), .val (.int p3), .val (.int p4), .val (.int p5), .val (.int p6), .val (.int i1), .val (.int i2), .val (.int (1 : Int32)), .val (.int (1 : Int32)), .unset, .unset, .unset, .unset, .unset, .unset, .unset, .unset, .unset, .unset, .unset] [(.int (0 : Int32)), (.ref b21), (.ref b21)])) rfl (by rw [hml]; rfl) (argsL := [(.int (0 : Int32))]) (rest := [(.ref b21), (.ref b21)]) (lenOf pd__I_Ljava_lang_Integer_ rfl) rfl (by show 2 * 0 + _ ≤ _; exact Nat.le_of_eq rfl) (hb hby at_43) (fun _ _ => ⟨rfl, e21, (by decide : 1 + 0 ≤ _), (by decide : 7 + 0 ≤ _)⟩)
      dsimp only [Pt.U, Pt.locs, Pt.cells, Pt.slots] at X22 l22 y22 z22 st22 hQ22
      subst l22 y22 z22
      obtain ⟨rfl, N22q, e22⟩ := hQ22
      have N22 := Fr.app N0 N22q
      refine OwnR.of (st22) ?_
      show OwnR _ _ _ _ _ _ _ (T22.setTop (mkF m 46 #[.val (.int p1), .val (.int p2), .val (.int p3), .val (.int p4), .val (.int p5), .val (.int p6), .val (.int i1), .val (.int i2), .val (.int (1 : Int32)), .val (.int (1 : Int32)), .unset, .unset, .unset, .unset, .unset, .unset, .unset, .unset, .unset, .unset, .unset] [(.ref iv0), (.ref b21), (.ref b21)]))
      refine OwnR.of (fun _ hr => XS.iconst X22.here hx rfl (hb hby at_46) hr) ?_
      show OwnR _ _ _ _ _ _ _ (T22.setTop (mkF m 47 #[.val (.int p1), .val (.int p2), .val (.int p3), .val (.int p4), .val (.int p5), .val (.int p6), .val (.int i1), .val (.int i2), .val (.int (1 : Int32)), .val (.int (1 : Int32)), .unset, .unset, .unset, .unset, .unset, .unset, .unset, .unset, .unset, .unset, .unset] [(.int (4 : Int32)), (.ref iv0), (.ref b21), (.ref b21)]))
      refine OwnR.of (fun _ hr => XS.iconst X22.here hx rfl (hb hby at_47) hr) ?_
      show OwnR _ _ _ _ _ _ _ (T22.setTop (mkF m 48 #[.val (.int p1), .val (.int p2), .val (.int p3), .val (.int p4), .val (.int p5), .val (.int p6), .val (.int i1), .val (.int i2), .val (.int (1 : Int32)), .val (.int (1 : Int32)), .unset, .unset, .unset, .unset, .unset, .unset, .unset, .unset, .unset, .unset, .unset] [(.int (2 : Int32)), (.int (4 : Int32)), (.ref iv0), (.ref b21), (.ref b21)]))
      obtain ⟨_, _, ⟨T23, L23, kc23, ns23⟩, -, X23, ⟨Lc23, hQ23, l23, y23, z23⟩, st23⟩ := X22.specialBack hx (y := (⟨"com/example/tercet/tercet/core/Pages", "<init>", "(Ljava/lang/Object;II)V"⟩ : MethodName)) rfl hown (mvT hZ (hw _ (List.mem_of_getElem? (i := 13) rfl))) (mvT hZ (hw _ (List.mem_of_getElem? (i := 14) rfl))) (mvT hZ (hw _ (List.mem_of_getElem? (i := 15) rfl))) (by decide) (backOf (W := 1) (rmI l Z a0 hw [] b21 iv0 (4 : Int32) (2 : Int32) h21 n0 (Nat.le_trans Z0 K21.1) A21 F_pageLength_b21 F_limit_b21 F_last_b21 F_pages_b21 F_firsts_b21 F_count_b21 (Exa.keep E_iv0 K21) gn_b21) hZ (hw _ (List.mem_of_getElem? (i := 15) rfl)) (hw _ (List.mem_of_getElem? (i := 5) rfl)) (by decide) (by decide)) (g := (mkF m 48 #[.val (.int p1), .val (.int p2), .val (.int p3), .val (.int p4), .val (.int p5), .val (.int p6), .val (.int i1), .val (.int i2), .val (.int (1 : Int32)), .val (.int (1 : Int32)), .unset, .unset, .unset, .unset, .unset, .unset, .unset, .unset, .unset, .unset, .unset] [(.int (2 : Int32)), (.int (4 : Int32)), (.ref iv0), (.ref b21), (.ref b21)])) rfl (by rw [hml]; rfl) (Steps.refl _) (a := b21) (argsL := [(.ref iv0), (.int (4 : Int32)), (.int (2 : Int32))]) (rest := [(.ref b21)]) (lenOf pd__Ljava_lang_Object_II_V rfl) rfl (by show 2 * 0 + _ ≤ _; exact Nat.le_of_eq rfl) (hb hby at_48) (fun _ _ => ⟨rfl, e22, (by decide : 1 + 2 ≤ _), (by decide : 7 + 2 ≤ _)⟩)
      dsimp only [Pt.U, Pt.locs, Pt.cells, Pt.slots] at X23 l23 y23 z23 st23 hQ23
      subst l23 y23 z23
      obtain ⟨b_23, kb_23, c_23, kc_23, rfl, N23q, P23_0, P23_1, P23_2, P23_3, P23_4, P23_5, P23_6, P23_7, P23_8, P23_9, P23_10, P23_11, P23_12, P23_13, P23_14⟩ := hQ23
      have K23 : Keep h0 T23.heap [] := Keep.trans K21 P23_0 (allS (Or.inr sz_b21) all0)
      have sz_b_23 : h0.size ≤ b_23 := Nat.le_trans K21.1 P23_11
      have sz_c_23 : h0.size ≤ c_23 := Nat.le_trans K21.1 P23_13
      have N23 := Fr.app N22 N23q
      refine OwnR.of (fun _ hr => st23.trans hr) ?_
      show OwnR _ _ _ _ _ _ _ (T23.setTop (mkF m 51 #[.val (.int p1), .val (.int p2), .val (.int p3), .val (.int p4), .val (.int p5), .val (.int p6), .val (.int i1), .val (.int i2), .val (.int (1 : Int32)), .val (.int (1 : Int32)), .unset, .unset, .unset, .unset, .unset, .unset, .unset, .unset, .unset, .unset, .unset] [(.ref b21)]))
      refine OwnR.of (fun _ hr => XS.astore X23.here hx rfl (hb hby at_51) rfl rfl (l' := #[.val (.int p1), .val (.int p2), .val (.int p3), .val (.int p4), .val (.int p5), .val (.int p6), .val (.int i1), .val (.int i2), .val (.int (1 : Int32)), .val (.int (1 : Int32)), .val (.ref b21), .unset, .unset, .unset, .unset, .unset, .unset, .unset, .unset, .unset, .unset]) rfl hr) ?_
      show OwnR _ _ _ _ _ _ _ (T23.setTop (mkF m 53 #[.val (.int p1), .val (.int p2), .val (.int p3), .val (.int p4), .val (.int p5), .val (.int p6), .val (.int i1), .val (.int i2), .val (.int (1 : Int32)), .val (.int (1 : Int32)), .val (.ref b21), .unset, .unset, .unset, .unset, .unset, .unset, .unset, .unset, .unset, .unset] []))
      refine OwnR.of (fun _ hr => XS.iload X23.here hx rfl (hb hby at_53) rfl hr) ?_
      show OwnR _ _ _ _ _ _ _ (T23.setTop (mkF m 55 #[.val (.int p1), .val (.int p2), .val (.int p3), .val (.int p4), .val (.int p5), .val (.int p6), .val (.int i1), .val (.int i2), .val (.int (1 : Int32)), .val (.int (1 : Int32)), .val (.ref b21), .unset, .unset, .unset, .unset, .unset, .unset, .unset, .unset, .unset, .unset] [(.int (1 : Int32))]))
      refine OwnR.of (fun _ hr => XS.iconst X23.here hx rfl (hb hby at_55) hr) ?_
      show OwnR _ _ _ _ _ _ _ (T23.setTop (mkF m 56 #[.val (.int p1), .val (.int p2), .val (.int p3), .val (.int p4), .val (.int p5), .val (.int p6), .val (.int i1), .val (.int i2), .val (.int (1 : Int32)), .val (.int (1 : Int32)), .val (.ref b21), .unset, .unset, .unset, .unset, .unset, .unset, .unset, .unset, .unset, .unset] [(.int (1 : Int32)), (.int (1 : Int32))]))
      refine OwnR.of (fun _ hr => XS.icmpNo X23.here hx rfl (hb hby at_56) rfl (flt (by decide : ¬ ((1 : Int32) < (1 : Int32)))).1 hr) ?_
      show OwnR _ _ _ _ _ _ _ (T23.setTop (mkF m 59 #[.val (.int p1), .val (.int p2), .val (.int p3), .val (.int p4), .val (.int p5), .val (.int p6), .val (.int i1), .val (.int i2), .val (.int (1 : Int32)), .val (.int (1 : Int32)), .val (.ref b21), .unset, .unset, .unset, .unset, .unset, .unset, .unset, .unset, .unset, .unset] []))
      refine OwnR.of (fun _ hr => XS.aload X23.here hx rfl (hb hby at_59) rfl rfl hr) ?_
      show OwnR _ _ _ _ _ _ _ (T23.setTop (mkF m 61 #[.val (.int p1), .val (.int p2), .val (.int p3), .val (.int p4), .val (.int p5), .val (.int p6), .val (.int i1), .val (.int i2), .val (.int (1 : Int32)), .val (.int (1 : Int32)), .val (.ref b21), .unset, .unset, .unset, .unset, .unset, .unset, .unset, .unset, .unset, .unset] [(.ref b21)]))
      refine OwnR.of (fun _ hr => XS.iload X23.here hx rfl (hb hby at_61) rfl hr) ?_
      show OwnR _ _ _ _ _ _ _ (T23.setTop (mkF m 63 #[.val (.int p1), .val (.int p2), .val (.int p3), .val (.int p4), .val (.int p5), .val (.int p6), .val (.int i1), .val (.int i2), .val (.int (1 : Int32)), .val (.int (1 : Int32)), .val (.ref b21), .unset, .unset, .unset, .unset, .unset, .unset, .unset, .unset, .unset, .unset] [(.int i1), (.ref b21)]))
      refine OwnR.of (fun _ hr => XS.iconst X23.here hx rfl (hb hby at_63) hr) ?_
      show OwnR _ _ _ _ _ _ _ (T23.setTop (mkF m 64 #[.val (.int p1), .val (.int p2), .val (.int p3), .val (.int p4), .val (.int p5), .val (.int p6), .val (.int i1), .val (.int i2), .val (.int (1 : Int32)), .val (.int (1 : Int32)), .val (.ref b21), .unset, .unset, .unset, .unset, .unset, .unset, .unset, .unset, .unset, .unset] [(.int (1 : Int32)), (.int i1), (.ref b21)]))
      obtain ⟨_, _, ⟨T24, L24, kc24, ns24⟩, -, X24, ⟨Lc24, hQ24, l24, y24, z24⟩, st24⟩ := Jvm.LawKit.callS X23 hx (y := (⟨"java/lang/Integer", "valueOf", "(I)Ljava/lang/Integer;"⟩ : MethodName)) hown (mvT hZ (hw _ (List.mem_of_getElem? (i := 6) rfl))) (mvT hZ (hw _ (List.mem_of_getElem? (i := 7) rfl))) (mvT hZ (hw _ (List.mem_of_getElem? (i := 8) rfl))) (mvT hZ (hw _ (List.mem_of_getElem? (i := 9) rfl))) (by decide) (backOf (W := 2) (rmV_1 l Z a0 hw [] sc cc iv0 iv1 iv2 (T23.heap) n0 (Nat.le_trans Z0 K23.1) (own_sta S_high K23) (own_sta S_cache K23) (own_arr Ar_sc K23 nin0) hin0 hin1 hin2 hat0 hat1 hat2) hZ (hw _ (List.mem_of_getElem? (i := 9) rfl)) (hw _ (List.mem_of_getElem? (i := 8) rfl)) (by decide) (by decide)) (g := (mkF m 64 #[.val (.int p1), .val (.int p2), .val (.int p3), .val (.int p4), .val (.int p5), .val (.int p6), .val (.int i1), .val (.int i2), .val (.int (1 : Int32)), .val (.int (1 : Int32)), .val (.ref b21), .unset, .unset, .unset, .unset, .unset, .unset, .unset, .unset, .unset, .unset] [(.int (1 : Int32)), (.int i1), (.ref b21)])) rfl (by rw [hml]; rfl) (argsL := [(.int (1 : Int32))]) (rest := [(.int i1), (.ref b21)]) (lenOf pd__I_Ljava_lang_Integer_ rfl) rfl (by show 2 * 0 + _ ≤ _; exact Nat.le_of_eq rfl) (hb hby at_64) (fun _ _ => ⟨rfl, rfl, (by decide : 3 + 0 ≤ _), (by decide : 9 + 0 ≤ _)⟩)
      dsimp only [Pt.U, Pt.locs, Pt.cells, Pt.slots] at X24 l24 y24 z24 st24 hQ24
      subst l24 y24 z24
      obtain ⟨rfl, N24q, e24⟩ := hQ24
      have N24 := Fr.app N23 N24q
      refine OwnR.of (st24) ?_
      show OwnR _ _ _ _ _ _ _ (T24.setTop (mkF m 67 #[.val (.int p1), .val (.int p2), .val (.int p3), .val (.int p4), .val (.int p5), .val (.int p6), .val (.int i1), .val (.int i2), .val (.int (1 : Int32)), .val (.int (1 : Int32)), .val (.ref b21), .unset, .unset, .unset, .unset, .unset, .unset, .unset, .unset, .unset, .unset] [(.ref iv1), (.int i1), (.ref b21)]))
      obtain ⟨cq25, kq25, q25a, q25b, q25c⟩ := isOf hZ e24 P23_1
      obtain ⟨_, _, ⟨T25, L25, kc25, ns25⟩, -, X25, ⟨Lc25, hQ25, l25, y25, z25⟩, st25⟩ := X24.virtualBack hx (y := (⟨"com/example/tercet/tercet/core/Pages", "turn", "(ILjava/lang/Object;)V"⟩ : MethodName)) (z := (⟨"com/example/tercet/tercet/core/Pages", "turn", "(ILjava/lang/Object;)V"⟩ : MethodName)) hown (mvT hZ (hw _ (List.mem_of_getElem? (i := 35) rfl))) (mvT hZ (hw _ (List.mem_of_getElem? (i := 36) rfl))) (notFace_of_selects (args := #[]) (mvT hZ (hw _ (List.mem_of_getElem? (i := 38) rfl)))) (mvT hZ (hw _ (List.mem_of_getElem? (i := 38) rfl))) (mvT hZ (hw _ (List.mem_of_getElem? (i := 37) rfl))) (by decide) (backOf (W := 0) (rmT_1 l Z a0 hw [] b21 i1 iv1 (2 : Int32) (4 : Int32) iv0 b_23 c_23 kb_23 kc_23 iv0 (0 : Int32) mo (T23.heap) n0 (Nat.le_trans Z0 K23.1) P23_1 P23_2 P23_3 P23_4 P23_5 P23_6 P23_7 P23_8 P23_10 P23_9 (Exa.keep E_iv1 K23) (Exa.keep E_iv0 K23) M_mo gn_b21 (Nat.ne_of_lt (Nat.lt_of_lt_of_le A21.lt P23_11)) (Nat.ne_of_lt (Nat.lt_of_lt_of_le A21.lt P23_13))) hZ (hw _ (List.mem_of_getElem? (i := 39) rfl)) (hw _ (List.mem_of_getElem? (i := 5) rfl)) (by decide) (by decide)) q25a q25c (g := (mkF m 67 #[.val (.int p1), .val (.int p2), .val (.int p3), .val (.int p4), .val (.int p5), .val (.int p6), .val (.int i1), .val (.int i2), .val (.int (1 : Int32)), .val (.int (1 : Int32)), .val (.ref b21), .unset, .unset, .unset, .unset, .unset, .unset, .unset, .unset, .unset, .unset] [(.ref iv1), (.int i1), (.ref b21)])) rfl (by rw [hml]; rfl) (Steps.refl _) (argsL := [(.int i1), (.ref iv1)]) (rest := []) (lenOf pd__ILjava_lang_Object__V rfl) rfl (by show 2 * 0 + _ ≤ _; exact Nat.le_of_eq rfl) (hb hby at_67) (fun _ _ => ⟨rfl, e24, (by decide : 3 + 2 ≤ _), (by decide : 9 + 4 ≤ _)⟩)
      dsimp only [Pt.U, Pt.locs, Pt.cells, Pt.slots] at X25 l25 y25 z25 st25 hQ25
      subst l25 y25 z25
      obtain ⟨b_25, kb_25, c_25, kc_25, rfl, N25q, P25_0, P25_1, P25_2, P25_3, P25_4, P25_5, P25_6, P25_7, P25_8, P25_9, P25_10, P25_11, P25_12, P25_13, P25_14, P25_15⟩ := hQ25
      have K25 : Keep h0 T25.heap [] := Keep.trans K23 P25_0 (allS (Or.inr sz_b21) all0)
      have sz_b_25 : h0.size ≤ b_25 := Nat.le_trans K23.1 P25_12
      have sz_c_25 : h0.size ≤ c_25 := Nat.le_trans K23.1 P25_14
      have N25 := Fr.app N24 N25q
      refine OwnR.of (fun _ hr => st25.trans hr) ?_
      show OwnR _ _ _ _ _ _ _ (T25.setTop (mkF m 70 #[.val (.int p1), .val (.int p2), .val (.int p3), .val (.int p4), .val (.int p5), .val (.int p6), .val (.int i1), .val (.int i2), .val (.int (1 : Int32)), .val (.int (1 : Int32)), .val (.ref b21), .unset, .unset, .unset, .unset, .unset, .unset, .unset, .unset, .unset, .unset] []))
      refine OwnR.of (fun _ hr => XS.iload X25.here hx rfl (hb hby at_70) rfl hr) ?_
      show OwnR _ _ _ _ _ _ _ (T25.setTop (mkF m 72 #[.val (.int p1), .val (.int p2), .val (.int p3), .val (.int p4), .val (.int p5), .val (.int p6), .val (.int i1), .val (.int i2), .val (.int (1 : Int32)), .val (.int (1 : Int32)), .val (.ref b21), .unset, .unset, .unset, .unset, .unset, .unset, .unset, .unset, .unset, .unset] [(.int (1 : Int32))]))
      refine OwnR.of (fun _ hr => XS.iconst X25.here hx rfl (hb hby at_72) hr) ?_
      show OwnR _ _ _ _ _ _ _ (T25.setTop (mkF m 73 #[.val (.int p1), .val (.int p2), .val (.int p3), .val (.int p4), .val (.int p5), .val (.int p6), .val (.int i1), .val (.int i2), .val (.int (1 : Int32)), .val (.int (1 : Int32)), .val (.ref b21), .unset, .unset, .unset, .unset, .unset, .unset, .unset, .unset, .unset, .unset] [(.int (2 : Int32)), (.int (1 : Int32))]))
      refine OwnR.of (fun _ hr => XS.icmpYes X25.here hx rfl (pc0 := 73) (pc' := 87) rfl (hb hby at_73) rfl (tlt (by decide : (1 : Int32) < (2 : Int32))).1 (by decide) (by decide) hr) ?_
      show OwnR _ _ _ _ _ _ _ (T25.setTop (mkF m 87 #[.val (.int p1), .val (.int p2), .val (.int p3), .val (.int p4), .val (.int p5), .val (.int p6), .val (.int i1), .val (.int i2), .val (.int (1 : Int32)), .val (.int (1 : Int32)), .val (.ref b21), .unset, .unset, .unset, .unset, .unset, .unset, .unset, .unset, .unset, .unset] []))
      refine OwnR.of (fun _ hr => XS.iload X25.here hx rfl (hb hby at_87) rfl hr) ?_
      show OwnR _ _ _ _ _ _ _ (T25.setTop (mkF m 89 #[.val (.int p1), .val (.int p2), .val (.int p3), .val (.int p4), .val (.int p5), .val (.int p6), .val (.int i1), .val (.int i2), .val (.int (1 : Int32)), .val (.int (1 : Int32)), .val (.ref b21), .unset, .unset, .unset, .unset, .unset, .unset, .unset, .unset, .unset, .unset] [(.int (1 : Int32))]))
      refine OwnR.of (fun _ hr => XS.ifYes X25.here hx rfl (pc0 := 89) (pc' := 115) rfl (hb hby at_89) rfl ((if0 _ _).trans (feq (by decide : ¬ ((1 : Int32) = (0 : Int32)))).2) (by decide) (by decide) hr) ?_
      show OwnR _ _ _ _ _ _ _ (T25.setTop (mkF m 115 #[.val (.int p1), .val (.int p2), .val (.int p3), .val (.int p4), .val (.int p5), .val (.int p6), .val (.int i1), .val (.int i2), .val (.int (1 : Int32)), .val (.int (1 : Int32)), .val (.ref b21), .unset, .unset, .unset, .unset, .unset, .unset, .unset, .unset, .unset, .unset] []))
      refine OwnR.of (fun _ hr => XS.iload X25.here hx rfl (hb hby at_115) rfl hr) ?_
      show OwnR _ _ _ _ _ _ _ (T25.setTop (mkF m 117 #[.val (.int p1), .val (.int p2), .val (.int p3), .val (.int p4), .val (.int p5), .val (.int p6), .val (.int i1), .val (.int i2), .val (.int (1 : Int32)), .val (.int (1 : Int32)), .val (.ref b21), .unset, .unset, .unset, .unset, .unset, .unset, .unset, .unset, .unset, .unset] [(.int (1 : Int32))]))
      refine OwnR.of (fun _ hr => XS.iconst X25.here hx rfl (hb hby at_117) hr) ?_
      show OwnR _ _ _ _ _ _ _ (T25.setTop (mkF m 118 #[.val (.int p1), .val (.int p2), .val (.int p3), .val (.int p4), .val (.int p5), .val (.int p6), .val (.int i1), .val (.int i2), .val (.int (1 : Int32)), .val (.int (1 : Int32)), .val (.ref b21), .unset, .unset, .unset, .unset, .unset, .unset, .unset, .unset, .unset, .unset] [(.int (1 : Int32)), (.int (1 : Int32))]))
      refine OwnR.of (fun _ hr => XS.icmpNo X25.here hx rfl (hb hby at_118) rfl (teq (by decide : (1 : Int32) = (1 : Int32))).2 hr) ?_
      show OwnR _ _ _ _ _ _ _ (T25.setTop (mkF m 121 #[.val (.int p1), .val (.int p2), .val (.int p3), .val (.int p4), .val (.int p5), .val (.int p6), .val (.int i1), .val (.int i2), .val (.int (1 : Int32)), .val (.int (1 : Int32)), .val (.ref b21), .unset, .unset, .unset, .unset, .unset, .unset, .unset, .unset, .unset, .unset] []))
      refine OwnR.of (fun _ hr => XS.iload X25.here hx rfl (hb hby at_121) rfl hr) ?_
      show OwnR _ _ _ _ _ _ _ (T25.setTop (mkF m 123 #[.val (.int p1), .val (.int p2), .val (.int p3), .val (.int p4), .val (.int p5), .val (.int p6), .val (.int i1), .val (.int i2), .val (.int (1 : Int32)), .val (.int (1 : Int32)), .val (.ref b21), .unset, .unset, .unset, .unset, .unset, .unset, .unset, .unset, .unset, .unset] [(.int i1)]))
      refine OwnR.of (fun _ hr => XS.i2l X25.here hx rfl (hb hby at_123) rfl hr) ?_
      show OwnR _ _ _ _ _ _ _ (T25.setTop (mkF m 124 #[.val (.int p1), .val (.int p2), .val (.int p3), .val (.int p4), .val (.int p5), .val (.int p6), .val (.int i1), .val (.int i2), .val (.int (1 : Int32)), .val (.int (1 : Int32)), .val (.ref b21), .unset, .unset, .unset, .unset, .unset, .unset, .unset, .unset, .unset, .unset] [(.long (i1.toInt64))]))
      refine OwnR.of (fun _ hr => XS.lstore X25.here hx rfl (hb hby at_124) rfl (l' := #[.val (.int p1), .val (.int p2), .val (.int p3), .val (.int p4), .val (.int p5), .val (.int p6), .val (.int i1), .val (.int i2), .val (.int (1 : Int32)), .val (.int (1 : Int32)), .val (.ref b21), .val (.long (i1.toInt64)), .second, .unset, .unset, .unset, .unset, .unset, .unset, .unset, .unset]) rfl hr) ?_
      show OwnR _ _ _ _ _ _ _ (T25.setTop (mkF m 126 #[.val (.int p1), .val (.int p2), .val (.int p3), .val (.int p4), .val (.int p5), .val (.int p6), .val (.int i1), .val (.int i2), .val (.int (1 : Int32)), .val (.int (1 : Int32)), .val (.ref b21), .val (.long (i1.toInt64)), .second, .unset, .unset, .unset, .unset, .unset, .unset, .unset, .unset] []))
      refine OwnR.of (fun _ hr => XS.iload X25.here hx rfl (hb hby at_126) rfl hr) ?_
      show OwnR _ _ _ _ _ _ _ (T25.setTop (mkF m 128 #[.val (.int p1), .val (.int p2), .val (.int p3), .val (.int p4), .val (.int p5), .val (.int p6), .val (.int i1), .val (.int i2), .val (.int (1 : Int32)), .val (.int (1 : Int32)), .val (.ref b21), .val (.long (i1.toInt64)), .second, .unset, .unset, .unset, .unset, .unset, .unset, .unset, .unset] [(.int (1 : Int32))]))
      refine OwnR.of (fun _ hr => XS.iconst X25.here hx rfl (hb hby at_128) hr) ?_
      show OwnR _ _ _ _ _ _ _ (T25.setTop (mkF m 129 #[.val (.int p1), .val (.int p2), .val (.int p3), .val (.int p4), .val (.int p5), .val (.int p6), .val (.int i1), .val (.int i2), .val (.int (1 : Int32)), .val (.int (1 : Int32)), .val (.ref b21), .val (.long (i1.toInt64)), .second, .unset, .unset, .unset, .unset, .unset, .unset, .unset, .unset] [(.int (2 : Int32)), (.int (1 : Int32))]))
      refine OwnR.of (fun _ hr => XS.icmpYes X25.here hx rfl (pc0 := 129) (pc' := 138) rfl (hb hby at_129) rfl (tlt (by decide : (1 : Int32) < (2 : Int32))).1 (by decide) (by decide) hr) ?_
      show OwnR _ _ _ _ _ _ _ (T25.setTop (mkF m 138 #[.val (.int p1), .val (.int p2), .val (.int p3), .val (.int p4), .val (.int p5), .val (.int p6), .val (.int i1), .val (.int i2), .val (.int (1 : Int32)), .val (.int (1 : Int32)), .val (.ref b21), .val (.long (i1.toInt64)), .second, .unset, .unset, .unset, .unset, .unset, .unset, .unset, .unset] []))
      refine OwnR.of (X25.ldc2Long hx hown (mvT hZ (hw _ (List.mem_of_getElem? (i := 71) rfl))) (g := (mkF m 138 #[.val (.int p1), .val (.int p2), .val (.int p3), .val (.int p4), .val (.int p5), .val (.int p6), .val (.int i1), .val (.int i2), .val (.int (1 : Int32)), .val (.int (1 : Int32)), .val (.ref b21), .val (.long (i1.toInt64)), .second, .unset, .unset, .unset, .unset, .unset, .unset, .unset, .unset] [])) rfl (hb hby at_138)) ?_
      show OwnR _ _ _ _ _ _ _ (T25.setTop (mkF m 141 #[.val (.int p1), .val (.int p2), .val (.int p3), .val (.int p4), .val (.int p5), .val (.int p6), .val (.int i1), .val (.int i2), .val (.int (1 : Int32)), .val (.int (1 : Int32)), .val (.ref b21), .val (.long (i1.toInt64)), .second, .unset, .unset, .unset, .unset, .unset, .unset, .unset, .unset] [(.long (2147483648 : Int64))]))
      refine OwnR.of (fun _ hr => XS.lstore X25.here hx rfl (hb hby at_141) rfl (l' := #[.val (.int p1), .val (.int p2), .val (.int p3), .val (.int p4), .val (.int p5), .val (.int p6), .val (.int i1), .val (.int i2), .val (.int (1 : Int32)), .val (.int (1 : Int32)), .val (.ref b21), .val (.long (i1.toInt64)), .second, .val (.long (2147483648 : Int64)), .second, .unset, .unset, .unset, .unset, .unset, .unset]) rfl hr) ?_
      show OwnR _ _ _ _ _ _ _ (T25.setTop (mkF m 143 #[.val (.int p1), .val (.int p2), .val (.int p3), .val (.int p4), .val (.int p5), .val (.int p6), .val (.int i1), .val (.int i2), .val (.int (1 : Int32)), .val (.int (1 : Int32)), .val (.ref b21), .val (.long (i1.toInt64)), .second, .val (.long (2147483648 : Int64)), .second, .unset, .unset, .unset, .unset, .unset, .unset] []))
      refine OwnR.of (fun _ hr => XS.goto X25.here hx rfl (pc0 := 143) (pc' := 156) rfl (hb hby at_143) (by decide) (by decide) hr) ?_
      show OwnR _ _ _ _ _ _ _ (T25.setTop (mkF m 156 #[.val (.int p1), .val (.int p2), .val (.int p3), .val (.int p4), .val (.int p5), .val (.int p6), .val (.int i1), .val (.int i2), .val (.int (1 : Int32)), .val (.int (1 : Int32)), .val (.ref b21), .val (.long (i1.toInt64)), .second, .val (.long (2147483648 : Int64)), .second, .unset, .unset, .unset, .unset, .unset, .unset] []))
      refine OwnR.of (fun _ hr => XS.lload X25.here hx rfl (hb hby at_156) rfl hr) ?_
      show OwnR _ _ _ _ _ _ _ (T25.setTop (mkF m 158 #[.val (.int p1), .val (.int p2), .val (.int p3), .val (.int p4), .val (.int p5), .val (.int p6), .val (.int i1), .val (.int i2), .val (.int (1 : Int32)), .val (.int (1 : Int32)), .val (.ref b21), .val (.long (i1.toInt64)), .second, .val (.long (2147483648 : Int64)), .second, .unset, .unset, .unset, .unset, .unset, .unset] [(.long (2147483648 : Int64))]))
      refine OwnR.of (fun _ hr => XS.lload X25.here hx rfl (hb hby at_158) rfl hr) ?_
      show OwnR _ _ _ _ _ _ _ (T25.setTop (mkF m 160 #[.val (.int p1), .val (.int p2), .val (.int p3), .val (.int p4), .val (.int p5), .val (.int p6), .val (.int i1), .val (.int i2), .val (.int (1 : Int32)), .val (.int (1 : Int32)), .val (.ref b21), .val (.long (i1.toInt64)), .second, .val (.long (2147483648 : Int64)), .second, .unset, .unset, .unset, .unset, .unset, .unset] [(.long (i1.toInt64)), (.long (2147483648 : Int64))]))
      refine OwnR.of (fun _ hr => XS.lsub X25.here hx rfl (hb hby at_160) rfl hr) ?_
      show OwnR _ _ _ _ _ _ _ (T25.setTop (mkF m 161 #[.val (.int p1), .val (.int p2), .val (.int p3), .val (.int p4), .val (.int p5), .val (.int p6), .val (.int i1), .val (.int i2), .val (.int (1 : Int32)), .val (.int (1 : Int32)), .val (.ref b21), .val (.long (i1.toInt64)), .second, .val (.long (2147483648 : Int64)), .second, .unset, .unset, .unset, .unset, .unset, .unset] [(.long ((2147483648 : Int64) - (i1.toInt64)))]))
      refine OwnR.of (fun _ hr => XS.lstore X25.here hx rfl (hb hby at_161) rfl (l' := #[.val (.int p1), .val (.int p2), .val (.int p3), .val (.int p4), .val (.int p5), .val (.int p6), .val (.int i1), .val (.int i2), .val (.int (1 : Int32)), .val (.int (1 : Int32)), .val (.ref b21), .val (.long (i1.toInt64)), .second, .val (.long (2147483648 : Int64)), .second, .val (.long ((2147483648 : Int64) - (i1.toInt64))), .second, .unset, .unset, .unset, .unset]) rfl hr) ?_
      show OwnR _ _ _ _ _ _ _ (T25.setTop (mkF m 163 #[.val (.int p1), .val (.int p2), .val (.int p3), .val (.int p4), .val (.int p5), .val (.int p6), .val (.int i1), .val (.int i2), .val (.int (1 : Int32)), .val (.int (1 : Int32)), .val (.ref b21), .val (.long (i1.toInt64)), .second, .val (.long (2147483648 : Int64)), .second, .val (.long ((2147483648 : Int64) - (i1.toInt64))), .second, .unset, .unset, .unset, .unset] []))
      obtain ⟨len, hlen⟩ : ∃ z : Int64, z = ((2147483648 : Int64) - (i1.toInt64)) := ⟨_, rfl⟩
      rw [← hlen]
      show OwnR _ _ _ _ _ _ _ (T25.setTop (mkF m 163 #[.val (.int p1), .val (.int p2), .val (.int p3), .val (.int p4), .val (.int p5), .val (.int p6), .val (.int i1), .val (.int i2), .val (.int (1 : Int32)), .val (.int (1 : Int32)), .val (.ref b21), .val (.long (i1.toInt64)), .second, .val (.long (2147483648 : Int64)), .second, .val (.long len), .second, .unset, .unset, .unset, .unset] []))
      have hl0 : 0 < len.toInt ∧ i1.toInt + len.toInt ≤ 2147483648 := by rw [hlen]; exact own_l1 i1 b1.1
      have hnz182 : ¬ len = (0 : Int64) := own_nz len hl0.1
      refine OwnR.of (fun _ hr => XS.iload X25.here hx rfl (hb hby at_163) rfl hr) ?_
      show OwnR _ _ _ _ _ _ _ (T25.setTop (mkF m 165 #[.val (.int p1), .val (.int p2), .val (.int p3), .val (.int p4), .val (.int p5), .val (.int p6), .val (.int i1), .val (.int i2), .val (.int (1 : Int32)), .val (.int (1 : Int32)), .val (.ref b21), .val (.long (i1.toInt64)), .second, .val (.long (2147483648 : Int64)), .second, .val (.long len), .second, .unset, .unset, .unset, .unset] [(.int p6)]))
      refine OwnR.of (fun _ hr => XS.iconst X25.here hx rfl (hb hby at_165) hr) ?_
      show OwnR _ _ _ _ _ _ _ (T25.setTop (mkF m 166 #[.val (.int p1), .val (.int p2), .val (.int p3), .val (.int p4), .val (.int p5), .val (.int p6), .val (.int i1), .val (.int i2), .val (.int (1 : Int32)), .val (.int (1 : Int32)), .val (.ref b21), .val (.long (i1.toInt64)), .second, .val (.long (2147483648 : Int64)), .second, .val (.long len), .second, .unset, .unset, .unset, .unset] [(.int (1 : Int32)), (.int p6)]))
      refine OwnR.of (fun _ hr => XS.iand X25.here hx rfl (hb hby at_166) rfl hr) ?_
      show OwnR _ _ _ _ _ _ _ (T25.setTop (mkF m 167 #[.val (.int p1), .val (.int p2), .val (.int p3), .val (.int p4), .val (.int p5), .val (.int p6), .val (.int i1), .val (.int i2), .val (.int (1 : Int32)), .val (.int (1 : Int32)), .val (.ref b21), .val (.long (i1.toInt64)), .second, .val (.long (2147483648 : Int64)), .second, .val (.long len), .second, .unset, .unset, .unset, .unset] [(.int (p6 &&& (1 : Int32)))]))
      by_cases hc167_26 : (p6 &&& (1 : Int32)) = (0 : Int32)
      · skip
        refine OwnR.of (fun _ hr => XS.ifYes X25.here hx rfl (pc0 := 167) (pc' := 174) rfl (hb hby at_167) rfl ((if0 _ _).trans (teq hc167_26).1) (by decide) (by decide) hr) ?_
        show OwnR _ _ _ _ _ _ _ (T25.setTop (mkF m 174 #[.val (.int p1), .val (.int p2), .val (.int p3), .val (.int p4), .val (.int p5), .val (.int p6), .val (.int i1), .val (.int i2), .val (.int (1 : Int32)), .val (.int (1 : Int32)), .val (.ref b21), .val (.long (i1.toInt64)), .second, .val (.long (2147483648 : Int64)), .second, .val (.long len), .second, .unset, .unset, .unset, .unset] []))
        refine OwnR.of (fun _ hr => XS.iload X25.here hx rfl (hb hby at_174) rfl hr) ?_
        show OwnR _ _ _ _ _ _ _ (T25.setTop (mkF m 176 #[.val (.int p1), .val (.int p2), .val (.int p3), .val (.int p4), .val (.int p5), .val (.int p6), .val (.int i1), .val (.int i2), .val (.int (1 : Int32)), .val (.int (1 : Int32)), .val (.ref b21), .val (.long (i1.toInt64)), .second, .val (.long (2147483648 : Int64)), .second, .val (.long len), .second, .unset, .unset, .unset, .unset] [(.int p5)]))
        refine OwnR.of (X25.ldcInt hx hown (mvT hZ (hw _ (List.mem_of_getElem? (i := 2) rfl))) (g := (mkF m 176 #[.val (.int p1), .val (.int p2), .val (.int p3), .val (.int p4), .val (.int p5), .val (.int p6), .val (.int i1), .val (.int i2), .val (.int (1 : Int32)), .val (.int (1 : Int32)), .val (.ref b21), .val (.long (i1.toInt64)), .second, .val (.long (2147483648 : Int64)), .second, .val (.long len), .second, .unset, .unset, .unset, .unset] [(.int p5)])) rfl (hb hby at_176)) ?_
        show OwnR _ _ _ _ _ _ _ (T25.setTop (mkF m 178 #[.val (.int p1), .val (.int p2), .val (.int p3), .val (.int p4), .val (.int p5), .val (.int p6), .val (.int i1), .val (.int i2), .val (.int (1 : Int32)), .val (.int (1 : Int32)), .val (.ref b21), .val (.long (i1.toInt64)), .second, .val (.long (2147483648 : Int64)), .second, .val (.long len), .second, .unset, .unset, .unset, .unset] [(.int (2147483647 : Int32)), (.int p5)]))
        refine OwnR.of (fun _ hr => XS.iand X25.here hx rfl (hb hby at_178) rfl hr) ?_
        show OwnR _ _ _ _ _ _ _ (T25.setTop (mkF m 179 #[.val (.int p1), .val (.int p2), .val (.int p3), .val (.int p4), .val (.int p5), .val (.int p6), .val (.int i1), .val (.int i2), .val (.int (1 : Int32)), .val (.int (1 : Int32)), .val (.ref b21), .val (.long (i1.toInt64)), .second, .val (.long (2147483648 : Int64)), .second, .val (.long len), .second, .unset, .unset, .unset, .unset] [(.int (p5 &&& (2147483647 : Int32)))]))
        refine OwnR.of (fun _ hr => XS.i2l X25.here hx rfl (hb hby at_179) rfl hr) ?_
        show OwnR _ _ _ _ _ _ _ (T25.setTop (mkF m 180 #[.val (.int p1), .val (.int p2), .val (.int p3), .val (.int p4), .val (.int p5), .val (.int p6), .val (.int i1), .val (.int i2), .val (.int (1 : Int32)), .val (.int (1 : Int32)), .val (.ref b21), .val (.long (i1.toInt64)), .second, .val (.long (2147483648 : Int64)), .second, .val (.long len), .second, .unset, .unset, .unset, .unset] [(.long ((p5 &&& (2147483647 : Int32)).toInt64))]))
        refine OwnR.of (fun _ hr => XS.lload X25.here hx rfl (hb hby at_180) rfl hr) ?_
        show OwnR _ _ _ _ _ _ _ (T25.setTop (mkF m 182 #[.val (.int p1), .val (.int p2), .val (.int p3), .val (.int p4), .val (.int p5), .val (.int p6), .val (.int i1), .val (.int i2), .val (.int (1 : Int32)), .val (.int (1 : Int32)), .val (.ref b21), .val (.long (i1.toInt64)), .second, .val (.long (2147483648 : Int64)), .second, .val (.long len), .second, .unset, .unset, .unset, .unset] [(.long len), (.long ((p5 &&& (2147483647 : Int32)).toInt64))]))
        refine OwnR.of (fun _ hr => XS.lrem X25.here hx rfl (hb hby at_182) rfl hnz182 hr) ?_
        show OwnR _ _ _ _ _ _ _ (T25.setTop (mkF m 183 #[.val (.int p1), .val (.int p2), .val (.int p3), .val (.int p4), .val (.int p5), .val (.int p6), .val (.int i1), .val (.int i2), .val (.int (1 : Int32)), .val (.int (1 : Int32)), .val (.ref b21), .val (.long (i1.toInt64)), .second, .val (.long (2147483648 : Int64)), .second, .val (.long len), .second, .unset, .unset, .unset, .unset] [(.long (((p5 &&& (2147483647 : Int32)).toInt64) - (((p5 &&& (2147483647 : Int32)).toInt64) / len) * len))]))
        refine OwnR.of (fun _ hr => XS.lstore X25.here hx rfl (hb hby at_183) rfl (l' := #[.val (.int p1), .val (.int p2), .val (.int p3), .val (.int p4), .val (.int p5), .val (.int p6), .val (.int i1), .val (.int i2), .val (.int (1 : Int32)), .val (.int (1 : Int32)), .val (.ref b21), .val (.long (i1.toInt64)), .second, .val (.long (2147483648 : Int64)), .second, .val (.long len), .second, .val (.long (((p5 &&& (2147483647 : Int32)).toInt64) - (((p5 &&& (2147483647 : Int32)).toInt64) / len) * len)), .second, .unset, .unset]) rfl hr) ?_
        show OwnR _ _ _ _ _ _ _ (T25.setTop (mkF m 185 #[.val (.int p1), .val (.int p2), .val (.int p3), .val (.int p4), .val (.int p5), .val (.int p6), .val (.int i1), .val (.int i2), .val (.int (1 : Int32)), .val (.int (1 : Int32)), .val (.ref b21), .val (.long (i1.toInt64)), .second, .val (.long (2147483648 : Int64)), .second, .val (.long len), .second, .val (.long (((p5 &&& (2147483647 : Int32)).toInt64) - (((p5 &&& (2147483647 : Int32)).toInt64) / len) * len)), .second, .unset, .unset] []))
        obtain ⟨off, hoff⟩ : ∃ z : Int64, z = (((p5 &&& (2147483647 : Int32)).toInt64) - (((p5 &&& (2147483647 : Int32)).toInt64) / len) * len) := ⟨_, rfl⟩
        rw [← hoff]
        show OwnR _ _ _ _ _ _ _ (T25.setTop (mkF m 185 #[.val (.int p1), .val (.int p2), .val (.int p3), .val (.int p4), .val (.int p5), .val (.int p6), .val (.int i1), .val (.int i2), .val (.int (1 : Int32)), .val (.int (1 : Int32)), .val (.ref b21), .val (.long (i1.toInt64)), .second, .val (.long (2147483648 : Int64)), .second, .val (.long len), .second, .val (.long off), .second, .unset, .unset] []))
        have ho := own_off p5 len off hl0.1 hoff
        refine OwnR.of (fun _ hr => XS.lload X25.here hx rfl (hb hby at_185) rfl hr) ?_
        show OwnR _ _ _ _ _ _ _ (T25.setTop (mkF m 187 #[.val (.int p1), .val (.int p2), .val (.int p3), .val (.int p4), .val (.int p5), .val (.int p6), .val (.int i1), .val (.int i2), .val (.int (1 : Int32)), .val (.int (1 : Int32)), .val (.ref b21), .val (.long (i1.toInt64)), .second, .val (.long (2147483648 : Int64)), .second, .val (.long len), .second, .val (.long off), .second, .unset, .unset] [(.long (i1.toInt64))]))
        refine OwnR.of (fun _ hr => XS.lload X25.here hx rfl (hb hby at_187) rfl hr) ?_
        show OwnR _ _ _ _ _ _ _ (T25.setTop (mkF m 189 #[.val (.int p1), .val (.int p2), .val (.int p3), .val (.int p4), .val (.int p5), .val (.int p6), .val (.int i1), .val (.int i2), .val (.int (1 : Int32)), .val (.int (1 : Int32)), .val (.ref b21), .val (.long (i1.toInt64)), .second, .val (.long (2147483648 : Int64)), .second, .val (.long len), .second, .val (.long off), .second, .unset, .unset] [(.long off), (.long (i1.toInt64))]))
        refine OwnR.of (fun _ hr => XS.ladd X25.here hx rfl (hb hby at_189) rfl hr) ?_
        show OwnR _ _ _ _ _ _ _ (T25.setTop (mkF m 190 #[.val (.int p1), .val (.int p2), .val (.int p3), .val (.int p4), .val (.int p5), .val (.int p6), .val (.int i1), .val (.int i2), .val (.int (1 : Int32)), .val (.int (1 : Int32)), .val (.ref b21), .val (.long (i1.toInt64)), .second, .val (.long (2147483648 : Int64)), .second, .val (.long len), .second, .val (.long off), .second, .unset, .unset] [(.long ((i1.toInt64) + off))]))
        refine OwnR.of (fun _ hr => XS.l2i X25.here hx rfl (hb hby at_190) rfl hr) ?_
        show OwnR _ _ _ _ _ _ _ (T25.setTop (mkF m 191 #[.val (.int p1), .val (.int p2), .val (.int p3), .val (.int p4), .val (.int p5), .val (.int p6), .val (.int i1), .val (.int i2), .val (.int (1 : Int32)), .val (.int (1 : Int32)), .val (.ref b21), .val (.long (i1.toInt64)), .second, .val (.long (2147483648 : Int64)), .second, .val (.long len), .second, .val (.long off), .second, .unset, .unset] [(.int (((i1.toInt64) + off).toInt32))]))
        refine OwnR.of (fun _ hr => XS.istore X25.here hx rfl (hb hby at_191) rfl (l' := #[.val (.int p1), .val (.int p2), .val (.int p3), .val (.int p4), .val (.int p5), .val (.int p6), .val (.int i1), .val (.int i2), .val (.int (1 : Int32)), .val (.int (1 : Int32)), .val (.ref b21), .val (.long (i1.toInt64)), .second, .val (.long (2147483648 : Int64)), .second, .val (.long len), .second, .val (.long off), .second, .val (.int (((i1.toInt64) + off).toInt32)), .unset]) rfl hr) ?_
        show OwnR _ _ _ _ _ _ _ (T25.setTop (mkF m 193 #[.val (.int p1), .val (.int p2), .val (.int p3), .val (.int p4), .val (.int p5), .val (.int p6), .val (.int i1), .val (.int i2), .val (.int (1 : Int32)), .val (.int (1 : Int32)), .val (.ref b21), .val (.long (i1.toInt64)), .second, .val (.long (2147483648 : Int64)), .second, .val (.long len), .second, .val (.long off), .second, .val (.int (((i1.toInt64) + off).toInt32)), .unset] []))
        refine OwnR.of (fun _ hr => XS.iload X25.here hx rfl (hb hby at_193) rfl hr) ?_
        show OwnR _ _ _ _ _ _ _ (T25.setTop (mkF m 195 #[.val (.int p1), .val (.int p2), .val (.int p3), .val (.int p4), .val (.int p5), .val (.int p6), .val (.int i1), .val (.int i2), .val (.int (1 : Int32)), .val (.int (1 : Int32)), .val (.ref b21), .val (.long (i1.toInt64)), .second, .val (.long (2147483648 : Int64)), .second, .val (.long len), .second, .val (.long off), .second, .val (.int (((i1.toInt64) + off).toInt32)), .unset] [(.int (1 : Int32))]))
        refine OwnR.of (fun _ hr => XS.ifNo X25.here hx rfl (hb hby at_195) rfl ((if0 _ _).trans (tlt (by decide : (0 : Int32) < (1 : Int32))).2.2.2) hr) ?_
        show OwnR _ _ _ _ _ _ _ (T25.setTop (mkF m 198 #[.val (.int p1), .val (.int p2), .val (.int p3), .val (.int p4), .val (.int p5), .val (.int p6), .val (.int i1), .val (.int i2), .val (.int (1 : Int32)), .val (.int (1 : Int32)), .val (.ref b21), .val (.long (i1.toInt64)), .second, .val (.long (2147483648 : Int64)), .second, .val (.long len), .second, .val (.long off), .second, .val (.int (((i1.toInt64) + off).toInt32)), .unset] []))
        refine OwnR.of (fun _ hr => XS.lload X25.here hx rfl (hb hby at_198) rfl hr) ?_
        show OwnR _ _ _ _ _ _ _ (T25.setTop (mkF m 200 #[.val (.int p1), .val (.int p2), .val (.int p3), .val (.int p4), .val (.int p5), .val (.int p6), .val (.int i1), .val (.int i2), .val (.int (1 : Int32)), .val (.int (1 : Int32)), .val (.ref b21), .val (.long (i1.toInt64)), .second, .val (.long (2147483648 : Int64)), .second, .val (.long len), .second, .val (.long off), .second, .val (.int (((i1.toInt64) + off).toInt32)), .unset] [(.long off)]))
        refine OwnR.of (fun _ hr => XS.lconst X25.here hx rfl (hb hby at_200) hr) ?_
        show OwnR _ _ _ _ _ _ _ (T25.setTop (mkF m 201 #[.val (.int p1), .val (.int p2), .val (.int p3), .val (.int p4), .val (.int p5), .val (.int p6), .val (.int i1), .val (.int i2), .val (.int (1 : Int32)), .val (.int (1 : Int32)), .val (.ref b21), .val (.long (i1.toInt64)), .second, .val (.long (2147483648 : Int64)), .second, .val (.long len), .second, .val (.long off), .second, .val (.int (((i1.toInt64) + off).toInt32)), .unset] [(.long (0 : Int64)), (.long off)]))
        refine OwnR.of (fun _ hr => XS.lcmp X25.here hx rfl (hb hby at_201) rfl hr) ?_
        show OwnR _ _ _ _ _ _ _ (T25.setTop (mkF m 202 #[.val (.int p1), .val (.int p2), .val (.int p3), .val (.int p4), .val (.int p5), .val (.int p6), .val (.int i1), .val (.int i2), .val (.int (1 : Int32)), .val (.int (1 : Int32)), .val (.ref b21), .val (.long (i1.toInt64)), .second, .val (.long (2147483648 : Int64)), .second, .val (.long len), .second, .val (.long off), .second, .val (.int (((i1.toInt64) + off).toInt32)), .unset] [(.int (lcmpW off (0 : Int64)))]))
        obtain ⟨v27, hv27⟩ : ∃ z : Int32, z = (if off = (0 : Int64) then (1 : Int32) else (0 : Int32)) := ⟨_, rfl⟩
        suffices J210_28 : OwnR p e below s (Q0 Z  h0 n0) 24 128 (T25.setTop (mkF m 210 #[.val (.int p1), .val (.int p2), .val (.int p3), .val (.int p4), .val (.int p5), .val (.int p6), .val (.int i1), .val (.int i2), .val (.int (1 : Int32)), .val (.int (1 : Int32)), .val (.ref b21), .val (.long (i1.toInt64)), .second, .val (.long (2147483648 : Int64)), .second, .val (.long len), .second, .val (.long off), .second, .val (.int (((i1.toInt64) + off).toInt32)), .unset] [(.int v27)])) by
          by_cases hc202_29 : off = (0 : Int64)
          · skip
            refine OwnR.of (fun _ hr => XS.ifNo X25.here hx rfl (hb hby at_202) rfl ((if0 _ _).trans (teq ((own_lceq _ _).mpr hc202_29)).2) hr) ?_
            show OwnR _ _ _ _ _ _ _ (T25.setTop (mkF m 205 #[.val (.int p1), .val (.int p2), .val (.int p3), .val (.int p4), .val (.int p5), .val (.int p6), .val (.int i1), .val (.int i2), .val (.int (1 : Int32)), .val (.int (1 : Int32)), .val (.ref b21), .val (.long (i1.toInt64)), .second, .val (.long (2147483648 : Int64)), .second, .val (.long len), .second, .val (.long off), .second, .val (.int (((i1.toInt64) + off).toInt32)), .unset] []))
            refine OwnR.of (fun _ hr => XS.iconst X25.here hx rfl (hb hby at_205) hr) ?_
            show OwnR _ _ _ _ _ _ _ (T25.setTop (mkF m 206 #[.val (.int p1), .val (.int p2), .val (.int p3), .val (.int p4), .val (.int p5), .val (.int p6), .val (.int i1), .val (.int i2), .val (.int (1 : Int32)), .val (.int (1 : Int32)), .val (.ref b21), .val (.long (i1.toInt64)), .second, .val (.long (2147483648 : Int64)), .second, .val (.long len), .second, .val (.long off), .second, .val (.int (((i1.toInt64) + off).toInt32)), .unset] [(.int (1 : Int32))]))
            refine OwnR.of (fun _ hr => XS.goto X25.here hx rfl (pc0 := 206) (pc' := 210) rfl (hb hby at_206) (by decide) (by decide) hr) ?_
            show OwnR _ _ _ _ _ _ _ (T25.setTop (mkF m 210 #[.val (.int p1), .val (.int p2), .val (.int p3), .val (.int p4), .val (.int p5), .val (.int p6), .val (.int i1), .val (.int i2), .val (.int (1 : Int32)), .val (.int (1 : Int32)), .val (.ref b21), .val (.long (i1.toInt64)), .second, .val (.long (2147483648 : Int64)), .second, .val (.long len), .second, .val (.long off), .second, .val (.int (((i1.toInt64) + off).toInt32)), .unset] [(.int (1 : Int32))]))
            simp only [if_pos hc202_29] at hv27
            subst hv27
            exact J210_28
          · skip
            refine OwnR.of (fun _ hr => XS.ifYes X25.here hx rfl (pc0 := 202) (pc' := 209) rfl (hb hby at_202) rfl ((if0 _ _).trans (feq ((not_congr (own_lceq _ _)).mpr hc202_29)).2) (by decide) (by decide) hr) ?_
            show OwnR _ _ _ _ _ _ _ (T25.setTop (mkF m 209 #[.val (.int p1), .val (.int p2), .val (.int p3), .val (.int p4), .val (.int p5), .val (.int p6), .val (.int i1), .val (.int i2), .val (.int (1 : Int32)), .val (.int (1 : Int32)), .val (.ref b21), .val (.long (i1.toInt64)), .second, .val (.long (2147483648 : Int64)), .second, .val (.long len), .second, .val (.long off), .second, .val (.int (((i1.toInt64) + off).toInt32)), .unset] []))
            refine OwnR.of (fun _ hr => XS.iconst X25.here hx rfl (hb hby at_209) hr) ?_
            show OwnR _ _ _ _ _ _ _ (T25.setTop (mkF m 210 #[.val (.int p1), .val (.int p2), .val (.int p3), .val (.int p4), .val (.int p5), .val (.int p6), .val (.int i1), .val (.int i2), .val (.int (1 : Int32)), .val (.int (1 : Int32)), .val (.ref b21), .val (.long (i1.toInt64)), .second, .val (.long (2147483648 : Int64)), .second, .val (.long len), .second, .val (.long off), .second, .val (.int (((i1.toInt64) + off).toInt32)), .unset] [(.int (0 : Int32))]))
            simp only [if_neg hc202_29] at hv27
            subst hv27
            exact J210_28
        refine OwnR.of (fun _ hr => XS.istore X25.here hx rfl (hb hby at_210) rfl (l' := #[.val (.int p1), .val (.int p2), .val (.int p3), .val (.int p4), .val (.int p5), .val (.int p6), .val (.int i1), .val (.int i2), .val (.int (1 : Int32)), .val (.int (1 : Int32)), .val (.ref b21), .val (.long (i1.toInt64)), .second, .val (.long (2147483648 : Int64)), .second, .val (.long len), .second, .val (.long off), .second, .val (.int (((i1.toInt64) + off).toInt32)), .val (.int v27)]) rfl hr) ?_
        show OwnR _ _ _ _ _ _ _ (T25.setTop (mkF m 212 #[.val (.int p1), .val (.int p2), .val (.int p3), .val (.int p4), .val (.int p5), .val (.int p6), .val (.int i1), .val (.int i2), .val (.int (1 : Int32)), .val (.int (1 : Int32)), .val (.ref b21), .val (.long (i1.toInt64)), .second, .val (.long (2147483648 : Int64)), .second, .val (.long len), .second, .val (.long off), .second, .val (.int (((i1.toInt64) + off).toInt32)), .val (.int v27)] []))
        refine OwnR.of (fun _ hr => XS.aload X25.here hx rfl (hb hby at_212) rfl rfl hr) ?_
        show OwnR _ _ _ _ _ _ _ (T25.setTop (mkF m 214 #[.val (.int p1), .val (.int p2), .val (.int p3), .val (.int p4), .val (.int p5), .val (.int p6), .val (.int i1), .val (.int i2), .val (.int (1 : Int32)), .val (.int (1 : Int32)), .val (.ref b21), .val (.long (i1.toInt64)), .second, .val (.long (2147483648 : Int64)), .second, .val (.long len), .second, .val (.long off), .second, .val (.int (((i1.toInt64) + off).toInt32)), .val (.int v27)] [(.ref b21)]))
        refine OwnR.of (fun _ hr => XS.iload X25.here hx rfl (hb hby at_214) rfl hr) ?_
        show OwnR _ _ _ _ _ _ _ (T25.setTop (mkF m 216 #[.val (.int p1), .val (.int p2), .val (.int p3), .val (.int p4), .val (.int p5), .val (.int p6), .val (.int i1), .val (.int i2), .val (.int (1 : Int32)), .val (.int (1 : Int32)), .val (.ref b21), .val (.long (i1.toInt64)), .second, .val (.long (2147483648 : Int64)), .second, .val (.long len), .second, .val (.long off), .second, .val (.int (((i1.toInt64) + off).toInt32)), .val (.int v27)] [(.int (1 : Int32)), (.ref b21)]))
        refine OwnR.of (fun _ hr => XS.iload X25.here hx rfl (hb hby at_216) rfl hr) ?_
        show OwnR _ _ _ _ _ _ _ (T25.setTop (mkF m 218 #[.val (.int p1), .val (.int p2), .val (.int p3), .val (.int p4), .val (.int p5), .val (.int p6), .val (.int i1), .val (.int i2), .val (.int (1 : Int32)), .val (.int (1 : Int32)), .val (.ref b21), .val (.long (i1.toInt64)), .second, .val (.long (2147483648 : Int64)), .second, .val (.long len), .second, .val (.long off), .second, .val (.int (((i1.toInt64) + off).toInt32)), .val (.int v27)] [(.int (((i1.toInt64) + off).toInt32)), (.int (1 : Int32)), (.ref b21)]))
        obtain ⟨cq30, kq30, q30a, q30b, q30c⟩ := isOf hZ rfl P25_1
        obtain ⟨_, _, ⟨T30, L30, kc30, ns30⟩, -, X30, ⟨Lc30, hQ30, l30, y30, z30⟩, st30⟩ := X25.virtualBack hx (y := (⟨"com/example/tercet/tercet/core/Pages", "startsPage", "(II)Z"⟩ : MethodName)) (z := (⟨"com/example/tercet/tercet/core/Pages", "startsPage", "(II)Z"⟩ : MethodName)) hown (mvT hZ (hw _ (List.mem_of_getElem? (i := 66) rfl))) (mvT hZ (hw _ (List.mem_of_getElem? (i := 67) rfl))) (notFace_of_selects (args := #[]) (mvT hZ (hw _ (List.mem_of_getElem? (i := 69) rfl)))) (mvT hZ (hw _ (List.mem_of_getElem? (i := 69) rfl))) (mvT hZ (hw _ (List.mem_of_getElem? (i := 68) rfl))) (by decide) (backOf (W := 0) (rmS_1_2 l Z a0 hw [] b21 (((i1.toInt64) + off).toInt32) c_25 kc_25 (0 : Int32) i1 (T25.heap) n0 (Nat.le_trans Z0 K25.1) P25_1 P25_6 P25_11) hZ (hw _ (List.mem_of_getElem? (i := 70) rfl)) (hw _ (List.mem_of_getElem? (i := 5) rfl)) (by decide) (by decide)) q30a q30c (g := (mkF m 218 #[.val (.int p1), .val (.int p2), .val (.int p3), .val (.int p4), .val (.int p5), .val (.int p6), .val (.int i1), .val (.int i2), .val (.int (1 : Int32)), .val (.int (1 : Int32)), .val (.ref b21), .val (.long (i1.toInt64)), .second, .val (.long (2147483648 : Int64)), .second, .val (.long len), .second, .val (.long off), .second, .val (.int (((i1.toInt64) + off).toInt32)), .val (.int v27)] [(.int (((i1.toInt64) + off).toInt32)), (.int (1 : Int32)), (.ref b21)])) rfl (by rw [hml]; rfl) (Steps.refl _) (argsL := [(.int (1 : Int32)), (.int (((i1.toInt64) + off).toInt32))]) (rest := []) (lenOf pd__II_Z rfl) rfl (by show 2 * 0 + _ ≤ _; exact Nat.le_of_eq rfl) (hb hby at_218) (fun _ _ => ⟨rfl, rfl, (by decide : 5 + 0 ≤ _), (by decide : 13 + 0 ≤ _)⟩)
        dsimp only [Pt.U, Pt.locs, Pt.cells, Pt.slots] at X30 l30 y30 z30 st30 hQ30
        subst l30 y30 z30
        obtain ⟨rfl, N30q, e30⟩ := hQ30
        have N30 := Fr.app N25 N30q
        refine OwnR.of (fun _ hr => st30.trans hr) ?_
        show OwnR _ _ _ _ _ _ _ (T30.setTop (mkF m 221 #[.val (.int p1), .val (.int p2), .val (.int p3), .val (.int p4), .val (.int p5), .val (.int p6), .val (.int i1), .val (.int i2), .val (.int (1 : Int32)), .val (.int (1 : Int32)), .val (.ref b21), .val (.long (i1.toInt64)), .second, .val (.long (2147483648 : Int64)), .second, .val (.long len), .second, .val (.long off), .second, .val (.int (((i1.toInt64) + off).toInt32)), .val (.int v27)] [(.int (own_sp i1 (((i1.toInt64) + off).toInt32)))]))
        refine OwnR.of (fun _ hr => XS.iload X30.here hx rfl (hb hby at_221) rfl hr) ?_
        show OwnR _ _ _ _ _ _ _ (T30.setTop (mkF m 223 #[.val (.int p1), .val (.int p2), .val (.int p3), .val (.int p4), .val (.int p5), .val (.int p6), .val (.int i1), .val (.int i2), .val (.int (1 : Int32)), .val (.int (1 : Int32)), .val (.ref b21), .val (.long (i1.toInt64)), .second, .val (.long (2147483648 : Int64)), .second, .val (.long len), .second, .val (.long off), .second, .val (.int (((i1.toInt64) + off).toInt32)), .val (.int v27)] [(.int v27), (.int (own_sp i1 (((i1.toInt64) + off).toInt32)))]))
        have hc223_31 : (own_sp i1 (((i1.toInt64) + off).toInt32)) = v27 := by
          refine Classical.byContradiction fun hbad => ?_
          rw [hv27] at hbad
          exact hbad (own_fin1 i1 off len b1.1 ho hl0)
        refine OwnR.of (fun _ hr => XS.icmpNo X30.here hx rfl (hb hby at_223) rfl (teq hc223_31).2 hr) ?_
        show OwnR _ _ _ _ _ _ _ (T30.setTop (mkF m 226 #[.val (.int p1), .val (.int p2), .val (.int p3), .val (.int p4), .val (.int p5), .val (.int p6), .val (.int i1), .val (.int i2), .val (.int (1 : Int32)), .val (.int (1 : Int32)), .val (.ref b21), .val (.long (i1.toInt64)), .second, .val (.long (2147483648 : Int64)), .second, .val (.long len), .second, .val (.long off), .second, .val (.int (((i1.toInt64) + off).toInt32)), .val (.int v27)] []))
        refine OwnR.of (fun _ hr => XS.iconst X30.here hx rfl (hb hby at_226) hr) ?_
        show OwnR _ _ _ _ _ _ _ (T30.setTop (mkF m 227 #[.val (.int p1), .val (.int p2), .val (.int p3), .val (.int p4), .val (.int p5), .val (.int p6), .val (.int i1), .val (.int i2), .val (.int (1 : Int32)), .val (.int (1 : Int32)), .val (.ref b21), .val (.long (i1.toInt64)), .second, .val (.long (2147483648 : Int64)), .second, .val (.long len), .second, .val (.long off), .second, .val (.int (((i1.toInt64) + off).toInt32)), .val (.int v27)] [(.int (1 : Int32))]))
        refine OwnR.of (fun _ hr => XS.goto X30.here hx rfl (pc0 := 227) (pc' := 231) rfl (hb hby at_227) (by decide) (by decide) hr) ?_
        show OwnR _ _ _ _ _ _ _ (T30.setTop (mkF m 231 #[.val (.int p1), .val (.int p2), .val (.int p3), .val (.int p4), .val (.int p5), .val (.int p6), .val (.int i1), .val (.int i2), .val (.int (1 : Int32)), .val (.int (1 : Int32)), .val (.ref b21), .val (.long (i1.toInt64)), .second, .val (.long (2147483648 : Int64)), .second, .val (.long len), .second, .val (.long off), .second, .val (.int (((i1.toInt64) + off).toInt32)), .val (.int v27)] [(.int (1 : Int32))]))
        refine own_leafN X30 hx hlk (t := .boolean) Bd.returns (by simp) (hb hby at_231) (z' := (1 : Int32)) rfl (by decide) (by decide) ?_
        show Q0 Z  h0 n0 _ T30.heap _
        rw [show T30.heap = T25.heap from e30]
        refine ⟨?_, N30⟩
        show (some (.int (1 : Int32)) : Option Value) = some (.int (1 : Int32))
        rfl
      · skip
        refine OwnR.of (fun _ hr => XS.ifNo X25.here hx rfl (hb hby at_167) rfl ((if0 _ _).trans (feq hc167_26).1) hr) ?_
        show OwnR _ _ _ _ _ _ _ (T25.setTop (mkF m 170 #[.val (.int p1), .val (.int p2), .val (.int p3), .val (.int p4), .val (.int p5), .val (.int p6), .val (.int i1), .val (.int i2), .val (.int (1 : Int32)), .val (.int (1 : Int32)), .val (.ref b21), .val (.long (i1.toInt64)), .second, .val (.long (2147483648 : Int64)), .second, .val (.long len), .second, .unset, .unset, .unset, .unset] []))
        refine OwnR.of (fun _ hr => XS.lconst X25.here hx rfl (hb hby at_170) hr) ?_
        show OwnR _ _ _ _ _ _ _ (T25.setTop (mkF m 171 #[.val (.int p1), .val (.int p2), .val (.int p3), .val (.int p4), .val (.int p5), .val (.int p6), .val (.int i1), .val (.int i2), .val (.int (1 : Int32)), .val (.int (1 : Int32)), .val (.ref b21), .val (.long (i1.toInt64)), .second, .val (.long (2147483648 : Int64)), .second, .val (.long len), .second, .unset, .unset, .unset, .unset] [(.long (0 : Int64))]))
        refine OwnR.of (fun _ hr => XS.goto X25.here hx rfl (pc0 := 171) (pc' := 183) rfl (hb hby at_171) (by decide) (by decide) hr) ?_
        show OwnR _ _ _ _ _ _ _ (T25.setTop (mkF m 183 #[.val (.int p1), .val (.int p2), .val (.int p3), .val (.int p4), .val (.int p5), .val (.int p6), .val (.int i1), .val (.int i2), .val (.int (1 : Int32)), .val (.int (1 : Int32)), .val (.ref b21), .val (.long (i1.toInt64)), .second, .val (.long (2147483648 : Int64)), .second, .val (.long len), .second, .unset, .unset, .unset, .unset] [(.long (0 : Int64))]))
        refine OwnR.of (fun _ hr => XS.lstore X25.here hx rfl (hb hby at_183) rfl (l' := #[.val (.int p1), .val (.int p2), .val (.int p3), .val (.int p4), .val (.int p5), .val (.int p6), .val (.int i1), .val (.int i2), .val (.int (1 : Int32)), .val (.int (1 : Int32)), .val (.ref b21), .val (.long (i1.toInt64)), .second, .val (.long (2147483648 : Int64)), .second, .val (.long len), .second, .val (.long (0 : Int64)), .second, .unset, .unset]) rfl hr) ?_
        show OwnR _ _ _ _ _ _ _ (T25.setTop (mkF m 185 #[.val (.int p1), .val (.int p2), .val (.int p3), .val (.int p4), .val (.int p5), .val (.int p6), .val (.int i1), .val (.int i2), .val (.int (1 : Int32)), .val (.int (1 : Int32)), .val (.ref b21), .val (.long (i1.toInt64)), .second, .val (.long (2147483648 : Int64)), .second, .val (.long len), .second, .val (.long (0 : Int64)), .second, .unset, .unset] []))
        refine OwnR.of (fun _ hr => XS.lload X25.here hx rfl (hb hby at_185) rfl hr) ?_
        show OwnR _ _ _ _ _ _ _ (T25.setTop (mkF m 187 #[.val (.int p1), .val (.int p2), .val (.int p3), .val (.int p4), .val (.int p5), .val (.int p6), .val (.int i1), .val (.int i2), .val (.int (1 : Int32)), .val (.int (1 : Int32)), .val (.ref b21), .val (.long (i1.toInt64)), .second, .val (.long (2147483648 : Int64)), .second, .val (.long len), .second, .val (.long (0 : Int64)), .second, .unset, .unset] [(.long (i1.toInt64))]))
        refine OwnR.of (fun _ hr => XS.lload X25.here hx rfl (hb hby at_187) rfl hr) ?_
        show OwnR _ _ _ _ _ _ _ (T25.setTop (mkF m 189 #[.val (.int p1), .val (.int p2), .val (.int p3), .val (.int p4), .val (.int p5), .val (.int p6), .val (.int i1), .val (.int i2), .val (.int (1 : Int32)), .val (.int (1 : Int32)), .val (.ref b21), .val (.long (i1.toInt64)), .second, .val (.long (2147483648 : Int64)), .second, .val (.long len), .second, .val (.long (0 : Int64)), .second, .unset, .unset] [(.long (0 : Int64)), (.long (i1.toInt64))]))
        refine OwnR.of (fun _ hr => XS.ladd X25.here hx rfl (hb hby at_189) rfl hr) ?_
        show OwnR _ _ _ _ _ _ _ (T25.setTop (mkF m 190 #[.val (.int p1), .val (.int p2), .val (.int p3), .val (.int p4), .val (.int p5), .val (.int p6), .val (.int i1), .val (.int i2), .val (.int (1 : Int32)), .val (.int (1 : Int32)), .val (.ref b21), .val (.long (i1.toInt64)), .second, .val (.long (2147483648 : Int64)), .second, .val (.long len), .second, .val (.long (0 : Int64)), .second, .unset, .unset] [(.long ((i1.toInt64) + (0 : Int64)))]))
        refine OwnR.of (fun _ hr => XS.l2i X25.here hx rfl (hb hby at_190) rfl hr) ?_
        show OwnR _ _ _ _ _ _ _ (T25.setTop (mkF m 191 #[.val (.int p1), .val (.int p2), .val (.int p3), .val (.int p4), .val (.int p5), .val (.int p6), .val (.int i1), .val (.int i2), .val (.int (1 : Int32)), .val (.int (1 : Int32)), .val (.ref b21), .val (.long (i1.toInt64)), .second, .val (.long (2147483648 : Int64)), .second, .val (.long len), .second, .val (.long (0 : Int64)), .second, .unset, .unset] [(.int (((i1.toInt64) + (0 : Int64)).toInt32))]))
        refine OwnR.of (fun _ hr => XS.istore X25.here hx rfl (hb hby at_191) rfl (l' := #[.val (.int p1), .val (.int p2), .val (.int p3), .val (.int p4), .val (.int p5), .val (.int p6), .val (.int i1), .val (.int i2), .val (.int (1 : Int32)), .val (.int (1 : Int32)), .val (.ref b21), .val (.long (i1.toInt64)), .second, .val (.long (2147483648 : Int64)), .second, .val (.long len), .second, .val (.long (0 : Int64)), .second, .val (.int (((i1.toInt64) + (0 : Int64)).toInt32)), .unset]) rfl hr) ?_
        show OwnR _ _ _ _ _ _ _ (T25.setTop (mkF m 193 #[.val (.int p1), .val (.int p2), .val (.int p3), .val (.int p4), .val (.int p5), .val (.int p6), .val (.int i1), .val (.int i2), .val (.int (1 : Int32)), .val (.int (1 : Int32)), .val (.ref b21), .val (.long (i1.toInt64)), .second, .val (.long (2147483648 : Int64)), .second, .val (.long len), .second, .val (.long (0 : Int64)), .second, .val (.int (((i1.toInt64) + (0 : Int64)).toInt32)), .unset] []))
        refine OwnR.of (fun _ hr => XS.iload X25.here hx rfl (hb hby at_193) rfl hr) ?_
        show OwnR _ _ _ _ _ _ _ (T25.setTop (mkF m 195 #[.val (.int p1), .val (.int p2), .val (.int p3), .val (.int p4), .val (.int p5), .val (.int p6), .val (.int i1), .val (.int i2), .val (.int (1 : Int32)), .val (.int (1 : Int32)), .val (.ref b21), .val (.long (i1.toInt64)), .second, .val (.long (2147483648 : Int64)), .second, .val (.long len), .second, .val (.long (0 : Int64)), .second, .val (.int (((i1.toInt64) + (0 : Int64)).toInt32)), .unset] [(.int (1 : Int32))]))
        refine OwnR.of (fun _ hr => XS.ifNo X25.here hx rfl (hb hby at_195) rfl ((if0 _ _).trans (tlt (by decide : (0 : Int32) < (1 : Int32))).2.2.2) hr) ?_
        show OwnR _ _ _ _ _ _ _ (T25.setTop (mkF m 198 #[.val (.int p1), .val (.int p2), .val (.int p3), .val (.int p4), .val (.int p5), .val (.int p6), .val (.int i1), .val (.int i2), .val (.int (1 : Int32)), .val (.int (1 : Int32)), .val (.ref b21), .val (.long (i1.toInt64)), .second, .val (.long (2147483648 : Int64)), .second, .val (.long len), .second, .val (.long (0 : Int64)), .second, .val (.int (((i1.toInt64) + (0 : Int64)).toInt32)), .unset] []))
        refine OwnR.of (fun _ hr => XS.lload X25.here hx rfl (hb hby at_198) rfl hr) ?_
        show OwnR _ _ _ _ _ _ _ (T25.setTop (mkF m 200 #[.val (.int p1), .val (.int p2), .val (.int p3), .val (.int p4), .val (.int p5), .val (.int p6), .val (.int i1), .val (.int i2), .val (.int (1 : Int32)), .val (.int (1 : Int32)), .val (.ref b21), .val (.long (i1.toInt64)), .second, .val (.long (2147483648 : Int64)), .second, .val (.long len), .second, .val (.long (0 : Int64)), .second, .val (.int (((i1.toInt64) + (0 : Int64)).toInt32)), .unset] [(.long (0 : Int64))]))
        refine OwnR.of (fun _ hr => XS.lconst X25.here hx rfl (hb hby at_200) hr) ?_
        show OwnR _ _ _ _ _ _ _ (T25.setTop (mkF m 201 #[.val (.int p1), .val (.int p2), .val (.int p3), .val (.int p4), .val (.int p5), .val (.int p6), .val (.int i1), .val (.int i2), .val (.int (1 : Int32)), .val (.int (1 : Int32)), .val (.ref b21), .val (.long (i1.toInt64)), .second, .val (.long (2147483648 : Int64)), .second, .val (.long len), .second, .val (.long (0 : Int64)), .second, .val (.int (((i1.toInt64) + (0 : Int64)).toInt32)), .unset] [(.long (0 : Int64)), (.long (0 : Int64))]))
        refine OwnR.of (fun _ hr => XS.lcmp X25.here hx rfl (hb hby at_201) rfl hr) ?_
        show OwnR _ _ _ _ _ _ _ (T25.setTop (mkF m 202 #[.val (.int p1), .val (.int p2), .val (.int p3), .val (.int p4), .val (.int p5), .val (.int p6), .val (.int i1), .val (.int i2), .val (.int (1 : Int32)), .val (.int (1 : Int32)), .val (.ref b21), .val (.long (i1.toInt64)), .second, .val (.long (2147483648 : Int64)), .second, .val (.long len), .second, .val (.long (0 : Int64)), .second, .val (.int (((i1.toInt64) + (0 : Int64)).toInt32)), .unset] [(.int (lcmpW (0 : Int64) (0 : Int64)))]))
        refine OwnR.of (fun _ hr => XS.ifNo X25.here hx rfl (hb hby at_202) rfl ((if0 _ _).trans (teq ((own_lceq _ _).mpr (by decide : (0 : Int64) = (0 : Int64)))).2) hr) ?_
        show OwnR _ _ _ _ _ _ _ (T25.setTop (mkF m 205 #[.val (.int p1), .val (.int p2), .val (.int p3), .val (.int p4), .val (.int p5), .val (.int p6), .val (.int i1), .val (.int i2), .val (.int (1 : Int32)), .val (.int (1 : Int32)), .val (.ref b21), .val (.long (i1.toInt64)), .second, .val (.long (2147483648 : Int64)), .second, .val (.long len), .second, .val (.long (0 : Int64)), .second, .val (.int (((i1.toInt64) + (0 : Int64)).toInt32)), .unset] []))
        refine OwnR.of (fun _ hr => XS.iconst X25.here hx rfl (hb hby at_205) hr) ?_
        show OwnR _ _ _ _ _ _ _ (T25.setTop (mkF m 206 #[.val (.int p1), .val (.int p2), .val (.int p3), .val (.int p4), .val (.int p5), .val (.int p6), .val (.int i1), .val (.int i2), .val (.int (1 : Int32)), .val (.int (1 : Int32)), .val (.ref b21), .val (.long (i1.toInt64)), .second, .val (.long (2147483648 : Int64)), .second, .val (.long len), .second, .val (.long (0 : Int64)), .second, .val (.int (((i1.toInt64) + (0 : Int64)).toInt32)), .unset] [(.int (1 : Int32))]))
        refine OwnR.of (fun _ hr => XS.goto X25.here hx rfl (pc0 := 206) (pc' := 210) rfl (hb hby at_206) (by decide) (by decide) hr) ?_
        show OwnR _ _ _ _ _ _ _ (T25.setTop (mkF m 210 #[.val (.int p1), .val (.int p2), .val (.int p3), .val (.int p4), .val (.int p5), .val (.int p6), .val (.int i1), .val (.int i2), .val (.int (1 : Int32)), .val (.int (1 : Int32)), .val (.ref b21), .val (.long (i1.toInt64)), .second, .val (.long (2147483648 : Int64)), .second, .val (.long len), .second, .val (.long (0 : Int64)), .second, .val (.int (((i1.toInt64) + (0 : Int64)).toInt32)), .unset] [(.int (1 : Int32))]))
        refine OwnR.of (fun _ hr => XS.istore X25.here hx rfl (hb hby at_210) rfl (l' := #[.val (.int p1), .val (.int p2), .val (.int p3), .val (.int p4), .val (.int p5), .val (.int p6), .val (.int i1), .val (.int i2), .val (.int (1 : Int32)), .val (.int (1 : Int32)), .val (.ref b21), .val (.long (i1.toInt64)), .second, .val (.long (2147483648 : Int64)), .second, .val (.long len), .second, .val (.long (0 : Int64)), .second, .val (.int (((i1.toInt64) + (0 : Int64)).toInt32)), .val (.int (1 : Int32))]) rfl hr) ?_
        show OwnR _ _ _ _ _ _ _ (T25.setTop (mkF m 212 #[.val (.int p1), .val (.int p2), .val (.int p3), .val (.int p4), .val (.int p5), .val (.int p6), .val (.int i1), .val (.int i2), .val (.int (1 : Int32)), .val (.int (1 : Int32)), .val (.ref b21), .val (.long (i1.toInt64)), .second, .val (.long (2147483648 : Int64)), .second, .val (.long len), .second, .val (.long (0 : Int64)), .second, .val (.int (((i1.toInt64) + (0 : Int64)).toInt32)), .val (.int (1 : Int32))] []))
        refine OwnR.of (fun _ hr => XS.aload X25.here hx rfl (hb hby at_212) rfl rfl hr) ?_
        show OwnR _ _ _ _ _ _ _ (T25.setTop (mkF m 214 #[.val (.int p1), .val (.int p2), .val (.int p3), .val (.int p4), .val (.int p5), .val (.int p6), .val (.int i1), .val (.int i2), .val (.int (1 : Int32)), .val (.int (1 : Int32)), .val (.ref b21), .val (.long (i1.toInt64)), .second, .val (.long (2147483648 : Int64)), .second, .val (.long len), .second, .val (.long (0 : Int64)), .second, .val (.int (((i1.toInt64) + (0 : Int64)).toInt32)), .val (.int (1 : Int32))] [(.ref b21)]))
        refine OwnR.of (fun _ hr => XS.iload X25.here hx rfl (hb hby at_214) rfl hr) ?_
        show OwnR _ _ _ _ _ _ _ (T25.setTop (mkF m 216 #[.val (.int p1), .val (.int p2), .val (.int p3), .val (.int p4), .val (.int p5), .val (.int p6), .val (.int i1), .val (.int i2), .val (.int (1 : Int32)), .val (.int (1 : Int32)), .val (.ref b21), .val (.long (i1.toInt64)), .second, .val (.long (2147483648 : Int64)), .second, .val (.long len), .second, .val (.long (0 : Int64)), .second, .val (.int (((i1.toInt64) + (0 : Int64)).toInt32)), .val (.int (1 : Int32))] [(.int (1 : Int32)), (.ref b21)]))
        refine OwnR.of (fun _ hr => XS.iload X25.here hx rfl (hb hby at_216) rfl hr) ?_
        show OwnR _ _ _ _ _ _ _ (T25.setTop (mkF m 218 #[.val (.int p1), .val (.int p2), .val (.int p3), .val (.int p4), .val (.int p5), .val (.int p6), .val (.int i1), .val (.int i2), .val (.int (1 : Int32)), .val (.int (1 : Int32)), .val (.ref b21), .val (.long (i1.toInt64)), .second, .val (.long (2147483648 : Int64)), .second, .val (.long len), .second, .val (.long (0 : Int64)), .second, .val (.int (((i1.toInt64) + (0 : Int64)).toInt32)), .val (.int (1 : Int32))] [(.int (((i1.toInt64) + (0 : Int64)).toInt32)), (.int (1 : Int32)), (.ref b21)]))
        obtain ⟨cq32, kq32, q32a, q32b, q32c⟩ := isOf hZ rfl P25_1
        obtain ⟨_, _, ⟨T32, L32, kc32, ns32⟩, -, X32, ⟨Lc32, hQ32, l32, y32, z32⟩, st32⟩ := X25.virtualBack hx (y := (⟨"com/example/tercet/tercet/core/Pages", "startsPage", "(II)Z"⟩ : MethodName)) (z := (⟨"com/example/tercet/tercet/core/Pages", "startsPage", "(II)Z"⟩ : MethodName)) hown (mvT hZ (hw _ (List.mem_of_getElem? (i := 66) rfl))) (mvT hZ (hw _ (List.mem_of_getElem? (i := 67) rfl))) (notFace_of_selects (args := #[]) (mvT hZ (hw _ (List.mem_of_getElem? (i := 69) rfl)))) (mvT hZ (hw _ (List.mem_of_getElem? (i := 69) rfl))) (mvT hZ (hw _ (List.mem_of_getElem? (i := 68) rfl))) (by decide) (backOf (W := 0) (rmS_1_2 l Z a0 hw [] b21 (((i1.toInt64) + (0 : Int64)).toInt32) c_25 kc_25 (0 : Int32) i1 (T25.heap) n0 (Nat.le_trans Z0 K25.1) P25_1 P25_6 P25_11) hZ (hw _ (List.mem_of_getElem? (i := 70) rfl)) (hw _ (List.mem_of_getElem? (i := 5) rfl)) (by decide) (by decide)) q32a q32c (g := (mkF m 218 #[.val (.int p1), .val (.int p2), .val (.int p3), .val (.int p4), .val (.int p5), .val (.int p6), .val (.int i1), .val (.int i2), .val (.int (1 : Int32)), .val (.int (1 : Int32)), .val (.ref b21), .val (.long (i1.toInt64)), .second, .val (.long (2147483648 : Int64)), .second, .val (.long len), .second, .val (.long (0 : Int64)), .second, .val (.int (((i1.toInt64) + (0 : Int64)).toInt32)), .val (.int (1 : Int32))] [(.int (((i1.toInt64) + (0 : Int64)).toInt32)), (.int (1 : Int32)), (.ref b21)])) rfl (by rw [hml]; rfl) (Steps.refl _) (argsL := [(.int (1 : Int32)), (.int (((i1.toInt64) + (0 : Int64)).toInt32))]) (rest := []) (lenOf pd__II_Z rfl) rfl (by show 2 * 0 + _ ≤ _; exact Nat.le_of_eq rfl) (hb hby at_218) (fun _ _ => ⟨rfl, rfl, (by decide : 5 + 0 ≤ _), (by decide : 13 + 0 ≤ _)⟩)
        dsimp only [Pt.U, Pt.locs, Pt.cells, Pt.slots] at X32 l32 y32 z32 st32 hQ32
        subst l32 y32 z32
        obtain ⟨rfl, N32q, e32⟩ := hQ32
        have N32 := Fr.app N25 N32q
        refine OwnR.of (fun _ hr => st32.trans hr) ?_
        show OwnR _ _ _ _ _ _ _ (T32.setTop (mkF m 221 #[.val (.int p1), .val (.int p2), .val (.int p3), .val (.int p4), .val (.int p5), .val (.int p6), .val (.int i1), .val (.int i2), .val (.int (1 : Int32)), .val (.int (1 : Int32)), .val (.ref b21), .val (.long (i1.toInt64)), .second, .val (.long (2147483648 : Int64)), .second, .val (.long len), .second, .val (.long (0 : Int64)), .second, .val (.int (((i1.toInt64) + (0 : Int64)).toInt32)), .val (.int (1 : Int32))] [(.int (own_sp i1 (((i1.toInt64) + (0 : Int64)).toInt32)))]))
        refine OwnR.of (fun _ hr => XS.iload X32.here hx rfl (hb hby at_221) rfl hr) ?_
        show OwnR _ _ _ _ _ _ _ (T32.setTop (mkF m 223 #[.val (.int p1), .val (.int p2), .val (.int p3), .val (.int p4), .val (.int p5), .val (.int p6), .val (.int i1), .val (.int i2), .val (.int (1 : Int32)), .val (.int (1 : Int32)), .val (.ref b21), .val (.long (i1.toInt64)), .second, .val (.long (2147483648 : Int64)), .second, .val (.long len), .second, .val (.long (0 : Int64)), .second, .val (.int (((i1.toInt64) + (0 : Int64)).toInt32)), .val (.int (1 : Int32))] [(.int (1 : Int32)), (.int (own_sp i1 (((i1.toInt64) + (0 : Int64)).toInt32)))]))
        have hc223_33 : (own_sp i1 (((i1.toInt64) + (0 : Int64)).toInt32)) = (1 : Int32) := by
          refine Classical.byContradiction fun hbad => ?_
          exact hbad (own_fin0 i1 b1.1)
        refine OwnR.of (fun _ hr => XS.icmpNo X32.here hx rfl (hb hby at_223) rfl (teq hc223_33).2 hr) ?_
        show OwnR _ _ _ _ _ _ _ (T32.setTop (mkF m 226 #[.val (.int p1), .val (.int p2), .val (.int p3), .val (.int p4), .val (.int p5), .val (.int p6), .val (.int i1), .val (.int i2), .val (.int (1 : Int32)), .val (.int (1 : Int32)), .val (.ref b21), .val (.long (i1.toInt64)), .second, .val (.long (2147483648 : Int64)), .second, .val (.long len), .second, .val (.long (0 : Int64)), .second, .val (.int (((i1.toInt64) + (0 : Int64)).toInt32)), .val (.int (1 : Int32))] []))
        refine OwnR.of (fun _ hr => XS.iconst X32.here hx rfl (hb hby at_226) hr) ?_
        show OwnR _ _ _ _ _ _ _ (T32.setTop (mkF m 227 #[.val (.int p1), .val (.int p2), .val (.int p3), .val (.int p4), .val (.int p5), .val (.int p6), .val (.int i1), .val (.int i2), .val (.int (1 : Int32)), .val (.int (1 : Int32)), .val (.ref b21), .val (.long (i1.toInt64)), .second, .val (.long (2147483648 : Int64)), .second, .val (.long len), .second, .val (.long (0 : Int64)), .second, .val (.int (((i1.toInt64) + (0 : Int64)).toInt32)), .val (.int (1 : Int32))] [(.int (1 : Int32))]))
        refine OwnR.of (fun _ hr => XS.goto X32.here hx rfl (pc0 := 227) (pc' := 231) rfl (hb hby at_227) (by decide) (by decide) hr) ?_
        show OwnR _ _ _ _ _ _ _ (T32.setTop (mkF m 231 #[.val (.int p1), .val (.int p2), .val (.int p3), .val (.int p4), .val (.int p5), .val (.int p6), .val (.int i1), .val (.int i2), .val (.int (1 : Int32)), .val (.int (1 : Int32)), .val (.ref b21), .val (.long (i1.toInt64)), .second, .val (.long (2147483648 : Int64)), .second, .val (.long len), .second, .val (.long (0 : Int64)), .second, .val (.int (((i1.toInt64) + (0 : Int64)).toInt32)), .val (.int (1 : Int32))] [(.int (1 : Int32))]))
        refine own_leafN X32 hx hlk (t := .boolean) Bd.returns (by simp) (hb hby at_231) (z' := (1 : Int32)) rfl (by decide) (by decide) ?_
        show Q0 Z  h0 n0 _ T32.heap _
        rw [show T32.heap = T25.heap from e32]
        refine ⟨?_, N32⟩
        show (some (.int (1 : Int32)) : Option Value) = some (.int (1 : Int32))
        rfl
  · skip
    show OwnR _ _ _ _ _ _ _ (s₁.setTop (mkF m 27 #[.val (.int p1), .val (.int p2), .val (.int p3), .val (.int p4), .val (.int p5), .val (.int p6), .val (.int i1), .val (.int i2), .val (.int (2 : Int32)), .unset, .unset, .unset, .unset, .unset, .unset, .unset, .unset, .unset, .unset, .unset, .unset] []))
    refine OwnR.of (fun _ hr => XS.iloadN X0.here hx rfl (hb hby at_27) rfl hr) ?_
    show OwnR _ _ _ _ _ _ _ (s₁.setTop (mkF m 28 #[.val (.int p1), .val (.int p2), .val (.int p3), .val (.int p4), .val (.int p5), .val (.int p6), .val (.int i1), .val (.int i2), .val (.int (2 : Int32)), .unset, .unset, .unset, .unset, .unset, .unset, .unset, .unset, .unset, .unset, .unset, .unset] [(.int p4)]))
    refine OwnR.of (X0.ldcInt hx hown (mvT hZ (hw _ (List.mem_of_getElem? (i := 2) rfl))) (g := (mkF m 28 #[.val (.int p1), .val (.int p2), .val (.int p3), .val (.int p4), .val (.int p5), .val (.int p6), .val (.int i1), .val (.int i2), .val (.int (2 : Int32)), .unset, .unset, .unset, .unset, .unset, .unset, .unset, .unset, .unset, .unset, .unset, .unset] [(.int p4)])) rfl (hb hby at_28)) ?_
    show OwnR _ _ _ _ _ _ _ (s₁.setTop (mkF m 30 #[.val (.int p1), .val (.int p2), .val (.int p3), .val (.int p4), .val (.int p5), .val (.int p6), .val (.int i1), .val (.int i2), .val (.int (2 : Int32)), .unset, .unset, .unset, .unset, .unset, .unset, .unset, .unset, .unset, .unset, .unset, .unset] [(.int (2147483647 : Int32)), (.int p4)]))
    refine OwnR.of (fun _ hr => XS.iand X0.here hx rfl (hb hby at_30) rfl hr) ?_
    show OwnR _ _ _ _ _ _ _ (s₁.setTop (mkF m 31 #[.val (.int p1), .val (.int p2), .val (.int p3), .val (.int p4), .val (.int p5), .val (.int p6), .val (.int i1), .val (.int i2), .val (.int (2 : Int32)), .unset, .unset, .unset, .unset, .unset, .unset, .unset, .unset, .unset, .unset, .unset, .unset] [(.int (p4 &&& (2147483647 : Int32)))]))
    refine OwnR.of (fun _ hr => XS.iload X0.here hx rfl (hb hby at_31) rfl hr) ?_
    show OwnR _ _ _ _ _ _ _ (s₁.setTop (mkF m 33 #[.val (.int p1), .val (.int p2), .val (.int p3), .val (.int p4), .val (.int p5), .val (.int p6), .val (.int i1), .val (.int i2), .val (.int (2 : Int32)), .unset, .unset, .unset, .unset, .unset, .unset, .unset, .unset, .unset, .unset, .unset, .unset] [(.int (2 : Int32)), (.int (p4 &&& (2147483647 : Int32)))]))
    refine OwnR.of (fun _ hr => XS.iconst X0.here hx rfl (hb hby at_33) hr) ?_
    show OwnR _ _ _ _ _ _ _ (s₁.setTop (mkF m 34 #[.val (.int p1), .val (.int p2), .val (.int p3), .val (.int p4), .val (.int p5), .val (.int p6), .val (.int i1), .val (.int i2), .val (.int (2 : Int32)), .unset, .unset, .unset, .unset, .unset, .unset, .unset, .unset, .unset, .unset, .unset, .unset] [(.int (1 : Int32)), (.int (2 : Int32)), (.int (p4 &&& (2147483647 : Int32)))]))
    refine OwnR.of (fun _ hr => XS.iadd X0.here hx rfl (hb hby at_34) rfl hr) ?_
    show OwnR _ _ _ _ _ _ _ (s₁.setTop (mkF m 35 #[.val (.int p1), .val (.int p2), .val (.int p3), .val (.int p4), .val (.int p5), .val (.int p6), .val (.int i1), .val (.int i2), .val (.int (2 : Int32)), .unset, .unset, .unset, .unset, .unset, .unset, .unset, .unset, .unset, .unset, .unset, .unset] [(.int ((2 : Int32) + (1 : Int32))), (.int (p4 &&& (2147483647 : Int32)))]))
    rw [(by decide : ((2 : Int32) + (1 : Int32)) = (3 : Int32))]
    show OwnR _ _ _ _ _ _ _ (s₁.setTop (mkF m 35 #[.val (.int p1), .val (.int p2), .val (.int p3), .val (.int p4), .val (.int p5), .val (.int p6), .val (.int i1), .val (.int i2), .val (.int (2 : Int32)), .unset, .unset, .unset, .unset, .unset, .unset, .unset, .unset, .unset, .unset, .unset, .unset] [(.int (3 : Int32)), (.int (p4 &&& (2147483647 : Int32)))]))
    refine OwnR.of (fun _ hr => iremM X0 hx rfl (hb hby at_35) rfl (by decide) hr) ?_
    show OwnR _ _ _ _ _ _ _ (s₁.setTop (mkF m 36 #[.val (.int p1), .val (.int p2), .val (.int p3), .val (.int p4), .val (.int p5), .val (.int p6), .val (.int i1), .val (.int i2), .val (.int (2 : Int32)), .unset, .unset, .unset, .unset, .unset, .unset, .unset, .unset, .unset, .unset, .unset, .unset] [(.int ((p4 &&& (2147483647 : Int32)) % (3 : Int32)))]))
    refine OwnR.of (fun _ hr => XS.istore X0.here hx rfl (hb hby at_36) rfl (l' := #[.val (.int p1), .val (.int p2), .val (.int p3), .val (.int p4), .val (.int p5), .val (.int p6), .val (.int i1), .val (.int i2), .val (.int (2 : Int32)), .val (.int ((p4 &&& (2147483647 : Int32)) % (3 : Int32))), .unset, .unset, .unset, .unset, .unset, .unset, .unset, .unset, .unset, .unset, .unset]) rfl hr) ?_
    show OwnR _ _ _ _ _ _ _ (s₁.setTop (mkF m 38 #[.val (.int p1), .val (.int p2), .val (.int p3), .val (.int p4), .val (.int p5), .val (.int p6), .val (.int i1), .val (.int i2), .val (.int (2 : Int32)), .val (.int ((p4 &&& (2147483647 : Int32)) % (3 : Int32))), .unset, .unset, .unset, .unset, .unset, .unset, .unset, .unset, .unset, .unset, .unset] []))
    obtain ⟨pg, hpg⟩ : ∃ z : Int32, z = ((p4 &&& (2147483647 : Int32)) % (3 : Int32)) := ⟨_, rfl⟩
    rw [← hpg]
    show OwnR _ _ _ _ _ _ _ (s₁.setTop (mkF m 38 #[.val (.int p1), .val (.int p2), .val (.int p3), .val (.int p4), .val (.int p5), .val (.int p6), .val (.int i1), .val (.int i2), .val (.int (2 : Int32)), .val (.int pg), .unset, .unset, .unset, .unset, .unset, .unset, .unset, .unset, .unset, .unset, .unset] []))
    have hpgs : pg = (0 : Int32) ∨ pg = (1 : Int32) ∨ pg = (2 : Int32) := by rw [hpg]; exact own_m3 p4
    rcases hpgs with rfl | rfl | rfl
    · skip
      show OwnR _ _ _ _ _ _ _ (s₁.setTop (mkF m 38 #[.val (.int p1), .val (.int p2), .val (.int p3), .val (.int p4), .val (.int p5), .val (.int p6), .val (.int i1), .val (.int i2), .val (.int (2 : Int32)), .val (.int (0 : Int32)), .unset, .unset, .unset, .unset, .unset, .unset, .unset, .unset, .unset, .unset, .unset] []))
      obtain ⟨T34, h34, X34, e34, E34, A34, D34, -, st34⟩ := newO X0 hx hZ hown (hw _ (List.mem_of_getElem? (i := 3) rfl)) (hw _ (List.mem_of_getElem? (i := 4) rfl)) (hw _ (List.mem_of_getElem? (i := 5) rfl)) e0 (g := (mkF m 38 #[.val (.int p1), .val (.int p2), .val (.int p3), .val (.int p4), .val (.int p5), .val (.int p6), .val (.int i1), .val (.int i2), .val (.int (2 : Int32)), .val (.int (0 : Int32)), .unset, .unset, .unset, .unset, .unset, .unset, .unset, .unset, .unset, .unset, .unset] [])) rfl (hb hby at_38) (by decide) (by decide)
      obtain ⟨b34, g34⟩ : ∃ z, z = h0.size := ⟨_, rfl⟩
      rw [← g34] at A34 D34 st34
      refine OwnR.of (st34) ?_
      have gn_b34 : n0 ≤ b34 := Nat.le_trans (Nat.le_trans Z0 (Keep.refl h0 []).1) (Nat.le_of_eq g34.symm)
      have sz_b34 : h0.size ≤ b34 := Nat.le_trans (Keep.refl h0 []).1 (Nat.le_of_eq g34.symm)
      have K34 : Keep h0 h34 [] := Keep.ext (Keep.refl h0 []) E34
      have F_pageLength_b34 : Fld Z h34 b34 "com/example/tercet/tercet/core/Pages" "pageLength" "I" (.int (0 : Int32)) := D34 (Or.inr (hw _ (List.mem_of_getElem? (i := 20) rfl))) (ty := .int) (by decide)
      have F_limit_b34 : Fld Z h34 b34 "com/example/tercet/tercet/core/Pages" "limit" "I" (.int (0 : Int32)) := D34 (Or.inl (hw _ (List.mem_of_getElem? (i := 22) rfl))) (ty := .int) (by decide)
      have F_last_b34 : Fld Z h34 b34 "com/example/tercet/tercet/core/Pages" "last" "Ljava/lang/Object;" .null := D34 (Or.inl (hw _ (List.mem_of_getElem? (i := 24) rfl))) (ty := (.object "java/lang/Object")) (by decide)
      have F_pages_b34 : Fld Z h34 b34 "com/example/tercet/tercet/core/Pages" "pages" "[Ljava/lang/Object;" .null := D34 (Or.inl (hw _ (List.mem_of_getElem? (i := 29) rfl))) (ty := (.array (.object "java/lang/Object"))) (by decide)
      have F_firsts_b34 : Fld Z h34 b34 "com/example/tercet/tercet/core/Pages" "firsts" "[I" .null := D34 (Or.inl (hw _ (List.mem_of_getElem? (i := 32) rfl))) (ty := (.array .int)) (by decide)
      have F_count_b34 : Fld Z h34 b34 "com/example/tercet/tercet/core/Pages" "count" "I" (.int (0 : Int32)) := D34 (Or.inl (hw _ (List.mem_of_getElem? (i := 34) rfl))) (ty := .int) (by decide)
      show OwnR _ _ _ _ _ _ _ (T34.setTop (mkF m 41 #[.val (.int p1), .val (.int p2), .val (.int p3), .val (.int p4), .val (.int p5), .val (.int p6), .val (.int i1), .val (.int i2), .val (.int (2 : Int32)), .val (.int (0 : Int32)), .unset, .unset, .unset, .unset, .unset, .unset, .unset, .unset, .unset, .unset, .unset] [(.ref b34)]))
      refine OwnR.of (fun _ hr => XS.dup X34.here hx rfl (hb hby at_41) rfl rfl hr) ?_
      show OwnR _ _ _ _ _ _ _ (T34.setTop (mkF m 42 #[.val (.int p1), .val (.int p2), .val (.int p3), .val (.int p4), .val (.int p5), .val (.int p6), .val (.int i1), .val (.int i2), .val (.int (2 : Int32)), .val (.int (0 : Int32)), .unset, .unset, .unset, .unset, .unset, .unset, .unset, .unset, .unset, .unset, .unset] [(.ref b34), (.ref b34)]))
      refine OwnR.of (fun _ hr => XS.iconst X34.here hx rfl (hb hby at_42) hr) ?_
      show OwnR _ _ _ _ _ _ _ (T34.setTop (mkF m 43 #[.val (.int p1), .val (.int p2), .val (.int p3), .val (.int p4), .val (.int p5), .val (.int p6), .val (.int i1), .val (.int i2), .val (.int (2 : Int32)), .val (.int (0 : Int32)), .unset, .unset, .unset, .unset, .unset, .unset, .unset, .unset, .unset, .unset, .unset] [(.int (0 : Int32)), (.ref b34), (.ref b34)]))
      obtain ⟨_, _, ⟨T35, L35, kc35, ns35⟩, -, X35, ⟨Lc35, hQ35, l35, y35, z35⟩, st35⟩ := Jvm.LawKit.callS X34 hx (y := (⟨"java/lang/Integer", "valueOf", "(I)Ljava/lang/Integer;"⟩ : MethodName)) hown (mvT hZ (hw _ (List.mem_of_getElem? (i := 6) rfl))) (mvT hZ (hw _ (List.mem_of_getElem? (i := 7) rfl))) (mvT hZ (hw _ (List.mem_of_getElem? (i := 8) rfl))) (mvT hZ (hw _ (List.mem_of_getElem? (i := 9) rfl))) (by decide) (backOf (W := 2) (rmV_0 l Z a0 hw [] sc cc iv0 iv1 iv2 h34 n0 (Nat.le_trans Z0 K34.1) (own_sta S_high K34) (own_sta S_cache K34) (own_arr Ar_sc K34 nin0) hin0 hin1 hin2 hat0 hat1 hat2) hZ (hw _ (List.mem_of_getElem? (i := 9) rfl)) (hw _ (List.mem_of_getElem? (i := 8) rfl)) (by decide) (by decide)) (g := (mkF m 43 #[.val (.int p1), .val (.int p2), .val (.int p3), .val (.int p4), .val (.int p5), .val (.int p6), .val (.int i1), .val (.int i2), .val (.int (2 : Int32)), .val (.int (0 : Int32)), .unset, .unset, .unset, .unset, .unset, .unset, .unset, .unset, .unset, .unset, .unset] [(.int (0 : Int32)), (.ref b34), (.ref b34)])) rfl (by rw [hml]; rfl) (argsL := [(.int (0 : Int32))]) (rest := [(.ref b34), (.ref b34)]) (lenOf pd__I_Ljava_lang_Integer_ rfl) rfl (by show 2 * 0 + _ ≤ _; exact Nat.le_of_eq rfl) (hb hby at_43) (fun _ _ => ⟨rfl, e34, (by decide : 1 + 0 ≤ _), (by decide : 7 + 0 ≤ _)⟩)
      dsimp only [Pt.U, Pt.locs, Pt.cells, Pt.slots] at X35 l35 y35 z35 st35 hQ35
      subst l35 y35 z35
      obtain ⟨rfl, N35q, e35⟩ := hQ35
      have N35 := Fr.app N0 N35q
      refine OwnR.of (st35) ?_
      show OwnR _ _ _ _ _ _ _ (T35.setTop (mkF m 46 #[.val (.int p1), .val (.int p2), .val (.int p3), .val (.int p4), .val (.int p5), .val (.int p6), .val (.int i1), .val (.int i2), .val (.int (2 : Int32)), .val (.int (0 : Int32)), .unset, .unset, .unset, .unset, .unset, .unset, .unset, .unset, .unset, .unset, .unset] [(.ref iv0), (.ref b34), (.ref b34)]))
      refine OwnR.of (fun _ hr => XS.iconst X35.here hx rfl (hb hby at_46) hr) ?_
      show OwnR _ _ _ _ _ _ _ (T35.setTop (mkF m 47 #[.val (.int p1), .val (.int p2), .val (.int p3), .val (.int p4), .val (.int p5), .val (.int p6), .val (.int i1), .val (.int i2), .val (.int (2 : Int32)), .val (.int (0 : Int32)), .unset, .unset, .unset, .unset, .unset, .unset, .unset, .unset, .unset, .unset, .unset] [(.int (4 : Int32)), (.ref iv0), (.ref b34), (.ref b34)]))
      refine OwnR.of (fun _ hr => XS.iconst X35.here hx rfl (hb hby at_47) hr) ?_
      show OwnR _ _ _ _ _ _ _ (T35.setTop (mkF m 48 #[.val (.int p1), .val (.int p2), .val (.int p3), .val (.int p4), .val (.int p5), .val (.int p6), .val (.int i1), .val (.int i2), .val (.int (2 : Int32)), .val (.int (0 : Int32)), .unset, .unset, .unset, .unset, .unset, .unset, .unset, .unset, .unset, .unset, .unset] [(.int (2 : Int32)), (.int (4 : Int32)), (.ref iv0), (.ref b34), (.ref b34)]))
      obtain ⟨_, _, ⟨T36, L36, kc36, ns36⟩, -, X36, ⟨Lc36, hQ36, l36, y36, z36⟩, st36⟩ := X35.specialBack hx (y := (⟨"com/example/tercet/tercet/core/Pages", "<init>", "(Ljava/lang/Object;II)V"⟩ : MethodName)) rfl hown (mvT hZ (hw _ (List.mem_of_getElem? (i := 13) rfl))) (mvT hZ (hw _ (List.mem_of_getElem? (i := 14) rfl))) (mvT hZ (hw _ (List.mem_of_getElem? (i := 15) rfl))) (by decide) (backOf (W := 1) (rmI l Z a0 hw [] b34 iv0 (4 : Int32) (2 : Int32) h34 n0 (Nat.le_trans Z0 K34.1) A34 F_pageLength_b34 F_limit_b34 F_last_b34 F_pages_b34 F_firsts_b34 F_count_b34 (Exa.keep E_iv0 K34) gn_b34) hZ (hw _ (List.mem_of_getElem? (i := 15) rfl)) (hw _ (List.mem_of_getElem? (i := 5) rfl)) (by decide) (by decide)) (g := (mkF m 48 #[.val (.int p1), .val (.int p2), .val (.int p3), .val (.int p4), .val (.int p5), .val (.int p6), .val (.int i1), .val (.int i2), .val (.int (2 : Int32)), .val (.int (0 : Int32)), .unset, .unset, .unset, .unset, .unset, .unset, .unset, .unset, .unset, .unset, .unset] [(.int (2 : Int32)), (.int (4 : Int32)), (.ref iv0), (.ref b34), (.ref b34)])) rfl (by rw [hml]; rfl) (Steps.refl _) (a := b34) (argsL := [(.ref iv0), (.int (4 : Int32)), (.int (2 : Int32))]) (rest := [(.ref b34)]) (lenOf pd__Ljava_lang_Object_II_V rfl) rfl (by show 2 * 0 + _ ≤ _; exact Nat.le_of_eq rfl) (hb hby at_48) (fun _ _ => ⟨rfl, e35, (by decide : 1 + 2 ≤ _), (by decide : 7 + 2 ≤ _)⟩)
      dsimp only [Pt.U, Pt.locs, Pt.cells, Pt.slots] at X36 l36 y36 z36 st36 hQ36
      subst l36 y36 z36
      obtain ⟨b_36, kb_36, c_36, kc_36, rfl, N36q, P36_0, P36_1, P36_2, P36_3, P36_4, P36_5, P36_6, P36_7, P36_8, P36_9, P36_10, P36_11, P36_12, P36_13, P36_14⟩ := hQ36
      have K36 : Keep h0 T36.heap [] := Keep.trans K34 P36_0 (allS (Or.inr sz_b34) all0)
      have sz_b_36 : h0.size ≤ b_36 := Nat.le_trans K34.1 P36_11
      have sz_c_36 : h0.size ≤ c_36 := Nat.le_trans K34.1 P36_13
      have N36 := Fr.app N35 N36q
      refine OwnR.of (fun _ hr => st36.trans hr) ?_
      show OwnR _ _ _ _ _ _ _ (T36.setTop (mkF m 51 #[.val (.int p1), .val (.int p2), .val (.int p3), .val (.int p4), .val (.int p5), .val (.int p6), .val (.int i1), .val (.int i2), .val (.int (2 : Int32)), .val (.int (0 : Int32)), .unset, .unset, .unset, .unset, .unset, .unset, .unset, .unset, .unset, .unset, .unset] [(.ref b34)]))
      refine OwnR.of (fun _ hr => XS.astore X36.here hx rfl (hb hby at_51) rfl rfl (l' := #[.val (.int p1), .val (.int p2), .val (.int p3), .val (.int p4), .val (.int p5), .val (.int p6), .val (.int i1), .val (.int i2), .val (.int (2 : Int32)), .val (.int (0 : Int32)), .val (.ref b34), .unset, .unset, .unset, .unset, .unset, .unset, .unset, .unset, .unset, .unset]) rfl hr) ?_
      show OwnR _ _ _ _ _ _ _ (T36.setTop (mkF m 53 #[.val (.int p1), .val (.int p2), .val (.int p3), .val (.int p4), .val (.int p5), .val (.int p6), .val (.int i1), .val (.int i2), .val (.int (2 : Int32)), .val (.int (0 : Int32)), .val (.ref b34), .unset, .unset, .unset, .unset, .unset, .unset, .unset, .unset, .unset, .unset] []))
      refine OwnR.of (fun _ hr => XS.iload X36.here hx rfl (hb hby at_53) rfl hr) ?_
      show OwnR _ _ _ _ _ _ _ (T36.setTop (mkF m 55 #[.val (.int p1), .val (.int p2), .val (.int p3), .val (.int p4), .val (.int p5), .val (.int p6), .val (.int i1), .val (.int i2), .val (.int (2 : Int32)), .val (.int (0 : Int32)), .val (.ref b34), .unset, .unset, .unset, .unset, .unset, .unset, .unset, .unset, .unset, .unset] [(.int (2 : Int32))]))
      refine OwnR.of (fun _ hr => XS.iconst X36.here hx rfl (hb hby at_55) hr) ?_
      show OwnR _ _ _ _ _ _ _ (T36.setTop (mkF m 56 #[.val (.int p1), .val (.int p2), .val (.int p3), .val (.int p4), .val (.int p5), .val (.int p6), .val (.int i1), .val (.int i2), .val (.int (2 : Int32)), .val (.int (0 : Int32)), .val (.ref b34), .unset, .unset, .unset, .unset, .unset, .unset, .unset, .unset, .unset, .unset] [(.int (1 : Int32)), (.int (2 : Int32))]))
      refine OwnR.of (fun _ hr => XS.icmpNo X36.here hx rfl (hb hby at_56) rfl (flt (by decide : ¬ ((2 : Int32) < (1 : Int32)))).1 hr) ?_
      show OwnR _ _ _ _ _ _ _ (T36.setTop (mkF m 59 #[.val (.int p1), .val (.int p2), .val (.int p3), .val (.int p4), .val (.int p5), .val (.int p6), .val (.int i1), .val (.int i2), .val (.int (2 : Int32)), .val (.int (0 : Int32)), .val (.ref b34), .unset, .unset, .unset, .unset, .unset, .unset, .unset, .unset, .unset, .unset] []))
      refine OwnR.of (fun _ hr => XS.aload X36.here hx rfl (hb hby at_59) rfl rfl hr) ?_
      show OwnR _ _ _ _ _ _ _ (T36.setTop (mkF m 61 #[.val (.int p1), .val (.int p2), .val (.int p3), .val (.int p4), .val (.int p5), .val (.int p6), .val (.int i1), .val (.int i2), .val (.int (2 : Int32)), .val (.int (0 : Int32)), .val (.ref b34), .unset, .unset, .unset, .unset, .unset, .unset, .unset, .unset, .unset, .unset] [(.ref b34)]))
      refine OwnR.of (fun _ hr => XS.iload X36.here hx rfl (hb hby at_61) rfl hr) ?_
      show OwnR _ _ _ _ _ _ _ (T36.setTop (mkF m 63 #[.val (.int p1), .val (.int p2), .val (.int p3), .val (.int p4), .val (.int p5), .val (.int p6), .val (.int i1), .val (.int i2), .val (.int (2 : Int32)), .val (.int (0 : Int32)), .val (.ref b34), .unset, .unset, .unset, .unset, .unset, .unset, .unset, .unset, .unset, .unset] [(.int i1), (.ref b34)]))
      refine OwnR.of (fun _ hr => XS.iconst X36.here hx rfl (hb hby at_63) hr) ?_
      show OwnR _ _ _ _ _ _ _ (T36.setTop (mkF m 64 #[.val (.int p1), .val (.int p2), .val (.int p3), .val (.int p4), .val (.int p5), .val (.int p6), .val (.int i1), .val (.int i2), .val (.int (2 : Int32)), .val (.int (0 : Int32)), .val (.ref b34), .unset, .unset, .unset, .unset, .unset, .unset, .unset, .unset, .unset, .unset] [(.int (1 : Int32)), (.int i1), (.ref b34)]))
      obtain ⟨_, _, ⟨T37, L37, kc37, ns37⟩, -, X37, ⟨Lc37, hQ37, l37, y37, z37⟩, st37⟩ := Jvm.LawKit.callS X36 hx (y := (⟨"java/lang/Integer", "valueOf", "(I)Ljava/lang/Integer;"⟩ : MethodName)) hown (mvT hZ (hw _ (List.mem_of_getElem? (i := 6) rfl))) (mvT hZ (hw _ (List.mem_of_getElem? (i := 7) rfl))) (mvT hZ (hw _ (List.mem_of_getElem? (i := 8) rfl))) (mvT hZ (hw _ (List.mem_of_getElem? (i := 9) rfl))) (by decide) (backOf (W := 2) (rmV_1 l Z a0 hw [] sc cc iv0 iv1 iv2 (T36.heap) n0 (Nat.le_trans Z0 K36.1) (own_sta S_high K36) (own_sta S_cache K36) (own_arr Ar_sc K36 nin0) hin0 hin1 hin2 hat0 hat1 hat2) hZ (hw _ (List.mem_of_getElem? (i := 9) rfl)) (hw _ (List.mem_of_getElem? (i := 8) rfl)) (by decide) (by decide)) (g := (mkF m 64 #[.val (.int p1), .val (.int p2), .val (.int p3), .val (.int p4), .val (.int p5), .val (.int p6), .val (.int i1), .val (.int i2), .val (.int (2 : Int32)), .val (.int (0 : Int32)), .val (.ref b34), .unset, .unset, .unset, .unset, .unset, .unset, .unset, .unset, .unset, .unset] [(.int (1 : Int32)), (.int i1), (.ref b34)])) rfl (by rw [hml]; rfl) (argsL := [(.int (1 : Int32))]) (rest := [(.int i1), (.ref b34)]) (lenOf pd__I_Ljava_lang_Integer_ rfl) rfl (by show 2 * 0 + _ ≤ _; exact Nat.le_of_eq rfl) (hb hby at_64) (fun _ _ => ⟨rfl, rfl, (by decide : 3 + 0 ≤ _), (by decide : 9 + 0 ≤ _)⟩)
      dsimp only [Pt.U, Pt.locs, Pt.cells, Pt.slots] at X37 l37 y37 z37 st37 hQ37
      subst l37 y37 z37
      obtain ⟨rfl, N37q, e37⟩ := hQ37
      have N37 := Fr.app N36 N37q
      refine OwnR.of (st37) ?_
      show OwnR _ _ _ _ _ _ _ (T37.setTop (mkF m 67 #[.val (.int p1), .val (.int p2), .val (.int p3), .val (.int p4), .val (.int p5), .val (.int p6), .val (.int i1), .val (.int i2), .val (.int (2 : Int32)), .val (.int (0 : Int32)), .val (.ref b34), .unset, .unset, .unset, .unset, .unset, .unset, .unset, .unset, .unset, .unset] [(.ref iv1), (.int i1), (.ref b34)]))
      obtain ⟨cq38, kq38, q38a, q38b, q38c⟩ := isOf hZ e37 P36_1
      obtain ⟨_, _, ⟨T38, L38, kc38, ns38⟩, -, X38, ⟨Lc38, hQ38, l38, y38, z38⟩, st38⟩ := X37.virtualBack hx (y := (⟨"com/example/tercet/tercet/core/Pages", "turn", "(ILjava/lang/Object;)V"⟩ : MethodName)) (z := (⟨"com/example/tercet/tercet/core/Pages", "turn", "(ILjava/lang/Object;)V"⟩ : MethodName)) hown (mvT hZ (hw _ (List.mem_of_getElem? (i := 35) rfl))) (mvT hZ (hw _ (List.mem_of_getElem? (i := 36) rfl))) (notFace_of_selects (args := #[]) (mvT hZ (hw _ (List.mem_of_getElem? (i := 38) rfl)))) (mvT hZ (hw _ (List.mem_of_getElem? (i := 38) rfl))) (mvT hZ (hw _ (List.mem_of_getElem? (i := 37) rfl))) (by decide) (backOf (W := 0) (rmT_1 l Z a0 hw [] b34 i1 iv1 (2 : Int32) (4 : Int32) iv0 b_36 c_36 kb_36 kc_36 iv0 (0 : Int32) mo (T36.heap) n0 (Nat.le_trans Z0 K36.1) P36_1 P36_2 P36_3 P36_4 P36_5 P36_6 P36_7 P36_8 P36_10 P36_9 (Exa.keep E_iv1 K36) (Exa.keep E_iv0 K36) M_mo gn_b34 (Nat.ne_of_lt (Nat.lt_of_lt_of_le A34.lt P36_11)) (Nat.ne_of_lt (Nat.lt_of_lt_of_le A34.lt P36_13))) hZ (hw _ (List.mem_of_getElem? (i := 39) rfl)) (hw _ (List.mem_of_getElem? (i := 5) rfl)) (by decide) (by decide)) q38a q38c (g := (mkF m 67 #[.val (.int p1), .val (.int p2), .val (.int p3), .val (.int p4), .val (.int p5), .val (.int p6), .val (.int i1), .val (.int i2), .val (.int (2 : Int32)), .val (.int (0 : Int32)), .val (.ref b34), .unset, .unset, .unset, .unset, .unset, .unset, .unset, .unset, .unset, .unset] [(.ref iv1), (.int i1), (.ref b34)])) rfl (by rw [hml]; rfl) (Steps.refl _) (argsL := [(.int i1), (.ref iv1)]) (rest := []) (lenOf pd__ILjava_lang_Object__V rfl) rfl (by show 2 * 0 + _ ≤ _; exact Nat.le_of_eq rfl) (hb hby at_67) (fun _ _ => ⟨rfl, e37, (by decide : 3 + 2 ≤ _), (by decide : 9 + 4 ≤ _)⟩)
      dsimp only [Pt.U, Pt.locs, Pt.cells, Pt.slots] at X38 l38 y38 z38 st38 hQ38
      subst l38 y38 z38
      obtain ⟨b_38, kb_38, c_38, kc_38, rfl, N38q, P38_0, P38_1, P38_2, P38_3, P38_4, P38_5, P38_6, P38_7, P38_8, P38_9, P38_10, P38_11, P38_12, P38_13, P38_14, P38_15⟩ := hQ38
      have K38 : Keep h0 T38.heap [] := Keep.trans K36 P38_0 (allS (Or.inr sz_b34) all0)
      have sz_b_38 : h0.size ≤ b_38 := Nat.le_trans K36.1 P38_12
      have sz_c_38 : h0.size ≤ c_38 := Nat.le_trans K36.1 P38_14
      have N38 := Fr.app N37 N38q
      refine OwnR.of (fun _ hr => st38.trans hr) ?_
      show OwnR _ _ _ _ _ _ _ (T38.setTop (mkF m 70 #[.val (.int p1), .val (.int p2), .val (.int p3), .val (.int p4), .val (.int p5), .val (.int p6), .val (.int i1), .val (.int i2), .val (.int (2 : Int32)), .val (.int (0 : Int32)), .val (.ref b34), .unset, .unset, .unset, .unset, .unset, .unset, .unset, .unset, .unset, .unset] []))
      refine OwnR.of (fun _ hr => XS.iload X38.here hx rfl (hb hby at_70) rfl hr) ?_
      show OwnR _ _ _ _ _ _ _ (T38.setTop (mkF m 72 #[.val (.int p1), .val (.int p2), .val (.int p3), .val (.int p4), .val (.int p5), .val (.int p6), .val (.int i1), .val (.int i2), .val (.int (2 : Int32)), .val (.int (0 : Int32)), .val (.ref b34), .unset, .unset, .unset, .unset, .unset, .unset, .unset, .unset, .unset, .unset] [(.int (2 : Int32))]))
      refine OwnR.of (fun _ hr => XS.iconst X38.here hx rfl (hb hby at_72) hr) ?_
      show OwnR _ _ _ _ _ _ _ (T38.setTop (mkF m 73 #[.val (.int p1), .val (.int p2), .val (.int p3), .val (.int p4), .val (.int p5), .val (.int p6), .val (.int i1), .val (.int i2), .val (.int (2 : Int32)), .val (.int (0 : Int32)), .val (.ref b34), .unset, .unset, .unset, .unset, .unset, .unset, .unset, .unset, .unset, .unset] [(.int (2 : Int32)), (.int (2 : Int32))]))
      refine OwnR.of (fun _ hr => XS.icmpNo X38.here hx rfl (hb hby at_73) rfl (flt (by decide : ¬ ((2 : Int32) < (2 : Int32)))).1 hr) ?_
      show OwnR _ _ _ _ _ _ _ (T38.setTop (mkF m 76 #[.val (.int p1), .val (.int p2), .val (.int p3), .val (.int p4), .val (.int p5), .val (.int p6), .val (.int i1), .val (.int i2), .val (.int (2 : Int32)), .val (.int (0 : Int32)), .val (.ref b34), .unset, .unset, .unset, .unset, .unset, .unset, .unset, .unset, .unset, .unset] []))
      refine OwnR.of (fun _ hr => XS.aload X38.here hx rfl (hb hby at_76) rfl rfl hr) ?_
      show OwnR _ _ _ _ _ _ _ (T38.setTop (mkF m 78 #[.val (.int p1), .val (.int p2), .val (.int p3), .val (.int p4), .val (.int p5), .val (.int p6), .val (.int i1), .val (.int i2), .val (.int (2 : Int32)), .val (.int (0 : Int32)), .val (.ref b34), .unset, .unset, .unset, .unset, .unset, .unset, .unset, .unset, .unset, .unset] [(.ref b34)]))
      refine OwnR.of (fun _ hr => XS.iload X38.here hx rfl (hb hby at_78) rfl hr) ?_
      show OwnR _ _ _ _ _ _ _ (T38.setTop (mkF m 80 #[.val (.int p1), .val (.int p2), .val (.int p3), .val (.int p4), .val (.int p5), .val (.int p6), .val (.int i1), .val (.int i2), .val (.int (2 : Int32)), .val (.int (0 : Int32)), .val (.ref b34), .unset, .unset, .unset, .unset, .unset, .unset, .unset, .unset, .unset, .unset] [(.int i2), (.ref b34)]))
      refine OwnR.of (fun _ hr => XS.iconst X38.here hx rfl (hb hby at_80) hr) ?_
      show OwnR _ _ _ _ _ _ _ (T38.setTop (mkF m 81 #[.val (.int p1), .val (.int p2), .val (.int p3), .val (.int p4), .val (.int p5), .val (.int p6), .val (.int i1), .val (.int i2), .val (.int (2 : Int32)), .val (.int (0 : Int32)), .val (.ref b34), .unset, .unset, .unset, .unset, .unset, .unset, .unset, .unset, .unset, .unset] [(.int (2 : Int32)), (.int i2), (.ref b34)]))
      obtain ⟨_, _, ⟨T39, L39, kc39, ns39⟩, -, X39, ⟨Lc39, hQ39, l39, y39, z39⟩, st39⟩ := Jvm.LawKit.callS X38 hx (y := (⟨"java/lang/Integer", "valueOf", "(I)Ljava/lang/Integer;"⟩ : MethodName)) hown (mvT hZ (hw _ (List.mem_of_getElem? (i := 6) rfl))) (mvT hZ (hw _ (List.mem_of_getElem? (i := 7) rfl))) (mvT hZ (hw _ (List.mem_of_getElem? (i := 8) rfl))) (mvT hZ (hw _ (List.mem_of_getElem? (i := 9) rfl))) (by decide) (backOf (W := 2) (rmV_2 l Z a0 hw [] sc cc iv0 iv1 iv2 (T38.heap) n0 (Nat.le_trans Z0 K38.1) (own_sta S_high K38) (own_sta S_cache K38) (own_arr Ar_sc K38 nin0) hin0 hin1 hin2 hat0 hat1 hat2) hZ (hw _ (List.mem_of_getElem? (i := 9) rfl)) (hw _ (List.mem_of_getElem? (i := 8) rfl)) (by decide) (by decide)) (g := (mkF m 81 #[.val (.int p1), .val (.int p2), .val (.int p3), .val (.int p4), .val (.int p5), .val (.int p6), .val (.int i1), .val (.int i2), .val (.int (2 : Int32)), .val (.int (0 : Int32)), .val (.ref b34), .unset, .unset, .unset, .unset, .unset, .unset, .unset, .unset, .unset, .unset] [(.int (2 : Int32)), (.int i2), (.ref b34)])) rfl (by rw [hml]; rfl) (argsL := [(.int (2 : Int32))]) (rest := [(.int i2), (.ref b34)]) (lenOf pd__I_Ljava_lang_Integer_ rfl) rfl (by show 2 * 0 + _ ≤ _; exact Nat.le_of_eq rfl) (hb hby at_81) (fun _ _ => ⟨rfl, rfl, (by decide : 5 + 0 ≤ _), (by decide : 13 + 0 ≤ _)⟩)
      dsimp only [Pt.U, Pt.locs, Pt.cells, Pt.slots] at X39 l39 y39 z39 st39 hQ39
      subst l39 y39 z39
      obtain ⟨rfl, N39q, e39⟩ := hQ39
      have N39 := Fr.app N38 N39q
      refine OwnR.of (st39) ?_
      show OwnR _ _ _ _ _ _ _ (T39.setTop (mkF m 84 #[.val (.int p1), .val (.int p2), .val (.int p3), .val (.int p4), .val (.int p5), .val (.int p6), .val (.int i1), .val (.int i2), .val (.int (2 : Int32)), .val (.int (0 : Int32)), .val (.ref b34), .unset, .unset, .unset, .unset, .unset, .unset, .unset, .unset, .unset, .unset] [(.ref iv2), (.int i2), (.ref b34)]))
      obtain ⟨cq40, kq40, q40a, q40b, q40c⟩ := isOf hZ e39 P38_1
      obtain ⟨_, _, ⟨T40, L40, kc40, ns40⟩, -, X40, ⟨Lc40, hQ40, l40, y40, z40⟩, st40⟩ := X39.virtualBack hx (y := (⟨"com/example/tercet/tercet/core/Pages", "turn", "(ILjava/lang/Object;)V"⟩ : MethodName)) (z := (⟨"com/example/tercet/tercet/core/Pages", "turn", "(ILjava/lang/Object;)V"⟩ : MethodName)) hown (mvT hZ (hw _ (List.mem_of_getElem? (i := 35) rfl))) (mvT hZ (hw _ (List.mem_of_getElem? (i := 36) rfl))) (notFace_of_selects (args := #[]) (mvT hZ (hw _ (List.mem_of_getElem? (i := 38) rfl)))) (mvT hZ (hw _ (List.mem_of_getElem? (i := 38) rfl))) (mvT hZ (hw _ (List.mem_of_getElem? (i := 37) rfl))) (by decide) (backOf (W := 0) (rmT_2 l Z a0 hw [] b34 i2 iv2 (2 : Int32) (2 : Int32) iv1 b_38 c_38 kb_38 kc_38 iv0 iv1 (0 : Int32) i1 mo (T38.heap) n0 (Nat.le_trans Z0 K38.1) P38_1 P38_2 P38_3 P38_4 P38_5 P38_6 P38_7 P38_8 P38_11 P38_10 (Exa.keep E_iv2 K38) (Exa.keep E_iv0 K38) (Exa.keep E_iv1 K38) M_mo gn_b34 (Nat.ne_of_lt (Nat.lt_of_lt_of_le (A34.keep P36_0).lt P38_12)) (Nat.ne_of_lt (Nat.lt_of_lt_of_le (A34.keep P36_0).lt P38_14))) hZ (hw _ (List.mem_of_getElem? (i := 39) rfl)) (hw _ (List.mem_of_getElem? (i := 5) rfl)) (by decide) (by decide)) q40a q40c (g := (mkF m 84 #[.val (.int p1), .val (.int p2), .val (.int p3), .val (.int p4), .val (.int p5), .val (.int p6), .val (.int i1), .val (.int i2), .val (.int (2 : Int32)), .val (.int (0 : Int32)), .val (.ref b34), .unset, .unset, .unset, .unset, .unset, .unset, .unset, .unset, .unset, .unset] [(.ref iv2), (.int i2), (.ref b34)])) rfl (by rw [hml]; rfl) (Steps.refl _) (argsL := [(.int i2), (.ref iv2)]) (rest := []) (lenOf pd__ILjava_lang_Object__V rfl) rfl (by show 2 * 0 + _ ≤ _; exact Nat.le_of_eq rfl) (hb hby at_84) (fun _ _ => ⟨rfl, e39, (by decide : 5 + 2 ≤ _), (by decide : 13 + 8 ≤ _)⟩)
      dsimp only [Pt.U, Pt.locs, Pt.cells, Pt.slots] at X40 l40 y40 z40 st40 hQ40
      subst l40 y40 z40
      obtain ⟨b_40, kb_40, c_40, kc_40, rfl, N40q, P40_0, P40_1, P40_2, P40_3, P40_4, P40_5, P40_6, P40_7, P40_8, P40_9, P40_10, P40_11, P40_12, P40_13, P40_14, P40_15⟩ := hQ40
      have K40 : Keep h0 T40.heap [] := Keep.trans K38 P40_0 (allS (Or.inr sz_b34) all0)
      have sz_b_40 : h0.size ≤ b_40 := Nat.le_trans K38.1 P40_12
      have sz_c_40 : h0.size ≤ c_40 := Nat.le_trans K38.1 P40_14
      have N40 := Fr.app N39 N40q
      refine OwnR.of (fun _ hr => st40.trans hr) ?_
      show OwnR _ _ _ _ _ _ _ (T40.setTop (mkF m 87 #[.val (.int p1), .val (.int p2), .val (.int p3), .val (.int p4), .val (.int p5), .val (.int p6), .val (.int i1), .val (.int i2), .val (.int (2 : Int32)), .val (.int (0 : Int32)), .val (.ref b34), .unset, .unset, .unset, .unset, .unset, .unset, .unset, .unset, .unset, .unset] []))
      refine OwnR.of (fun _ hr => XS.iload X40.here hx rfl (hb hby at_87) rfl hr) ?_
      show OwnR _ _ _ _ _ _ _ (T40.setTop (mkF m 89 #[.val (.int p1), .val (.int p2), .val (.int p3), .val (.int p4), .val (.int p5), .val (.int p6), .val (.int i1), .val (.int i2), .val (.int (2 : Int32)), .val (.int (0 : Int32)), .val (.ref b34), .unset, .unset, .unset, .unset, .unset, .unset, .unset, .unset, .unset, .unset] [(.int (0 : Int32))]))
      refine OwnR.of (fun _ hr => XS.ifNo X40.here hx rfl (hb hby at_89) rfl ((if0 _ _).trans (teq (by decide : (0 : Int32) = (0 : Int32))).2) hr) ?_
      show OwnR _ _ _ _ _ _ _ (T40.setTop (mkF m 92 #[.val (.int p1), .val (.int p2), .val (.int p3), .val (.int p4), .val (.int p5), .val (.int p6), .val (.int i1), .val (.int i2), .val (.int (2 : Int32)), .val (.int (0 : Int32)), .val (.ref b34), .unset, .unset, .unset, .unset, .unset, .unset, .unset, .unset, .unset, .unset] []))
      refine OwnR.of (fun _ hr => XS.lconst X40.here hx rfl (hb hby at_92) hr) ?_
      show OwnR _ _ _ _ _ _ _ (T40.setTop (mkF m 93 #[.val (.int p1), .val (.int p2), .val (.int p3), .val (.int p4), .val (.int p5), .val (.int p6), .val (.int i1), .val (.int i2), .val (.int (2 : Int32)), .val (.int (0 : Int32)), .val (.ref b34), .unset, .unset, .unset, .unset, .unset, .unset, .unset, .unset, .unset, .unset] [(.long (0 : Int64))]))
      refine OwnR.of (fun _ hr => XS.lstore X40.here hx rfl (hb hby at_93) rfl (l' := #[.val (.int p1), .val (.int p2), .val (.int p3), .val (.int p4), .val (.int p5), .val (.int p6), .val (.int i1), .val (.int i2), .val (.int (2 : Int32)), .val (.int (0 : Int32)), .val (.ref b34), .val (.long (0 : Int64)), .second, .unset, .unset, .unset, .unset, .unset, .unset, .unset, .unset]) rfl hr) ?_
      show OwnR _ _ _ _ _ _ _ (T40.setTop (mkF m 95 #[.val (.int p1), .val (.int p2), .val (.int p3), .val (.int p4), .val (.int p5), .val (.int p6), .val (.int i1), .val (.int i2), .val (.int (2 : Int32)), .val (.int (0 : Int32)), .val (.ref b34), .val (.long (0 : Int64)), .second, .unset, .unset, .unset, .unset, .unset, .unset, .unset, .unset] []))
      refine OwnR.of (fun _ hr => XS.iload X40.here hx rfl (hb hby at_95) rfl hr) ?_
      show OwnR _ _ _ _ _ _ _ (T40.setTop (mkF m 97 #[.val (.int p1), .val (.int p2), .val (.int p3), .val (.int p4), .val (.int p5), .val (.int p6), .val (.int i1), .val (.int i2), .val (.int (2 : Int32)), .val (.int (0 : Int32)), .val (.ref b34), .val (.long (0 : Int64)), .second, .unset, .unset, .unset, .unset, .unset, .unset, .unset, .unset] [(.int (2 : Int32))]))
      refine OwnR.of (fun _ hr => XS.iconst X40.here hx rfl (hb hby at_97) hr) ?_
      show OwnR _ _ _ _ _ _ _ (T40.setTop (mkF m 98 #[.val (.int p1), .val (.int p2), .val (.int p3), .val (.int p4), .val (.int p5), .val (.int p6), .val (.int i1), .val (.int i2), .val (.int (2 : Int32)), .val (.int (0 : Int32)), .val (.ref b34), .val (.long (0 : Int64)), .second, .unset, .unset, .unset, .unset, .unset, .unset, .unset, .unset] [(.int (1 : Int32)), (.int (2 : Int32))]))
      refine OwnR.of (fun _ hr => XS.icmpNo X40.here hx rfl (hb hby at_98) rfl (flt (by decide : ¬ ((2 : Int32) < (1 : Int32)))).1 hr) ?_
      show OwnR _ _ _ _ _ _ _ (T40.setTop (mkF m 101 #[.val (.int p1), .val (.int p2), .val (.int p3), .val (.int p4), .val (.int p5), .val (.int p6), .val (.int i1), .val (.int i2), .val (.int (2 : Int32)), .val (.int (0 : Int32)), .val (.ref b34), .val (.long (0 : Int64)), .second, .unset, .unset, .unset, .unset, .unset, .unset, .unset, .unset] []))
      refine OwnR.of (fun _ hr => XS.iload X40.here hx rfl (hb hby at_101) rfl hr) ?_
      show OwnR _ _ _ _ _ _ _ (T40.setTop (mkF m 103 #[.val (.int p1), .val (.int p2), .val (.int p3), .val (.int p4), .val (.int p5), .val (.int p6), .val (.int i1), .val (.int i2), .val (.int (2 : Int32)), .val (.int (0 : Int32)), .val (.ref b34), .val (.long (0 : Int64)), .second, .unset, .unset, .unset, .unset, .unset, .unset, .unset, .unset] [(.int i1)]))
      refine OwnR.of (fun _ hr => XS.i2l X40.here hx rfl (hb hby at_103) rfl hr) ?_
      show OwnR _ _ _ _ _ _ _ (T40.setTop (mkF m 104 #[.val (.int p1), .val (.int p2), .val (.int p3), .val (.int p4), .val (.int p5), .val (.int p6), .val (.int i1), .val (.int i2), .val (.int (2 : Int32)), .val (.int (0 : Int32)), .val (.ref b34), .val (.long (0 : Int64)), .second, .unset, .unset, .unset, .unset, .unset, .unset, .unset, .unset] [(.long (i1.toInt64))]))
      refine OwnR.of (fun _ hr => XS.goto X40.here hx rfl (pc0 := 104) (pc' := 110) rfl (hb hby at_104) (by decide) (by decide) hr) ?_
      show OwnR _ _ _ _ _ _ _ (T40.setTop (mkF m 110 #[.val (.int p1), .val (.int p2), .val (.int p3), .val (.int p4), .val (.int p5), .val (.int p6), .val (.int i1), .val (.int i2), .val (.int (2 : Int32)), .val (.int (0 : Int32)), .val (.ref b34), .val (.long (0 : Int64)), .second, .unset, .unset, .unset, .unset, .unset, .unset, .unset, .unset] [(.long (i1.toInt64))]))
      refine OwnR.of (fun _ hr => XS.lstore X40.here hx rfl (hb hby at_110) rfl (l' := #[.val (.int p1), .val (.int p2), .val (.int p3), .val (.int p4), .val (.int p5), .val (.int p6), .val (.int i1), .val (.int i2), .val (.int (2 : Int32)), .val (.int (0 : Int32)), .val (.ref b34), .val (.long (0 : Int64)), .second, .val (.long (i1.toInt64)), .second, .unset, .unset, .unset, .unset, .unset, .unset]) rfl hr) ?_
      show OwnR _ _ _ _ _ _ _ (T40.setTop (mkF m 112 #[.val (.int p1), .val (.int p2), .val (.int p3), .val (.int p4), .val (.int p5), .val (.int p6), .val (.int i1), .val (.int i2), .val (.int (2 : Int32)), .val (.int (0 : Int32)), .val (.ref b34), .val (.long (0 : Int64)), .second, .val (.long (i1.toInt64)), .second, .unset, .unset, .unset, .unset, .unset, .unset] []))
      refine OwnR.of (fun _ hr => XS.goto X40.here hx rfl (pc0 := 112) (pc' := 156) rfl (hb hby at_112) (by decide) (by decide) hr) ?_
      show OwnR _ _ _ _ _ _ _ (T40.setTop (mkF m 156 #[.val (.int p1), .val (.int p2), .val (.int p3), .val (.int p4), .val (.int p5), .val (.int p6), .val (.int i1), .val (.int i2), .val (.int (2 : Int32)), .val (.int (0 : Int32)), .val (.ref b34), .val (.long (0 : Int64)), .second, .val (.long (i1.toInt64)), .second, .unset, .unset, .unset, .unset, .unset, .unset] []))
      refine OwnR.of (fun _ hr => XS.lload X40.here hx rfl (hb hby at_156) rfl hr) ?_
      show OwnR _ _ _ _ _ _ _ (T40.setTop (mkF m 158 #[.val (.int p1), .val (.int p2), .val (.int p3), .val (.int p4), .val (.int p5), .val (.int p6), .val (.int i1), .val (.int i2), .val (.int (2 : Int32)), .val (.int (0 : Int32)), .val (.ref b34), .val (.long (0 : Int64)), .second, .val (.long (i1.toInt64)), .second, .unset, .unset, .unset, .unset, .unset, .unset] [(.long (i1.toInt64))]))
      refine OwnR.of (fun _ hr => XS.lload X40.here hx rfl (hb hby at_158) rfl hr) ?_
      show OwnR _ _ _ _ _ _ _ (T40.setTop (mkF m 160 #[.val (.int p1), .val (.int p2), .val (.int p3), .val (.int p4), .val (.int p5), .val (.int p6), .val (.int i1), .val (.int i2), .val (.int (2 : Int32)), .val (.int (0 : Int32)), .val (.ref b34), .val (.long (0 : Int64)), .second, .val (.long (i1.toInt64)), .second, .unset, .unset, .unset, .unset, .unset, .unset] [(.long (0 : Int64)), (.long (i1.toInt64))]))
      refine OwnR.of (fun _ hr => XS.lsub X40.here hx rfl (hb hby at_160) rfl hr) ?_
      show OwnR _ _ _ _ _ _ _ (T40.setTop (mkF m 161 #[.val (.int p1), .val (.int p2), .val (.int p3), .val (.int p4), .val (.int p5), .val (.int p6), .val (.int i1), .val (.int i2), .val (.int (2 : Int32)), .val (.int (0 : Int32)), .val (.ref b34), .val (.long (0 : Int64)), .second, .val (.long (i1.toInt64)), .second, .unset, .unset, .unset, .unset, .unset, .unset] [(.long ((i1.toInt64) - (0 : Int64)))]))
      refine OwnR.of (fun _ hr => XS.lstore X40.here hx rfl (hb hby at_161) rfl (l' := #[.val (.int p1), .val (.int p2), .val (.int p3), .val (.int p4), .val (.int p5), .val (.int p6), .val (.int i1), .val (.int i2), .val (.int (2 : Int32)), .val (.int (0 : Int32)), .val (.ref b34), .val (.long (0 : Int64)), .second, .val (.long (i1.toInt64)), .second, .val (.long ((i1.toInt64) - (0 : Int64))), .second, .unset, .unset, .unset, .unset]) rfl hr) ?_
      show OwnR _ _ _ _ _ _ _ (T40.setTop (mkF m 163 #[.val (.int p1), .val (.int p2), .val (.int p3), .val (.int p4), .val (.int p5), .val (.int p6), .val (.int i1), .val (.int i2), .val (.int (2 : Int32)), .val (.int (0 : Int32)), .val (.ref b34), .val (.long (0 : Int64)), .second, .val (.long (i1.toInt64)), .second, .val (.long ((i1.toInt64) - (0 : Int64))), .second, .unset, .unset, .unset, .unset] []))
      obtain ⟨len, hlen⟩ : ∃ z : Int64, z = ((i1.toInt64) - (0 : Int64)) := ⟨_, rfl⟩
      rw [← hlen]
      show OwnR _ _ _ _ _ _ _ (T40.setTop (mkF m 163 #[.val (.int p1), .val (.int p2), .val (.int p3), .val (.int p4), .val (.int p5), .val (.int p6), .val (.int i1), .val (.int i2), .val (.int (2 : Int32)), .val (.int (0 : Int32)), .val (.ref b34), .val (.long (0 : Int64)), .second, .val (.long (i1.toInt64)), .second, .val (.long len), .second, .unset, .unset, .unset, .unset] []))
      have hl0 : 0 < len.toInt ∧ True := by rw [hlen]; exact own_l0 i1 b1
      have hnz182 : ¬ len = (0 : Int64) := own_nz len hl0.1
      refine OwnR.of (fun _ hr => XS.iload X40.here hx rfl (hb hby at_163) rfl hr) ?_
      show OwnR _ _ _ _ _ _ _ (T40.setTop (mkF m 165 #[.val (.int p1), .val (.int p2), .val (.int p3), .val (.int p4), .val (.int p5), .val (.int p6), .val (.int i1), .val (.int i2), .val (.int (2 : Int32)), .val (.int (0 : Int32)), .val (.ref b34), .val (.long (0 : Int64)), .second, .val (.long (i1.toInt64)), .second, .val (.long len), .second, .unset, .unset, .unset, .unset] [(.int p6)]))
      refine OwnR.of (fun _ hr => XS.iconst X40.here hx rfl (hb hby at_165) hr) ?_
      show OwnR _ _ _ _ _ _ _ (T40.setTop (mkF m 166 #[.val (.int p1), .val (.int p2), .val (.int p3), .val (.int p4), .val (.int p5), .val (.int p6), .val (.int i1), .val (.int i2), .val (.int (2 : Int32)), .val (.int (0 : Int32)), .val (.ref b34), .val (.long (0 : Int64)), .second, .val (.long (i1.toInt64)), .second, .val (.long len), .second, .unset, .unset, .unset, .unset] [(.int (1 : Int32)), (.int p6)]))
      refine OwnR.of (fun _ hr => XS.iand X40.here hx rfl (hb hby at_166) rfl hr) ?_
      show OwnR _ _ _ _ _ _ _ (T40.setTop (mkF m 167 #[.val (.int p1), .val (.int p2), .val (.int p3), .val (.int p4), .val (.int p5), .val (.int p6), .val (.int i1), .val (.int i2), .val (.int (2 : Int32)), .val (.int (0 : Int32)), .val (.ref b34), .val (.long (0 : Int64)), .second, .val (.long (i1.toInt64)), .second, .val (.long len), .second, .unset, .unset, .unset, .unset] [(.int (p6 &&& (1 : Int32)))]))
      by_cases hc167_41 : (p6 &&& (1 : Int32)) = (0 : Int32)
      · skip
        refine OwnR.of (fun _ hr => XS.ifYes X40.here hx rfl (pc0 := 167) (pc' := 174) rfl (hb hby at_167) rfl ((if0 _ _).trans (teq hc167_41).1) (by decide) (by decide) hr) ?_
        show OwnR _ _ _ _ _ _ _ (T40.setTop (mkF m 174 #[.val (.int p1), .val (.int p2), .val (.int p3), .val (.int p4), .val (.int p5), .val (.int p6), .val (.int i1), .val (.int i2), .val (.int (2 : Int32)), .val (.int (0 : Int32)), .val (.ref b34), .val (.long (0 : Int64)), .second, .val (.long (i1.toInt64)), .second, .val (.long len), .second, .unset, .unset, .unset, .unset] []))
        refine OwnR.of (fun _ hr => XS.iload X40.here hx rfl (hb hby at_174) rfl hr) ?_
        show OwnR _ _ _ _ _ _ _ (T40.setTop (mkF m 176 #[.val (.int p1), .val (.int p2), .val (.int p3), .val (.int p4), .val (.int p5), .val (.int p6), .val (.int i1), .val (.int i2), .val (.int (2 : Int32)), .val (.int (0 : Int32)), .val (.ref b34), .val (.long (0 : Int64)), .second, .val (.long (i1.toInt64)), .second, .val (.long len), .second, .unset, .unset, .unset, .unset] [(.int p5)]))
        refine OwnR.of (X40.ldcInt hx hown (mvT hZ (hw _ (List.mem_of_getElem? (i := 2) rfl))) (g := (mkF m 176 #[.val (.int p1), .val (.int p2), .val (.int p3), .val (.int p4), .val (.int p5), .val (.int p6), .val (.int i1), .val (.int i2), .val (.int (2 : Int32)), .val (.int (0 : Int32)), .val (.ref b34), .val (.long (0 : Int64)), .second, .val (.long (i1.toInt64)), .second, .val (.long len), .second, .unset, .unset, .unset, .unset] [(.int p5)])) rfl (hb hby at_176)) ?_
        show OwnR _ _ _ _ _ _ _ (T40.setTop (mkF m 178 #[.val (.int p1), .val (.int p2), .val (.int p3), .val (.int p4), .val (.int p5), .val (.int p6), .val (.int i1), .val (.int i2), .val (.int (2 : Int32)), .val (.int (0 : Int32)), .val (.ref b34), .val (.long (0 : Int64)), .second, .val (.long (i1.toInt64)), .second, .val (.long len), .second, .unset, .unset, .unset, .unset] [(.int (2147483647 : Int32)), (.int p5)]))
        refine OwnR.of (fun _ hr => XS.iand X40.here hx rfl (hb hby at_178) rfl hr) ?_
        show OwnR _ _ _ _ _ _ _ (T40.setTop (mkF m 179 #[.val (.int p1), .val (.int p2), .val (.int p3), .val (.int p4), .val (.int p5), .val (.int p6), .val (.int i1), .val (.int i2), .val (.int (2 : Int32)), .val (.int (0 : Int32)), .val (.ref b34), .val (.long (0 : Int64)), .second, .val (.long (i1.toInt64)), .second, .val (.long len), .second, .unset, .unset, .unset, .unset] [(.int (p5 &&& (2147483647 : Int32)))]))
        refine OwnR.of (fun _ hr => XS.i2l X40.here hx rfl (hb hby at_179) rfl hr) ?_
        show OwnR _ _ _ _ _ _ _ (T40.setTop (mkF m 180 #[.val (.int p1), .val (.int p2), .val (.int p3), .val (.int p4), .val (.int p5), .val (.int p6), .val (.int i1), .val (.int i2), .val (.int (2 : Int32)), .val (.int (0 : Int32)), .val (.ref b34), .val (.long (0 : Int64)), .second, .val (.long (i1.toInt64)), .second, .val (.long len), .second, .unset, .unset, .unset, .unset] [(.long ((p5 &&& (2147483647 : Int32)).toInt64))]))
        refine OwnR.of (fun _ hr => XS.lload X40.here hx rfl (hb hby at_180) rfl hr) ?_
        show OwnR _ _ _ _ _ _ _ (T40.setTop (mkF m 182 #[.val (.int p1), .val (.int p2), .val (.int p3), .val (.int p4), .val (.int p5), .val (.int p6), .val (.int i1), .val (.int i2), .val (.int (2 : Int32)), .val (.int (0 : Int32)), .val (.ref b34), .val (.long (0 : Int64)), .second, .val (.long (i1.toInt64)), .second, .val (.long len), .second, .unset, .unset, .unset, .unset] [(.long len), (.long ((p5 &&& (2147483647 : Int32)).toInt64))]))
        refine OwnR.of (fun _ hr => XS.lrem X40.here hx rfl (hb hby at_182) rfl hnz182 hr) ?_
        show OwnR _ _ _ _ _ _ _ (T40.setTop (mkF m 183 #[.val (.int p1), .val (.int p2), .val (.int p3), .val (.int p4), .val (.int p5), .val (.int p6), .val (.int i1), .val (.int i2), .val (.int (2 : Int32)), .val (.int (0 : Int32)), .val (.ref b34), .val (.long (0 : Int64)), .second, .val (.long (i1.toInt64)), .second, .val (.long len), .second, .unset, .unset, .unset, .unset] [(.long (((p5 &&& (2147483647 : Int32)).toInt64) - (((p5 &&& (2147483647 : Int32)).toInt64) / len) * len))]))
        refine OwnR.of (fun _ hr => XS.lstore X40.here hx rfl (hb hby at_183) rfl (l' := #[.val (.int p1), .val (.int p2), .val (.int p3), .val (.int p4), .val (.int p5), .val (.int p6), .val (.int i1), .val (.int i2), .val (.int (2 : Int32)), .val (.int (0 : Int32)), .val (.ref b34), .val (.long (0 : Int64)), .second, .val (.long (i1.toInt64)), .second, .val (.long len), .second, .val (.long (((p5 &&& (2147483647 : Int32)).toInt64) - (((p5 &&& (2147483647 : Int32)).toInt64) / len) * len)), .second, .unset, .unset]) rfl hr) ?_
        show OwnR _ _ _ _ _ _ _ (T40.setTop (mkF m 185 #[.val (.int p1), .val (.int p2), .val (.int p3), .val (.int p4), .val (.int p5), .val (.int p6), .val (.int i1), .val (.int i2), .val (.int (2 : Int32)), .val (.int (0 : Int32)), .val (.ref b34), .val (.long (0 : Int64)), .second, .val (.long (i1.toInt64)), .second, .val (.long len), .second, .val (.long (((p5 &&& (2147483647 : Int32)).toInt64) - (((p5 &&& (2147483647 : Int32)).toInt64) / len) * len)), .second, .unset, .unset] []))
        obtain ⟨off, hoff⟩ : ∃ z : Int64, z = (((p5 &&& (2147483647 : Int32)).toInt64) - (((p5 &&& (2147483647 : Int32)).toInt64) / len) * len) := ⟨_, rfl⟩
        rw [← hoff]
        show OwnR _ _ _ _ _ _ _ (T40.setTop (mkF m 185 #[.val (.int p1), .val (.int p2), .val (.int p3), .val (.int p4), .val (.int p5), .val (.int p6), .val (.int i1), .val (.int i2), .val (.int (2 : Int32)), .val (.int (0 : Int32)), .val (.ref b34), .val (.long (0 : Int64)), .second, .val (.long (i1.toInt64)), .second, .val (.long len), .second, .val (.long off), .second, .unset, .unset] []))
        refine OwnR.of (fun _ hr => XS.lload X40.here hx rfl (hb hby at_185) rfl hr) ?_
        show OwnR _ _ _ _ _ _ _ (T40.setTop (mkF m 187 #[.val (.int p1), .val (.int p2), .val (.int p3), .val (.int p4), .val (.int p5), .val (.int p6), .val (.int i1), .val (.int i2), .val (.int (2 : Int32)), .val (.int (0 : Int32)), .val (.ref b34), .val (.long (0 : Int64)), .second, .val (.long (i1.toInt64)), .second, .val (.long len), .second, .val (.long off), .second, .unset, .unset] [(.long (0 : Int64))]))
        refine OwnR.of (fun _ hr => XS.lload X40.here hx rfl (hb hby at_187) rfl hr) ?_
        show OwnR _ _ _ _ _ _ _ (T40.setTop (mkF m 189 #[.val (.int p1), .val (.int p2), .val (.int p3), .val (.int p4), .val (.int p5), .val (.int p6), .val (.int i1), .val (.int i2), .val (.int (2 : Int32)), .val (.int (0 : Int32)), .val (.ref b34), .val (.long (0 : Int64)), .second, .val (.long (i1.toInt64)), .second, .val (.long len), .second, .val (.long off), .second, .unset, .unset] [(.long off), (.long (0 : Int64))]))
        refine OwnR.of (fun _ hr => XS.ladd X40.here hx rfl (hb hby at_189) rfl hr) ?_
        show OwnR _ _ _ _ _ _ _ (T40.setTop (mkF m 190 #[.val (.int p1), .val (.int p2), .val (.int p3), .val (.int p4), .val (.int p5), .val (.int p6), .val (.int i1), .val (.int i2), .val (.int (2 : Int32)), .val (.int (0 : Int32)), .val (.ref b34), .val (.long (0 : Int64)), .second, .val (.long (i1.toInt64)), .second, .val (.long len), .second, .val (.long off), .second, .unset, .unset] [(.long ((0 : Int64) + off))]))
        refine OwnR.of (fun _ hr => XS.l2i X40.here hx rfl (hb hby at_190) rfl hr) ?_
        show OwnR _ _ _ _ _ _ _ (T40.setTop (mkF m 191 #[.val (.int p1), .val (.int p2), .val (.int p3), .val (.int p4), .val (.int p5), .val (.int p6), .val (.int i1), .val (.int i2), .val (.int (2 : Int32)), .val (.int (0 : Int32)), .val (.ref b34), .val (.long (0 : Int64)), .second, .val (.long (i1.toInt64)), .second, .val (.long len), .second, .val (.long off), .second, .unset, .unset] [(.int (((0 : Int64) + off).toInt32))]))
        refine OwnR.of (fun _ hr => XS.istore X40.here hx rfl (hb hby at_191) rfl (l' := #[.val (.int p1), .val (.int p2), .val (.int p3), .val (.int p4), .val (.int p5), .val (.int p6), .val (.int i1), .val (.int i2), .val (.int (2 : Int32)), .val (.int (0 : Int32)), .val (.ref b34), .val (.long (0 : Int64)), .second, .val (.long (i1.toInt64)), .second, .val (.long len), .second, .val (.long off), .second, .val (.int (((0 : Int64) + off).toInt32)), .unset]) rfl hr) ?_
        show OwnR _ _ _ _ _ _ _ (T40.setTop (mkF m 193 #[.val (.int p1), .val (.int p2), .val (.int p3), .val (.int p4), .val (.int p5), .val (.int p6), .val (.int i1), .val (.int i2), .val (.int (2 : Int32)), .val (.int (0 : Int32)), .val (.ref b34), .val (.long (0 : Int64)), .second, .val (.long (i1.toInt64)), .second, .val (.long len), .second, .val (.long off), .second, .val (.int (((0 : Int64) + off).toInt32)), .unset] []))
        refine OwnR.of (fun _ hr => XS.iload X40.here hx rfl (hb hby at_193) rfl hr) ?_
        show OwnR _ _ _ _ _ _ _ (T40.setTop (mkF m 195 #[.val (.int p1), .val (.int p2), .val (.int p3), .val (.int p4), .val (.int p5), .val (.int p6), .val (.int i1), .val (.int i2), .val (.int (2 : Int32)), .val (.int (0 : Int32)), .val (.ref b34), .val (.long (0 : Int64)), .second, .val (.long (i1.toInt64)), .second, .val (.long len), .second, .val (.long off), .second, .val (.int (((0 : Int64) + off).toInt32)), .unset] [(.int (0 : Int32))]))
        refine OwnR.of (fun _ hr => XS.ifYes X40.here hx rfl (pc0 := 195) (pc' := 209) rfl (hb hby at_195) rfl ((if0 _ _).trans (flt (by decide : ¬ ((0 : Int32) < (0 : Int32)))).2.2.2) (by decide) (by decide) hr) ?_
        show OwnR _ _ _ _ _ _ _ (T40.setTop (mkF m 209 #[.val (.int p1), .val (.int p2), .val (.int p3), .val (.int p4), .val (.int p5), .val (.int p6), .val (.int i1), .val (.int i2), .val (.int (2 : Int32)), .val (.int (0 : Int32)), .val (.ref b34), .val (.long (0 : Int64)), .second, .val (.long (i1.toInt64)), .second, .val (.long len), .second, .val (.long off), .second, .val (.int (((0 : Int64) + off).toInt32)), .unset] []))
        refine OwnR.of (fun _ hr => XS.iconst X40.here hx rfl (hb hby at_209) hr) ?_
        show OwnR _ _ _ _ _ _ _ (T40.setTop (mkF m 210 #[.val (.int p1), .val (.int p2), .val (.int p3), .val (.int p4), .val (.int p5), .val (.int p6), .val (.int i1), .val (.int i2), .val (.int (2 : Int32)), .val (.int (0 : Int32)), .val (.ref b34), .val (.long (0 : Int64)), .second, .val (.long (i1.toInt64)), .second, .val (.long len), .second, .val (.long off), .second, .val (.int (((0 : Int64) + off).toInt32)), .unset] [(.int (0 : Int32))]))
        refine OwnR.of (fun _ hr => XS.istore X40.here hx rfl (hb hby at_210) rfl (l' := #[.val (.int p1), .val (.int p2), .val (.int p3), .val (.int p4), .val (.int p5), .val (.int p6), .val (.int i1), .val (.int i2), .val (.int (2 : Int32)), .val (.int (0 : Int32)), .val (.ref b34), .val (.long (0 : Int64)), .second, .val (.long (i1.toInt64)), .second, .val (.long len), .second, .val (.long off), .second, .val (.int (((0 : Int64) + off).toInt32)), .val (.int (0 : Int32))]) rfl hr) ?_
        show OwnR _ _ _ _ _ _ _ (T40.setTop (mkF m 212 #[.val (.int p1), .val (.int p2), .val (.int p3), .val (.int p4), .val (.int p5), .val (.int p6), .val (.int i1), .val (.int i2), .val (.int (2 : Int32)), .val (.int (0 : Int32)), .val (.ref b34), .val (.long (0 : Int64)), .second, .val (.long (i1.toInt64)), .second, .val (.long len), .second, .val (.long off), .second, .val (.int (((0 : Int64) + off).toInt32)), .val (.int (0 : Int32))] []))
        refine OwnR.of (fun _ hr => XS.aload X40.here hx rfl (hb hby at_212) rfl rfl hr) ?_
        show OwnR _ _ _ _ _ _ _ (T40.setTop (mkF m 214 #[.val (.int p1), .val (.int p2), .val (.int p3), .val (.int p4), .val (.int p5), .val (.int p6), .val (.int i1), .val (.int i2), .val (.int (2 : Int32)), .val (.int (0 : Int32)), .val (.ref b34), .val (.long (0 : Int64)), .second, .val (.long (i1.toInt64)), .second, .val (.long len), .second, .val (.long off), .second, .val (.int (((0 : Int64) + off).toInt32)), .val (.int (0 : Int32))] [(.ref b34)]))
        refine OwnR.of (fun _ hr => XS.iload X40.here hx rfl (hb hby at_214) rfl hr) ?_
        show OwnR _ _ _ _ _ _ _ (T40.setTop (mkF m 216 #[.val (.int p1), .val (.int p2), .val (.int p3), .val (.int p4), .val (.int p5), .val (.int p6), .val (.int i1), .val (.int i2), .val (.int (2 : Int32)), .val (.int (0 : Int32)), .val (.ref b34), .val (.long (0 : Int64)), .second, .val (.long (i1.toInt64)), .second, .val (.long len), .second, .val (.long off), .second, .val (.int (((0 : Int64) + off).toInt32)), .val (.int (0 : Int32))] [(.int (0 : Int32)), (.ref b34)]))
        refine OwnR.of (fun _ hr => XS.iload X40.here hx rfl (hb hby at_216) rfl hr) ?_
        show OwnR _ _ _ _ _ _ _ (T40.setTop (mkF m 218 #[.val (.int p1), .val (.int p2), .val (.int p3), .val (.int p4), .val (.int p5), .val (.int p6), .val (.int i1), .val (.int i2), .val (.int (2 : Int32)), .val (.int (0 : Int32)), .val (.ref b34), .val (.long (0 : Int64)), .second, .val (.long (i1.toInt64)), .second, .val (.long len), .second, .val (.long off), .second, .val (.int (((0 : Int64) + off).toInt32)), .val (.int (0 : Int32))] [(.int (((0 : Int64) + off).toInt32)), (.int (0 : Int32)), (.ref b34)]))
        obtain ⟨cq42, kq42, q42a, q42b, q42c⟩ := isOf hZ rfl P40_1
        obtain ⟨_, _, ⟨T42, L42, kc42, ns42⟩, -, X42, ⟨Lc42, hQ42, l42, y42, z42⟩, st42⟩ := X40.virtualBack hx (y := (⟨"com/example/tercet/tercet/core/Pages", "startsPage", "(II)Z"⟩ : MethodName)) (z := (⟨"com/example/tercet/tercet/core/Pages", "startsPage", "(II)Z"⟩ : MethodName)) hown (mvT hZ (hw _ (List.mem_of_getElem? (i := 66) rfl))) (mvT hZ (hw _ (List.mem_of_getElem? (i := 67) rfl))) (notFace_of_selects (args := #[]) (mvT hZ (hw _ (List.mem_of_getElem? (i := 69) rfl)))) (mvT hZ (hw _ (List.mem_of_getElem? (i := 69) rfl))) (mvT hZ (hw _ (List.mem_of_getElem? (i := 68) rfl))) (by decide) (backOf (W := 0) (rmS_0 l Z a0 hw [] b34 (((0 : Int64) + off).toInt32) (T40.heap) n0 (Nat.le_trans Z0 K40.1) ) hZ (hw _ (List.mem_of_getElem? (i := 70) rfl)) (hw _ (List.mem_of_getElem? (i := 5) rfl)) (by decide) (by decide)) q42a q42c (g := (mkF m 218 #[.val (.int p1), .val (.int p2), .val (.int p3), .val (.int p4), .val (.int p5), .val (.int p6), .val (.int i1), .val (.int i2), .val (.int (2 : Int32)), .val (.int (0 : Int32)), .val (.ref b34), .val (.long (0 : Int64)), .second, .val (.long (i1.toInt64)), .second, .val (.long len), .second, .val (.long off), .second, .val (.int (((0 : Int64) + off).toInt32)), .val (.int (0 : Int32))] [(.int (((0 : Int64) + off).toInt32)), (.int (0 : Int32)), (.ref b34)])) rfl (by rw [hml]; rfl) (Steps.refl _) (argsL := [(.int (0 : Int32)), (.int (((0 : Int64) + off).toInt32))]) (rest := []) (lenOf pd__II_Z rfl) rfl (by show 2 * 0 + _ ≤ _; exact Nat.le_of_eq rfl) (hb hby at_218) (fun _ _ => ⟨rfl, rfl, (by decide : 7 + 0 ≤ _), (by decide : 21 + 0 ≤ _)⟩)
        dsimp only [Pt.U, Pt.locs, Pt.cells, Pt.slots] at X42 l42 y42 z42 st42 hQ42
        subst l42 y42 z42
        obtain ⟨rfl, N42q, e42⟩ := hQ42
        have N42 := Fr.app N40 N42q
        refine OwnR.of (fun _ hr => st42.trans hr) ?_
        show OwnR _ _ _ _ _ _ _ (T42.setTop (mkF m 221 #[.val (.int p1), .val (.int p2), .val (.int p3), .val (.int p4), .val (.int p5), .val (.int p6), .val (.int i1), .val (.int i2), .val (.int (2 : Int32)), .val (.int (0 : Int32)), .val (.ref b34), .val (.long (0 : Int64)), .second, .val (.long (i1.toInt64)), .second, .val (.long len), .second, .val (.long off), .second, .val (.int (((0 : Int64) + off).toInt32)), .val (.int (0 : Int32))] [(.int (0 : Int32))]))
        refine OwnR.of (fun _ hr => XS.iload X42.here hx rfl (hb hby at_221) rfl hr) ?_
        show OwnR _ _ _ _ _ _ _ (T42.setTop (mkF m 223 #[.val (.int p1), .val (.int p2), .val (.int p3), .val (.int p4), .val (.int p5), .val (.int p6), .val (.int i1), .val (.int i2), .val (.int (2 : Int32)), .val (.int (0 : Int32)), .val (.ref b34), .val (.long (0 : Int64)), .second, .val (.long (i1.toInt64)), .second, .val (.long len), .second, .val (.long off), .second, .val (.int (((0 : Int64) + off).toInt32)), .val (.int (0 : Int32))] [(.int (0 : Int32)), (.int (0 : Int32))]))
        refine OwnR.of (fun _ hr => XS.icmpNo X42.here hx rfl (hb hby at_223) rfl (teq (by decide : (0 : Int32) = (0 : Int32))).2 hr) ?_
        show OwnR _ _ _ _ _ _ _ (T42.setTop (mkF m 226 #[.val (.int p1), .val (.int p2), .val (.int p3), .val (.int p4), .val (.int p5), .val (.int p6), .val (.int i1), .val (.int i2), .val (.int (2 : Int32)), .val (.int (0 : Int32)), .val (.ref b34), .val (.long (0 : Int64)), .second, .val (.long (i1.toInt64)), .second, .val (.long len), .second, .val (.long off), .second, .val (.int (((0 : Int64) + off).toInt32)), .val (.int (0 : Int32))] []))
        refine OwnR.of (fun _ hr => XS.iconst X42.here hx rfl (hb hby at_226) hr) ?_
        show OwnR _ _ _ _ _ _ _ (T42.setTop (mkF m 227 #[.val (.int p1), .val (.int p2), .val (.int p3), .val (.int p4), .val (.int p5), .val (.int p6), .val (.int i1), .val (.int i2), .val (.int (2 : Int32)), .val (.int (0 : Int32)), .val (.ref b34), .val (.long (0 : Int64)), .second, .val (.long (i1.toInt64)), .second, .val (.long len), .second, .val (.long off), .second, .val (.int (((0 : Int64) + off).toInt32)), .val (.int (0 : Int32))] [(.int (1 : Int32))]))
        refine OwnR.of (fun _ hr => XS.goto X42.here hx rfl (pc0 := 227) (pc' := 231) rfl (hb hby at_227) (by decide) (by decide) hr) ?_
        show OwnR _ _ _ _ _ _ _ (T42.setTop (mkF m 231 #[.val (.int p1), .val (.int p2), .val (.int p3), .val (.int p4), .val (.int p5), .val (.int p6), .val (.int i1), .val (.int i2), .val (.int (2 : Int32)), .val (.int (0 : Int32)), .val (.ref b34), .val (.long (0 : Int64)), .second, .val (.long (i1.toInt64)), .second, .val (.long len), .second, .val (.long off), .second, .val (.int (((0 : Int64) + off).toInt32)), .val (.int (0 : Int32))] [(.int (1 : Int32))]))
        refine own_leafN X42 hx hlk (t := .boolean) Bd.returns (by simp) (hb hby at_231) (z' := (1 : Int32)) rfl (by decide) (by decide) ?_
        show Q0 Z  h0 n0 _ T42.heap _
        rw [show T42.heap = T40.heap from e42]
        refine ⟨?_, N42⟩
        show (some (.int (1 : Int32)) : Option Value) = some (.int (1 : Int32))
        rfl
      · skip
        refine OwnR.of (fun _ hr => XS.ifNo X40.here hx rfl (hb hby at_167) rfl ((if0 _ _).trans (feq hc167_41).1) hr) ?_
        show OwnR _ _ _ _ _ _ _ (T40.setTop (mkF m 170 #[.val (.int p1), .val (.int p2), .val (.int p3), .val (.int p4), .val (.int p5), .val (.int p6), .val (.int i1), .val (.int i2), .val (.int (2 : Int32)), .val (.int (0 : Int32)), .val (.ref b34), .val (.long (0 : Int64)), .second, .val (.long (i1.toInt64)), .second, .val (.long len), .second, .unset, .unset, .unset, .unset] []))
        refine OwnR.of (fun _ hr => XS.lconst X40.here hx rfl (hb hby at_170) hr) ?_
        show OwnR _ _ _ _ _ _ _ (T40.setTop (mkF m 171 #[.val (.int p1), .val (.int p2), .val (.int p3), .val (.int p4), .val (.int p5), .val (.int p6), .val (.int i1), .val (.int i2), .val (.int (2 : Int32)), .val (.int (0 : Int32)), .val (.ref b34), .val (.long (0 : Int64)), .second, .val (.long (i1.toInt64)), .second, .val (.long len), .second, .unset, .unset, .unset, .unset] [(.long (0 : Int64))]))
        refine OwnR.of (fun _ hr => XS.goto X40.here hx rfl (pc0 := 171) (pc' := 183) rfl (hb hby at_171) (by decide) (by decide) hr) ?_
        show OwnR _ _ _ _ _ _ _ (T40.setTop (mkF m 183 #[.val (.int p1), .val (.int p2), .val (.int p3), .val (.int p4), .val (.int p5), .val (.int p6), .val (.int i1), .val (.int i2), .val (.int (2 : Int32)), .val (.int (0 : Int32)), .val (.ref b34), .val (.long (0 : Int64)), .second, .val (.long (i1.toInt64)), .second, .val (.long len), .second, .unset, .unset, .unset, .unset] [(.long (0 : Int64))]))
        refine OwnR.of (fun _ hr => XS.lstore X40.here hx rfl (hb hby at_183) rfl (l' := #[.val (.int p1), .val (.int p2), .val (.int p3), .val (.int p4), .val (.int p5), .val (.int p6), .val (.int i1), .val (.int i2), .val (.int (2 : Int32)), .val (.int (0 : Int32)), .val (.ref b34), .val (.long (0 : Int64)), .second, .val (.long (i1.toInt64)), .second, .val (.long len), .second, .val (.long (0 : Int64)), .second, .unset, .unset]) rfl hr) ?_
        show OwnR _ _ _ _ _ _ _ (T40.setTop (mkF m 185 #[.val (.int p1), .val (.int p2), .val (.int p3), .val (.int p4), .val (.int p5), .val (.int p6), .val (.int i1), .val (.int i2), .val (.int (2 : Int32)), .val (.int (0 : Int32)), .val (.ref b34), .val (.long (0 : Int64)), .second, .val (.long (i1.toInt64)), .second, .val (.long len), .second, .val (.long (0 : Int64)), .second, .unset, .unset] []))
        refine OwnR.of (fun _ hr => XS.lload X40.here hx rfl (hb hby at_185) rfl hr) ?_
        show OwnR _ _ _ _ _ _ _ (T40.setTop (mkF m 187 #[.val (.int p1), .val (.int p2), .val (.int p3), .val (.int p4), .val (.int p5), .val (.int p6), .val (.int i1), .val (.int i2), .val (.int (2 : Int32)), .val (.int (0 : Int32)), .val (.ref b34), .val (.long (0 : Int64)), .second, .val (.long (i1.toInt64)), .second, .val (.long len), .second, .val (.long (0 : Int64)), .second, .unset, .unset] [(.long (0 : Int64))]))
        refine OwnR.of (fun _ hr => XS.lload X40.here hx rfl (hb hby at_187) rfl hr) ?_
        show OwnR _ _ _ _ _ _ _ (T40.setTop (mkF m 189 #[.val (.int p1), .val (.int p2), .val (.int p3), .val (.int p4), .val (.int p5), .val (.int p6), .val (.int i1), .val (.int i2), .val (.int (2 : Int32)), .val (.int (0 : Int32)), .val (.ref b34), .val (.long (0 : Int64)), .second, .val (.long (i1.toInt64)), .second, .val (.long len), .second, .val (.long (0 : Int64)), .second, .unset, .unset] [(.long (0 : Int64)), (.long (0 : Int64))]))
        refine OwnR.of (fun _ hr => XS.ladd X40.here hx rfl (hb hby at_189) rfl hr) ?_
        show OwnR _ _ _ _ _ _ _ (T40.setTop (mkF m 190 #[.val (.int p1), .val (.int p2), .val (.int p3), .val (.int p4), .val (.int p5), .val (.int p6), .val (.int i1), .val (.int i2), .val (.int (2 : Int32)), .val (.int (0 : Int32)), .val (.ref b34), .val (.long (0 : Int64)), .second, .val (.long (i1.toInt64)), .second, .val (.long len), .second, .val (.long (0 : Int64)), .second, .unset, .unset] [(.long ((0 : Int64) + (0 : Int64)))]))
        rw [(by decide : ((0 : Int64) + (0 : Int64)) = (0 : Int64))]
        show OwnR _ _ _ _ _ _ _ (T40.setTop (mkF m 190 #[.val (.int p1), .val (.int p2), .val (.int p3), .val (.int p4), .val (.int p5), .val (.int p6), .val (.int i1), .val (.int i2), .val (.int (2 : Int32)), .val (.int (0 : Int32)), .val (.ref b34), .val (.long (0 : Int64)), .second, .val (.long (i1.toInt64)), .second, .val (.long len), .second, .val (.long (0 : Int64)), .second, .unset, .unset] [(.long (0 : Int64))]))
        refine OwnR.of (fun _ hr => XS.l2i X40.here hx rfl (hb hby at_190) rfl hr) ?_
        show OwnR _ _ _ _ _ _ _ (T40.setTop (mkF m 191 #[.val (.int p1), .val (.int p2), .val (.int p3), .val (.int p4), .val (.int p5), .val (.int p6), .val (.int i1), .val (.int i2), .val (.int (2 : Int32)), .val (.int (0 : Int32)), .val (.ref b34), .val (.long (0 : Int64)), .second, .val (.long (i1.toInt64)), .second, .val (.long len), .second, .val (.long (0 : Int64)), .second, .unset, .unset] [(.int ((0 : Int64).toInt32))]))
        rw [(by decide : ((0 : Int64).toInt32) = (0 : Int32))]
        show OwnR _ _ _ _ _ _ _ (T40.setTop (mkF m 191 #[.val (.int p1), .val (.int p2), .val (.int p3), .val (.int p4), .val (.int p5), .val (.int p6), .val (.int i1), .val (.int i2), .val (.int (2 : Int32)), .val (.int (0 : Int32)), .val (.ref b34), .val (.long (0 : Int64)), .second, .val (.long (i1.toInt64)), .second, .val (.long len), .second, .val (.long (0 : Int64)), .second, .unset, .unset] [(.int (0 : Int32))]))
        refine OwnR.of (fun _ hr => XS.istore X40.here hx rfl (hb hby at_191) rfl (l' := #[.val (.int p1), .val (.int p2), .val (.int p3), .val (.int p4), .val (.int p5), .val (.int p6), .val (.int i1), .val (.int i2), .val (.int (2 : Int32)), .val (.int (0 : Int32)), .val (.ref b34), .val (.long (0 : Int64)), .second, .val (.long (i1.toInt64)), .second, .val (.long len), .second, .val (.long (0 : Int64)), .second, .val (.int (0 : Int32)), .unset]) rfl hr) ?_
        show OwnR _ _ _ _ _ _ _ (T40.setTop (mkF m 193 #[.val (.int p1), .val (.int p2), .val (.int p3), .val (.int p4), .val (.int p5), .val (.int p6), .val (.int i1), .val (.int i2), .val (.int (2 : Int32)), .val (.int (0 : Int32)), .val (.ref b34), .val (.long (0 : Int64)), .second, .val (.long (i1.toInt64)), .second, .val (.long len), .second, .val (.long (0 : Int64)), .second, .val (.int (0 : Int32)), .unset] []))
        refine OwnR.of (fun _ hr => XS.iload X40.here hx rfl (hb hby at_193) rfl hr) ?_
        show OwnR _ _ _ _ _ _ _ (T40.setTop (mkF m 195 #[.val (.int p1), .val (.int p2), .val (.int p3), .val (.int p4), .val (.int p5), .val (.int p6), .val (.int i1), .val (.int i2), .val (.int (2 : Int32)), .val (.int (0 : Int32)), .val (.ref b34), .val (.long (0 : Int64)), .second, .val (.long (i1.toInt64)), .second, .val (.long len), .second, .val (.long (0 : Int64)), .second, .val (.int (0 : Int32)), .unset] [(.int (0 : Int32))]))
        refine OwnR.of (fun _ hr => XS.ifYes X40.here hx rfl (pc0 := 195) (pc' := 209) rfl (hb hby at_195) rfl ((if0 _ _).trans (flt (by decide : ¬ ((0 : Int32) < (0 : Int32)))).2.2.2) (by decide) (by decide) hr) ?_
        show OwnR _ _ _ _ _ _ _ (T40.setTop (mkF m 209 #[.val (.int p1), .val (.int p2), .val (.int p3), .val (.int p4), .val (.int p5), .val (.int p6), .val (.int i1), .val (.int i2), .val (.int (2 : Int32)), .val (.int (0 : Int32)), .val (.ref b34), .val (.long (0 : Int64)), .second, .val (.long (i1.toInt64)), .second, .val (.long len), .second, .val (.long (0 : Int64)), .second, .val (.int (0 : Int32)), .unset] []))
        refine OwnR.of (fun _ hr => XS.iconst X40.here hx rfl (hb hby at_209) hr) ?_
        show OwnR _ _ _ _ _ _ _ (T40.setTop (mkF m 210 #[.val (.int p1), .val (.int p2), .val (.int p3), .val (.int p4), .val (.int p5), .val (.int p6), .val (.int i1), .val (.int i2), .val (.int (2 : Int32)), .val (.int (0 : Int32)), .val (.ref b34), .val (.long (0 : Int64)), .second, .val (.long (i1.toInt64)), .second, .val (.long len), .second, .val (.long (0 : Int64)), .second, .val (.int (0 : Int32)), .unset] [(.int (0 : Int32))]))
        refine OwnR.of (fun _ hr => XS.istore X40.here hx rfl (hb hby at_210) rfl (l' := #[.val (.int p1), .val (.int p2), .val (.int p3), .val (.int p4), .val (.int p5), .val (.int p6), .val (.int i1), .val (.int i2), .val (.int (2 : Int32)), .val (.int (0 : Int32)), .val (.ref b34), .val (.long (0 : Int64)), .second, .val (.long (i1.toInt64)), .second, .val (.long len), .second, .val (.long (0 : Int64)), .second, .val (.int (0 : Int32)), .val (.int (0 : Int32))]) rfl hr) ?_
        show OwnR _ _ _ _ _ _ _ (T40.setTop (mkF m 212 #[.val (.int p1), .val (.int p2), .val (.int p3), .val (.int p4), .val (.int p5), .val (.int p6), .val (.int i1), .val (.int i2), .val (.int (2 : Int32)), .val (.int (0 : Int32)), .val (.ref b34), .val (.long (0 : Int64)), .second, .val (.long (i1.toInt64)), .second, .val (.long len), .second, .val (.long (0 : Int64)), .second, .val (.int (0 : Int32)), .val (.int (0 : Int32))] []))
        refine OwnR.of (fun _ hr => XS.aload X40.here hx rfl (hb hby at_212) rfl rfl hr) ?_
        show OwnR _ _ _ _ _ _ _ (T40.setTop (mkF m 214 #[.val (.int p1), .val (.int p2), .val (.int p3), .val (.int p4), .val (.int p5), .val (.int p6), .val (.int i1), .val (.int i2), .val (.int (2 : Int32)), .val (.int (0 : Int32)), .val (.ref b34), .val (.long (0 : Int64)), .second, .val (.long (i1.toInt64)), .second, .val (.long len), .second, .val (.long (0 : Int64)), .second, .val (.int (0 : Int32)), .val (.int (0 : Int32))] [(.ref b34)]))
        refine OwnR.of (fun _ hr => XS.iload X40.here hx rfl (hb hby at_214) rfl hr) ?_
        show OwnR _ _ _ _ _ _ _ (T40.setTop (mkF m 216 #[.val (.int p1), .val (.int p2), .val (.int p3), .val (.int p4), .val (.int p5), .val (.int p6), .val (.int i1), .val (.int i2), .val (.int (2 : Int32)), .val (.int (0 : Int32)), .val (.ref b34), .val (.long (0 : Int64)), .second, .val (.long (i1.toInt64)), .second, .val (.long len), .second, .val (.long (0 : Int64)), .second, .val (.int (0 : Int32)), .val (.int (0 : Int32))] [(.int (0 : Int32)), (.ref b34)]))
        refine OwnR.of (fun _ hr => XS.iload X40.here hx rfl (hb hby at_216) rfl hr) ?_
        show OwnR _ _ _ _ _ _ _ (T40.setTop (mkF m 218 #[.val (.int p1), .val (.int p2), .val (.int p3), .val (.int p4), .val (.int p5), .val (.int p6), .val (.int i1), .val (.int i2), .val (.int (2 : Int32)), .val (.int (0 : Int32)), .val (.ref b34), .val (.long (0 : Int64)), .second, .val (.long (i1.toInt64)), .second, .val (.long len), .second, .val (.long (0 : Int64)), .second, .val (.int (0 : Int32)), .val (.int (0 : Int32))] [(.int (0 : Int32)), (.int (0 : Int32)), (.ref b34)]))
        obtain ⟨cq43, kq43, q43a, q43b, q43c⟩ := isOf hZ rfl P40_1
        obtain ⟨_, _, ⟨T43, L43, kc43, ns43⟩, -, X43, ⟨Lc43, hQ43, l43, y43, z43⟩, st43⟩ := X40.virtualBack hx (y := (⟨"com/example/tercet/tercet/core/Pages", "startsPage", "(II)Z"⟩ : MethodName)) (z := (⟨"com/example/tercet/tercet/core/Pages", "startsPage", "(II)Z"⟩ : MethodName)) hown (mvT hZ (hw _ (List.mem_of_getElem? (i := 66) rfl))) (mvT hZ (hw _ (List.mem_of_getElem? (i := 67) rfl))) (notFace_of_selects (args := #[]) (mvT hZ (hw _ (List.mem_of_getElem? (i := 69) rfl)))) (mvT hZ (hw _ (List.mem_of_getElem? (i := 69) rfl))) (mvT hZ (hw _ (List.mem_of_getElem? (i := 68) rfl))) (by decide) (backOf (W := 0) (rmS_0 l Z a0 hw [] b34 (0 : Int32) (T40.heap) n0 (Nat.le_trans Z0 K40.1) ) hZ (hw _ (List.mem_of_getElem? (i := 70) rfl)) (hw _ (List.mem_of_getElem? (i := 5) rfl)) (by decide) (by decide)) q43a q43c (g := (mkF m 218 #[.val (.int p1), .val (.int p2), .val (.int p3), .val (.int p4), .val (.int p5), .val (.int p6), .val (.int i1), .val (.int i2), .val (.int (2 : Int32)), .val (.int (0 : Int32)), .val (.ref b34), .val (.long (0 : Int64)), .second, .val (.long (i1.toInt64)), .second, .val (.long len), .second, .val (.long (0 : Int64)), .second, .val (.int (0 : Int32)), .val (.int (0 : Int32))] [(.int (0 : Int32)), (.int (0 : Int32)), (.ref b34)])) rfl (by rw [hml]; rfl) (Steps.refl _) (argsL := [(.int (0 : Int32)), (.int (0 : Int32))]) (rest := []) (lenOf pd__II_Z rfl) rfl (by show 2 * 0 + _ ≤ _; exact Nat.le_of_eq rfl) (hb hby at_218) (fun _ _ => ⟨rfl, rfl, (by decide : 7 + 0 ≤ _), (by decide : 21 + 0 ≤ _)⟩)
        dsimp only [Pt.U, Pt.locs, Pt.cells, Pt.slots] at X43 l43 y43 z43 st43 hQ43
        subst l43 y43 z43
        obtain ⟨rfl, N43q, e43⟩ := hQ43
        have N43 := Fr.app N40 N43q
        refine OwnR.of (fun _ hr => st43.trans hr) ?_
        show OwnR _ _ _ _ _ _ _ (T43.setTop (mkF m 221 #[.val (.int p1), .val (.int p2), .val (.int p3), .val (.int p4), .val (.int p5), .val (.int p6), .val (.int i1), .val (.int i2), .val (.int (2 : Int32)), .val (.int (0 : Int32)), .val (.ref b34), .val (.long (0 : Int64)), .second, .val (.long (i1.toInt64)), .second, .val (.long len), .second, .val (.long (0 : Int64)), .second, .val (.int (0 : Int32)), .val (.int (0 : Int32))] [(.int (0 : Int32))]))
        refine OwnR.of (fun _ hr => XS.iload X43.here hx rfl (hb hby at_221) rfl hr) ?_
        show OwnR _ _ _ _ _ _ _ (T43.setTop (mkF m 223 #[.val (.int p1), .val (.int p2), .val (.int p3), .val (.int p4), .val (.int p5), .val (.int p6), .val (.int i1), .val (.int i2), .val (.int (2 : Int32)), .val (.int (0 : Int32)), .val (.ref b34), .val (.long (0 : Int64)), .second, .val (.long (i1.toInt64)), .second, .val (.long len), .second, .val (.long (0 : Int64)), .second, .val (.int (0 : Int32)), .val (.int (0 : Int32))] [(.int (0 : Int32)), (.int (0 : Int32))]))
        refine OwnR.of (fun _ hr => XS.icmpNo X43.here hx rfl (hb hby at_223) rfl (teq (by decide : (0 : Int32) = (0 : Int32))).2 hr) ?_
        show OwnR _ _ _ _ _ _ _ (T43.setTop (mkF m 226 #[.val (.int p1), .val (.int p2), .val (.int p3), .val (.int p4), .val (.int p5), .val (.int p6), .val (.int i1), .val (.int i2), .val (.int (2 : Int32)), .val (.int (0 : Int32)), .val (.ref b34), .val (.long (0 : Int64)), .second, .val (.long (i1.toInt64)), .second, .val (.long len), .second, .val (.long (0 : Int64)), .second, .val (.int (0 : Int32)), .val (.int (0 : Int32))] []))
        refine OwnR.of (fun _ hr => XS.iconst X43.here hx rfl (hb hby at_226) hr) ?_
        show OwnR _ _ _ _ _ _ _ (T43.setTop (mkF m 227 #[.val (.int p1), .val (.int p2), .val (.int p3), .val (.int p4), .val (.int p5), .val (.int p6), .val (.int i1), .val (.int i2), .val (.int (2 : Int32)), .val (.int (0 : Int32)), .val (.ref b34), .val (.long (0 : Int64)), .second, .val (.long (i1.toInt64)), .second, .val (.long len), .second, .val (.long (0 : Int64)), .second, .val (.int (0 : Int32)), .val (.int (0 : Int32))] [(.int (1 : Int32))]))
        refine OwnR.of (fun _ hr => XS.goto X43.here hx rfl (pc0 := 227) (pc' := 231) rfl (hb hby at_227) (by decide) (by decide) hr) ?_
        show OwnR _ _ _ _ _ _ _ (T43.setTop (mkF m 231 #[.val (.int p1), .val (.int p2), .val (.int p3), .val (.int p4), .val (.int p5), .val (.int p6), .val (.int i1), .val (.int i2), .val (.int (2 : Int32)), .val (.int (0 : Int32)), .val (.ref b34), .val (.long (0 : Int64)), .second, .val (.long (i1.toInt64)), .second, .val (.long len), .second, .val (.long (0 : Int64)), .second, .val (.int (0 : Int32)), .val (.int (0 : Int32))] [(.int (1 : Int32))]))
        refine own_leafN X43 hx hlk (t := .boolean) Bd.returns (by simp) (hb hby at_231) (z' := (1 : Int32)) rfl (by decide) (by decide) ?_
        show Q0 Z  h0 n0 _ T43.heap _
        rw [show T43.heap = T40.heap from e43]
        refine ⟨?_, N43⟩
        show (some (.int (1 : Int32)) : Option Value) = some (.int (1 : Int32))
        rfl
    · skip
      show OwnR _ _ _ _ _ _ _ (s₁.setTop (mkF m 38 #[.val (.int p1), .val (.int p2), .val (.int p3), .val (.int p4), .val (.int p5), .val (.int p6), .val (.int i1), .val (.int i2), .val (.int (2 : Int32)), .val (.int (1 : Int32)), .unset, .unset, .unset, .unset, .unset, .unset, .unset, .unset, .unset, .unset, .unset] []))
      obtain ⟨T44, h44, X44, e44, E44, A44, D44, -, st44⟩ := newO X0 hx hZ hown (hw _ (List.mem_of_getElem? (i := 3) rfl)) (hw _ (List.mem_of_getElem? (i := 4) rfl)) (hw _ (List.mem_of_getElem? (i := 5) rfl)) e0 (g := (mkF m 38 #[.val (.int p1), .val (.int p2), .val (.int p3), .val (.int p4), .val (.int p5), .val (.int p6), .val (.int i1), .val (.int i2), .val (.int (2 : Int32)), .val (.int (1 : Int32)), .unset, .unset, .unset, .unset, .unset, .unset, .unset, .unset, .unset, .unset, .unset] [])) rfl (hb hby at_38) (by decide) (by decide)
      obtain ⟨b44, g44⟩ : ∃ z, z = h0.size := ⟨_, rfl⟩
      rw [← g44] at A44 D44 st44
      refine OwnR.of (st44) ?_
      have gn_b44 : n0 ≤ b44 := Nat.le_trans (Nat.le_trans Z0 (Keep.refl h0 []).1) (Nat.le_of_eq g44.symm)
      have sz_b44 : h0.size ≤ b44 := Nat.le_trans (Keep.refl h0 []).1 (Nat.le_of_eq g44.symm)
      have K44 : Keep h0 h44 [] := Keep.ext (Keep.refl h0 []) E44
      have F_pageLength_b44 : Fld Z h44 b44 "com/example/tercet/tercet/core/Pages" "pageLength" "I" (.int (0 : Int32)) := D44 (Or.inr (hw _ (List.mem_of_getElem? (i := 20) rfl))) (ty := .int) (by decide)
      have F_limit_b44 : Fld Z h44 b44 "com/example/tercet/tercet/core/Pages" "limit" "I" (.int (0 : Int32)) := D44 (Or.inl (hw _ (List.mem_of_getElem? (i := 22) rfl))) (ty := .int) (by decide)
      have F_last_b44 : Fld Z h44 b44 "com/example/tercet/tercet/core/Pages" "last" "Ljava/lang/Object;" .null := D44 (Or.inl (hw _ (List.mem_of_getElem? (i := 24) rfl))) (ty := (.object "java/lang/Object")) (by decide)
      have F_pages_b44 : Fld Z h44 b44 "com/example/tercet/tercet/core/Pages" "pages" "[Ljava/lang/Object;" .null := D44 (Or.inl (hw _ (List.mem_of_getElem? (i := 29) rfl))) (ty := (.array (.object "java/lang/Object"))) (by decide)
      have F_firsts_b44 : Fld Z h44 b44 "com/example/tercet/tercet/core/Pages" "firsts" "[I" .null := D44 (Or.inl (hw _ (List.mem_of_getElem? (i := 32) rfl))) (ty := (.array .int)) (by decide)
      have F_count_b44 : Fld Z h44 b44 "com/example/tercet/tercet/core/Pages" "count" "I" (.int (0 : Int32)) := D44 (Or.inl (hw _ (List.mem_of_getElem? (i := 34) rfl))) (ty := .int) (by decide)
      show OwnR _ _ _ _ _ _ _ (T44.setTop (mkF m 41 #[.val (.int p1), .val (.int p2), .val (.int p3), .val (.int p4), .val (.int p5), .val (.int p6), .val (.int i1), .val (.int i2), .val (.int (2 : Int32)), .val (.int (1 : Int32)), .unset, .unset, .unset, .unset, .unset, .unset, .unset, .unset, .unset, .unset, .unset] [(.ref b44)]))
      refine OwnR.of (fun _ hr => XS.dup X44.here hx rfl (hb hby at_41) rfl rfl hr) ?_
      show OwnR _ _ _ _ _ _ _ (T44.setTop (mkF m 42 #[.val (.int p1), .val (.int p2), .val (.int p3), .val (.int p4), .val (.int p5), .val (.int p6), .val (.int i1), .val (.int i2), .val (.int (2 : Int32)), .val (.int (1 : Int32)), .unset, .unset, .unset, .unset, .unset, .unset, .unset, .unset, .unset, .unset, .unset] [(.ref b44), (.ref b44)]))
      refine OwnR.of (fun _ hr => XS.iconst X44.here hx rfl (hb hby at_42) hr) ?_
      show OwnR _ _ _ _ _ _ _ (T44.setTop (mkF m 43 #[.val (.int p1), .val (.int p2), .val (.int p3), .val (.int p4), .val (.int p5), .val (.int p6), .val (.int i1), .val (.int i2), .val (.int (2 : Int32)), .val (.int (1 : Int32)), .unset, .unset, .unset, .unset, .unset, .unset, .unset, .unset, .unset, .unset, .unset] [(.int (0 : Int32)), (.ref b44), (.ref b44)]))
      obtain ⟨_, _, ⟨T45, L45, kc45, ns45⟩, -, X45, ⟨Lc45, hQ45, l45, y45, z45⟩, st45⟩ := Jvm.LawKit.callS X44 hx (y := (⟨"java/lang/Integer", "valueOf", "(I)Ljava/lang/Integer;"⟩ : MethodName)) hown (mvT hZ (hw _ (List.mem_of_getElem? (i := 6) rfl))) (mvT hZ (hw _ (List.mem_of_getElem? (i := 7) rfl))) (mvT hZ (hw _ (List.mem_of_getElem? (i := 8) rfl))) (mvT hZ (hw _ (List.mem_of_getElem? (i := 9) rfl))) (by decide) (backOf (W := 2) (rmV_0 l Z a0 hw [] sc cc iv0 iv1 iv2 h44 n0 (Nat.le_trans Z0 K44.1) (own_sta S_high K44) (own_sta S_cache K44) (own_arr Ar_sc K44 nin0) hin0 hin1 hin2 hat0 hat1 hat2) hZ (hw _ (List.mem_of_getElem? (i := 9) rfl)) (hw _ (List.mem_of_getElem? (i := 8) rfl)) (by decide) (by decide)) (g := (mkF m 43 #[.val (.int p1), .val (.int p2), .val (.int p3), .val (.int p4), .val (.int p5), .val (.int p6), .val (.int i1), .val (.int i2), .val (.int (2 : Int32)), .val (.int (1 : Int32)), .unset, .unset, .unset, .unset, .unset, .unset, .unset, .unset, .unset, .unset, .unset] [(.int (0 : Int32)), (.ref b44), (.ref b44)])) rfl (by rw [hml]; rfl) (argsL := [(.int (0 : Int32))]) (rest := [(.ref b44), (.ref b44)]) (lenOf pd__I_Ljava_lang_Integer_ rfl) rfl (by show 2 * 0 + _ ≤ _; exact Nat.le_of_eq rfl) (hb hby at_43) (fun _ _ => ⟨rfl, e44, (by decide : 1 + 0 ≤ _), (by decide : 7 + 0 ≤ _)⟩)
      dsimp only [Pt.U, Pt.locs, Pt.cells, Pt.slots] at X45 l45 y45 z45 st45 hQ45
      subst l45 y45 z45
      obtain ⟨rfl, N45q, e45⟩ := hQ45
      have N45 := Fr.app N0 N45q
      refine OwnR.of (st45) ?_
      show OwnR _ _ _ _ _ _ _ (T45.setTop (mkF m 46 #[.val (.int p1), .val (.int p2), .val (.int p3), .val (.int p4), .val (.int p5), .val (.int p6), .val (.int i1), .val (.int i2), .val (.int (2 : Int32)), .val (.int (1 : Int32)), .unset, .unset, .unset, .unset, .unset, .unset, .unset, .unset, .unset, .unset, .unset] [(.ref iv0), (.ref b44), (.ref b44)]))
      refine OwnR.of (fun _ hr => XS.iconst X45.here hx rfl (hb hby at_46) hr) ?_
      show OwnR _ _ _ _ _ _ _ (T45.setTop (mkF m 47 #[.val (.int p1), .val (.int p2), .val (.int p3), .val (.int p4), .val (.int p5), .val (.int p6), .val (.int i1), .val (.int i2), .val (.int (2 : Int32)), .val (.int (1 : Int32)), .unset, .unset, .unset, .unset, .unset, .unset, .unset, .unset, .unset, .unset, .unset] [(.int (4 : Int32)), (.ref iv0), (.ref b44), (.ref b44)]))
      refine OwnR.of (fun _ hr => XS.iconst X45.here hx rfl (hb hby at_47) hr) ?_
      show OwnR _ _ _ _ _ _ _ (T45.setTop (mkF m 48 #[.val (.int p1), .val (.int p2), .val (.int p3), .val (.int p4), .val (.int p5), .val (.int p6), .val (.int i1), .val (.int i2), .val (.int (2 : Int32)), .val (.int (1 : Int32)), .unset, .unset, .unset, .unset, .unset, .unset, .unset, .unset, .unset, .unset, .unset] [(.int (2 : Int32)), (.int (4 : Int32)), (.ref iv0), (.ref b44), (.ref b44)]))
      obtain ⟨_, _, ⟨T46, L46, kc46, ns46⟩, -, X46, ⟨Lc46, hQ46, l46, y46, z46⟩, st46⟩ := X45.specialBack hx (y := (⟨"com/example/tercet/tercet/core/Pages", "<init>", "(Ljava/lang/Object;II)V"⟩ : MethodName)) rfl hown (mvT hZ (hw _ (List.mem_of_getElem? (i := 13) rfl))) (mvT hZ (hw _ (List.mem_of_getElem? (i := 14) rfl))) (mvT hZ (hw _ (List.mem_of_getElem? (i := 15) rfl))) (by decide) (backOf (W := 1) (rmI l Z a0 hw [] b44 iv0 (4 : Int32) (2 : Int32) h44 n0 (Nat.le_trans Z0 K44.1) A44 F_pageLength_b44 F_limit_b44 F_last_b44 F_pages_b44 F_firsts_b44 F_count_b44 (Exa.keep E_iv0 K44) gn_b44) hZ (hw _ (List.mem_of_getElem? (i := 15) rfl)) (hw _ (List.mem_of_getElem? (i := 5) rfl)) (by decide) (by decide)) (g := (mkF m 48 #[.val (.int p1), .val (.int p2), .val (.int p3), .val (.int p4), .val (.int p5), .val (.int p6), .val (.int i1), .val (.int i2), .val (.int (2 : Int32)), .val (.int (1 : Int32)), .unset, .unset, .unset, .unset, .unset, .unset, .unset, .unset, .unset, .unset, .unset] [(.int (2 : Int32)), (.int (4 : Int32)), (.ref iv0), (.ref b44), (.ref b44)])) rfl (by rw [hml]; rfl) (Steps.refl _) (a := b44) (argsL := [(.ref iv0), (.int (4 : Int32)), (.int (2 : Int32))]) (rest := [(.ref b44)]) (lenOf pd__Ljava_lang_Object_II_V rfl) rfl (by show 2 * 0 + _ ≤ _; exact Nat.le_of_eq rfl) (hb hby at_48) (fun _ _ => ⟨rfl, e45, (by decide : 1 + 2 ≤ _), (by decide : 7 + 2 ≤ _)⟩)
      dsimp only [Pt.U, Pt.locs, Pt.cells, Pt.slots] at X46 l46 y46 z46 st46 hQ46
      subst l46 y46 z46
      obtain ⟨b_46, kb_46, c_46, kc_46, rfl, N46q, P46_0, P46_1, P46_2, P46_3, P46_4, P46_5, P46_6, P46_7, P46_8, P46_9, P46_10, P46_11, P46_12, P46_13, P46_14⟩ := hQ46
      have K46 : Keep h0 T46.heap [] := Keep.trans K44 P46_0 (allS (Or.inr sz_b44) all0)
      have sz_b_46 : h0.size ≤ b_46 := Nat.le_trans K44.1 P46_11
      have sz_c_46 : h0.size ≤ c_46 := Nat.le_trans K44.1 P46_13
      have N46 := Fr.app N45 N46q
      refine OwnR.of (fun _ hr => st46.trans hr) ?_
      show OwnR _ _ _ _ _ _ _ (T46.setTop (mkF m 51 #[.val (.int p1), .val (.int p2), .val (.int p3), .val (.int p4), .val (.int p5), .val (.int p6), .val (.int i1), .val (.int i2), .val (.int (2 : Int32)), .val (.int (1 : Int32)), .unset, .unset, .unset, .unset, .unset, .unset, .unset, .unset, .unset, .unset, .unset] [(.ref b44)]))
      refine OwnR.of (fun _ hr => XS.astore X46.here hx rfl (hb hby at_51) rfl rfl (l' := #[.val (.int p1), .val (.int p2), .val (.int p3), .val (.int p4), .val (.int p5), .val (.int p6), .val (.int i1), .val (.int i2), .val (.int (2 : Int32)), .val (.int (1 : Int32)), .val (.ref b44), .unset, .unset, .unset, .unset, .unset, .unset, .unset, .unset, .unset, .unset]) rfl hr) ?_
      show OwnR _ _ _ _ _ _ _ (T46.setTop (mkF m 53 #[.val (.int p1), .val (.int p2), .val (.int p3), .val (.int p4), .val (.int p5), .val (.int p6), .val (.int i1), .val (.int i2), .val (.int (2 : Int32)), .val (.int (1 : Int32)), .val (.ref b44), .unset, .unset, .unset, .unset, .unset, .unset, .unset, .unset, .unset, .unset] []))
      refine OwnR.of (fun _ hr => XS.iload X46.here hx rfl (hb hby at_53) rfl hr) ?_
      show OwnR _ _ _ _ _ _ _ (T46.setTop (mkF m 55 #[.val (.int p1), .val (.int p2), .val (.int p3), .val (.int p4), .val (.int p5), .val (.int p6), .val (.int i1), .val (.int i2), .val (.int (2 : Int32)), .val (.int (1 : Int32)), .val (.ref b44), .unset, .unset, .unset, .unset, .unset, .unset, .unset, .unset, .unset, .unset] [(.int (2 : Int32))]))
      refine OwnR.of (fun _ hr => XS.iconst X46.here hx rfl (hb hby at_55) hr) ?_
      show OwnR _ _ _ _ _ _ _ (T46.setTop (mkF m 56 #[.val (.int p1), .val (.int p2), .val (.int p3), .val (.int p4), .val (.int p5), .val (.int p6), .val (.int i1), .val (.int i2), .val (.int (2 : Int32)), .val (.int (1 : Int32)), .val (.ref b44), .unset, .unset, .unset, .unset, .unset, .unset, .unset, .unset, .unset, .unset] [(.int (1 : Int32)), (.int (2 : Int32))]))
      refine OwnR.of (fun _ hr => XS.icmpNo X46.here hx rfl (hb hby at_56) rfl (flt (by decide : ¬ ((2 : Int32) < (1 : Int32)))).1 hr) ?_
      show OwnR _ _ _ _ _ _ _ (T46.setTop (mkF m 59 #[.val (.int p1), .val (.int p2), .val (.int p3), .val (.int p4), .val (.int p5), .val (.int p6), .val (.int i1), .val (.int i2), .val (.int (2 : Int32)), .val (.int (1 : Int32)), .val (.ref b44), .unset, .unset, .unset, .unset, .unset, .unset, .unset, .unset, .unset, .unset] []))
      refine OwnR.of (fun _ hr => XS.aload X46.here hx rfl (hb hby at_59) rfl rfl hr) ?_
      show OwnR _ _ _ _ _ _ _ (T46.setTop (mkF m 61 #[.val (.int p1), .val (.int p2), .val (.int p3), .val (.int p4), .val (.int p5), .val (.int p6), .val (.int i1), .val (.int i2), .val (.int (2 : Int32)), .val (.int (1 : Int32)), .val (.ref b44), .unset, .unset, .unset, .unset, .unset, .unset, .unset, .unset, .unset, .unset] [(.ref b44)]))
      refine OwnR.of (fun _ hr => XS.iload X46.here hx rfl (hb hby at_61) rfl hr) ?_
      show OwnR _ _ _ _ _ _ _ (T46.setTop (mkF m 63 #[.val (.int p1), .val (.int p2), .val (.int p3), .val (.int p4), .val (.int p5), .val (.int p6), .val (.int i1), .val (.int i2), .val (.int (2 : Int32)), .val (.int (1 : Int32)), .val (.ref b44), .unset, .unset, .unset, .unset, .unset, .unset, .unset, .unset, .unset, .unset] [(.int i1), (.ref b44)]))
      refine OwnR.of (fun _ hr => XS.iconst X46.here hx rfl (hb hby at_63) hr) ?_
      show OwnR _ _ _ _ _ _ _ (T46.setTop (mkF m 64 #[.val (.int p1), .val (.int p2), .val (.int p3), .val (.int p4), .val (.int p5), .val (.int p6), .val (.int i1), .val (.int i2), .val (.int (2 : Int32)), .val (.int (1 : Int32)), .val (.ref b44), .unset, .unset, .unset, .unset, .unset, .unset, .unset, .unset, .unset, .unset] [(.int (1 : Int32)), (.int i1), (.ref b44)]))
      obtain ⟨_, _, ⟨T47, L47, kc47, ns47⟩, -, X47, ⟨Lc47, hQ47, l47, y47, z47⟩, st47⟩ := Jvm.LawKit.callS X46 hx (y := (⟨"java/lang/Integer", "valueOf", "(I)Ljava/lang/Integer;"⟩ : MethodName)) hown (mvT hZ (hw _ (List.mem_of_getElem? (i := 6) rfl))) (mvT hZ (hw _ (List.mem_of_getElem? (i := 7) rfl))) (mvT hZ (hw _ (List.mem_of_getElem? (i := 8) rfl))) (mvT hZ (hw _ (List.mem_of_getElem? (i := 9) rfl))) (by decide) (backOf (W := 2) (rmV_1 l Z a0 hw [] sc cc iv0 iv1 iv2 (T46.heap) n0 (Nat.le_trans Z0 K46.1) (own_sta S_high K46) (own_sta S_cache K46) (own_arr Ar_sc K46 nin0) hin0 hin1 hin2 hat0 hat1 hat2) hZ (hw _ (List.mem_of_getElem? (i := 9) rfl)) (hw _ (List.mem_of_getElem? (i := 8) rfl)) (by decide) (by decide)) (g := (mkF m 64 #[.val (.int p1), .val (.int p2), .val (.int p3), .val (.int p4), .val (.int p5), .val (.int p6), .val (.int i1), .val (.int i2), .val (.int (2 : Int32)), .val (.int (1 : Int32)), .val (.ref b44), .unset, .unset, .unset, .unset, .unset, .unset, .unset, .unset, .unset, .unset] [(.int (1 : Int32)), (.int i1), (.ref b44)])) rfl (by rw [hml]; rfl) (argsL := [(.int (1 : Int32))]) (rest := [(.int i1), (.ref b44)]) (lenOf pd__I_Ljava_lang_Integer_ rfl) rfl (by show 2 * 0 + _ ≤ _; exact Nat.le_of_eq rfl) (hb hby at_64) (fun _ _ => ⟨rfl, rfl, (by decide : 3 + 0 ≤ _), (by decide : 9 + 0 ≤ _)⟩)
      dsimp only [Pt.U, Pt.locs, Pt.cells, Pt.slots] at X47 l47 y47 z47 st47 hQ47
      subst l47 y47 z47
      obtain ⟨rfl, N47q, e47⟩ := hQ47
      have N47 := Fr.app N46 N47q
      refine OwnR.of (st47) ?_
      show OwnR _ _ _ _ _ _ _ (T47.setTop (mkF m 67 #[.val (.int p1), .val (.int p2), .val (.int p3), .val (.int p4), .val (.int p5), .val (.int p6), .val (.int i1), .val (.int i2), .val (.int (2 : Int32)), .val (.int (1 : Int32)), .val (.ref b44), .unset, .unset, .unset, .unset, .unset, .unset, .unset, .unset, .unset, .unset] [(.ref iv1), (.int i1), (.ref b44)]))
      obtain ⟨cq48, kq48, q48a, q48b, q48c⟩ := isOf hZ e47 P46_1
      obtain ⟨_, _, ⟨T48, L48, kc48, ns48⟩, -, X48, ⟨Lc48, hQ48, l48, y48, z48⟩, st48⟩ := X47.virtualBack hx (y := (⟨"com/example/tercet/tercet/core/Pages", "turn", "(ILjava/lang/Object;)V"⟩ : MethodName)) (z := (⟨"com/example/tercet/tercet/core/Pages", "turn", "(ILjava/lang/Object;)V"⟩ : MethodName)) hown (mvT hZ (hw _ (List.mem_of_getElem? (i := 35) rfl))) (mvT hZ (hw _ (List.mem_of_getElem? (i := 36) rfl))) (notFace_of_selects (args := #[]) (mvT hZ (hw _ (List.mem_of_getElem? (i := 38) rfl)))) (mvT hZ (hw _ (List.mem_of_getElem? (i := 38) rfl))) (mvT hZ (hw _ (List.mem_of_getElem? (i := 37) rfl))) (by decide) (backOf (W := 0) (rmT_1 l Z a0 hw [] b44 i1 iv1 (2 : Int32) (4 : Int32) iv0 b_46 c_46 kb_46 kc_46 iv0 (0 : Int32) mo (T46.heap) n0 (Nat.le_trans Z0 K46.1) P46_1 P46_2 P46_3 P46_4 P46_5 P46_6 P46_7 P46_8 P46_10 P46_9 (Exa.keep E_iv1 K46) (Exa.keep E_iv0 K46) M_mo gn_b44 (Nat.ne_of_lt (Nat.lt_of_lt_of_le A44.lt P46_11)) (Nat.ne_of_lt (Nat.lt_of_lt_of_le A44.lt P46_13))) hZ (hw _ (List.mem_of_getElem? (i := 39) rfl)) (hw _ (List.mem_of_getElem? (i := 5) rfl)) (by decide) (by decide)) q48a q48c (g := (mkF m 67 #[.val (.int p1), .val (.int p2), .val (.int p3), .val (.int p4), .val (.int p5), .val (.int p6), .val (.int i1), .val (.int i2), .val (.int (2 : Int32)), .val (.int (1 : Int32)), .val (.ref b44), .unset, .unset, .unset, .unset, .unset, .unset, .unset, .unset, .unset, .unset] [(.ref iv1), (.int i1), (.ref b44)])) rfl (by rw [hml]; rfl) (Steps.refl _) (argsL := [(.int i1), (.ref iv1)]) (rest := []) (lenOf pd__ILjava_lang_Object__V rfl) rfl (by show 2 * 0 + _ ≤ _; exact Nat.le_of_eq rfl) (hb hby at_67) (fun _ _ => ⟨rfl, e47, (by decide : 3 + 2 ≤ _), (by decide : 9 + 4 ≤ _)⟩)
      dsimp only [Pt.U, Pt.locs, Pt.cells, Pt.slots] at X48 l48 y48 z48 st48 hQ48
      subst l48 y48 z48
      obtain ⟨b_48, kb_48, c_48, kc_48, rfl, N48q, P48_0, P48_1, P48_2, P48_3, P48_4, P48_5, P48_6, P48_7, P48_8, P48_9, P48_10, P48_11, P48_12, P48_13, P48_14, P48_15⟩ := hQ48
      have K48 : Keep h0 T48.heap [] := Keep.trans K46 P48_0 (allS (Or.inr sz_b44) all0)
      have sz_b_48 : h0.size ≤ b_48 := Nat.le_trans K46.1 P48_12
      have sz_c_48 : h0.size ≤ c_48 := Nat.le_trans K46.1 P48_14
      have N48 := Fr.app N47 N48q
      refine OwnR.of (fun _ hr => st48.trans hr) ?_
      show OwnR _ _ _ _ _ _ _ (T48.setTop (mkF m 70 #[.val (.int p1), .val (.int p2), .val (.int p3), .val (.int p4), .val (.int p5), .val (.int p6), .val (.int i1), .val (.int i2), .val (.int (2 : Int32)), .val (.int (1 : Int32)), .val (.ref b44), .unset, .unset, .unset, .unset, .unset, .unset, .unset, .unset, .unset, .unset] []))
      refine OwnR.of (fun _ hr => XS.iload X48.here hx rfl (hb hby at_70) rfl hr) ?_
      show OwnR _ _ _ _ _ _ _ (T48.setTop (mkF m 72 #[.val (.int p1), .val (.int p2), .val (.int p3), .val (.int p4), .val (.int p5), .val (.int p6), .val (.int i1), .val (.int i2), .val (.int (2 : Int32)), .val (.int (1 : Int32)), .val (.ref b44), .unset, .unset, .unset, .unset, .unset, .unset, .unset, .unset, .unset, .unset] [(.int (2 : Int32))]))
      refine OwnR.of (fun _ hr => XS.iconst X48.here hx rfl (hb hby at_72) hr) ?_
      show OwnR _ _ _ _ _ _ _ (T48.setTop (mkF m 73 #[.val (.int p1), .val (.int p2), .val (.int p3), .val (.int p4), .val (.int p5), .val (.int p6), .val (.int i1), .val (.int i2), .val (.int (2 : Int32)), .val (.int (1 : Int32)), .val (.ref b44), .unset, .unset, .unset, .unset, .unset, .unset, .unset, .unset, .unset, .unset] [(.int (2 : Int32)), (.int (2 : Int32))]))
      refine OwnR.of (fun _ hr => XS.icmpNo X48.here hx rfl (hb hby at_73) rfl (flt (by decide : ¬ ((2 : Int32) < (2 : Int32)))).1 hr) ?_
      show OwnR _ _ _ _ _ _ _ (T48.setTop (mkF m 76 #[.val (.int p1), .val (.int p2), .val (.int p3), .val (.int p4), .val (.int p5), .val (.int p6), .val (.int i1), .val (.int i2), .val (.int (2 : Int32)), .val (.int (1 : Int32)), .val (.ref b44), .unset, .unset, .unset, .unset, .unset, .unset, .unset, .unset, .unset, .unset] []))
      refine OwnR.of (fun _ hr => XS.aload X48.here hx rfl (hb hby at_76) rfl rfl hr) ?_
      show OwnR _ _ _ _ _ _ _ (T48.setTop (mkF m 78 #[.val (.int p1), .val (.int p2), .val (.int p3), .val (.int p4), .val (.int p5), .val (.int p6), .val (.int i1), .val (.int i2), .val (.int (2 : Int32)), .val (.int (1 : Int32)), .val (.ref b44), .unset, .unset, .unset, .unset, .unset, .unset, .unset, .unset, .unset, .unset] [(.ref b44)]))
      refine OwnR.of (fun _ hr => XS.iload X48.here hx rfl (hb hby at_78) rfl hr) ?_
      show OwnR _ _ _ _ _ _ _ (T48.setTop (mkF m 80 #[.val (.int p1), .val (.int p2), .val (.int p3), .val (.int p4), .val (.int p5), .val (.int p6), .val (.int i1), .val (.int i2), .val (.int (2 : Int32)), .val (.int (1 : Int32)), .val (.ref b44), .unset, .unset, .unset, .unset, .unset, .unset, .unset, .unset, .unset, .unset] [(.int i2), (.ref b44)]))
      refine OwnR.of (fun _ hr => XS.iconst X48.here hx rfl (hb hby at_80) hr) ?_
      show OwnR _ _ _ _ _ _ _ (T48.setTop (mkF m 81 #[.val (.int p1), .val (.int p2), .val (.int p3), .val (.int p4), .val (.int p5), .val (.int p6), .val (.int i1), .val (.int i2), .val (.int (2 : Int32)), .val (.int (1 : Int32)), .val (.ref b44), .unset, .unset, .unset, .unset, .unset, .unset, .unset, .unset, .unset, .unset] [(.int (2 : Int32)), (.int i2), (.ref b44)]))
      obtain ⟨_, _, ⟨T49, L49, kc49, ns49⟩, -, X49, ⟨Lc49, hQ49, l49, y49, z49⟩, st49⟩ := Jvm.LawKit.callS X48 hx (y := (⟨"java/lang/Integer", "valueOf", "(I)Ljava/lang/Integer;"⟩ : MethodName)) hown (mvT hZ (hw _ (List.mem_of_getElem? (i := 6) rfl))) (mvT hZ (hw _ (List.mem_of_getElem? (i := 7) rfl))) (mvT hZ (hw _ (List.mem_of_getElem? (i := 8) rfl))) (mvT hZ (hw _ (List.mem_of_getElem? (i := 9) rfl))) (by decide) (backOf (W := 2) (rmV_2 l Z a0 hw [] sc cc iv0 iv1 iv2 (T48.heap) n0 (Nat.le_trans Z0 K48.1) (own_sta S_high K48) (own_sta S_cache K48) (own_arr Ar_sc K48 nin0) hin0 hin1 hin2 hat0 hat1 hat2) hZ (hw _ (List.mem_of_getElem? (i := 9) rfl)) (hw _ (List.mem_of_getElem? (i := 8) rfl)) (by decide) (by decide)) (g := (mkF m 81 #[.val (.int p1), .val (.int p2), .val (.int p3), .val (.int p4), .val (.int p5), .val (.int p6), .val (.int i1), .val (.int i2), .val (.int (2 : Int32)), .val (.int (1 : Int32)), .val (.ref b44), .unset, .unset, .unset, .unset, .unset, .unset, .unset, .unset, .unset, .unset] [(.int (2 : Int32)), (.int i2), (.ref b44)])) rfl (by rw [hml]; rfl) (argsL := [(.int (2 : Int32))]) (rest := [(.int i2), (.ref b44)]) (lenOf pd__I_Ljava_lang_Integer_ rfl) rfl (by show 2 * 0 + _ ≤ _; exact Nat.le_of_eq rfl) (hb hby at_81) (fun _ _ => ⟨rfl, rfl, (by decide : 5 + 0 ≤ _), (by decide : 13 + 0 ≤ _)⟩)
      dsimp only [Pt.U, Pt.locs, Pt.cells, Pt.slots] at X49 l49 y49 z49 st49 hQ49
      subst l49 y49 z49
      obtain ⟨rfl, N49q, e49⟩ := hQ49
      have N49 := Fr.app N48 N49q
      refine OwnR.of (st49) ?_
      show OwnR _ _ _ _ _ _ _ (T49.setTop (mkF m 84 #[.val (.int p1), .val (.int p2), .val (.int p3), .val (.int p4), .val (.int p5), .val (.int p6), .val (.int i1), .val (.int i2), .val (.int (2 : Int32)), .val (.int (1 : Int32)), .val (.ref b44), .unset, .unset, .unset, .unset, .unset, .unset, .unset, .unset, .unset, .unset] [(.ref iv2), (.int i2), (.ref b44)]))
      obtain ⟨cq50, kq50, q50a, q50b, q50c⟩ := isOf hZ e49 P48_1
      obtain ⟨_, _, ⟨T50, L50, kc50, ns50⟩, -, X50, ⟨Lc50, hQ50, l50, y50, z50⟩, st50⟩ := X49.virtualBack hx (y := (⟨"com/example/tercet/tercet/core/Pages", "turn", "(ILjava/lang/Object;)V"⟩ : MethodName)) (z := (⟨"com/example/tercet/tercet/core/Pages", "turn", "(ILjava/lang/Object;)V"⟩ : MethodName)) hown (mvT hZ (hw _ (List.mem_of_getElem? (i := 35) rfl))) (mvT hZ (hw _ (List.mem_of_getElem? (i := 36) rfl))) (notFace_of_selects (args := #[]) (mvT hZ (hw _ (List.mem_of_getElem? (i := 38) rfl)))) (mvT hZ (hw _ (List.mem_of_getElem? (i := 38) rfl))) (mvT hZ (hw _ (List.mem_of_getElem? (i := 37) rfl))) (by decide) (backOf (W := 0) (rmT_2 l Z a0 hw [] b44 i2 iv2 (2 : Int32) (2 : Int32) iv1 b_48 c_48 kb_48 kc_48 iv0 iv1 (0 : Int32) i1 mo (T48.heap) n0 (Nat.le_trans Z0 K48.1) P48_1 P48_2 P48_3 P48_4 P48_5 P48_6 P48_7 P48_8 P48_11 P48_10 (Exa.keep E_iv2 K48) (Exa.keep E_iv0 K48) (Exa.keep E_iv1 K48) M_mo gn_b44 (Nat.ne_of_lt (Nat.lt_of_lt_of_le (A44.keep P46_0).lt P48_12)) (Nat.ne_of_lt (Nat.lt_of_lt_of_le (A44.keep P46_0).lt P48_14))) hZ (hw _ (List.mem_of_getElem? (i := 39) rfl)) (hw _ (List.mem_of_getElem? (i := 5) rfl)) (by decide) (by decide)) q50a q50c (g := (mkF m 84 #[.val (.int p1), .val (.int p2), .val (.int p3), .val (.int p4), .val (.int p5), .val (.int p6), .val (.int i1), .val (.int i2), .val (.int (2 : Int32)), .val (.int (1 : Int32)), .val (.ref b44), .unset, .unset, .unset, .unset, .unset, .unset, .unset, .unset, .unset, .unset] [(.ref iv2), (.int i2), (.ref b44)])) rfl (by rw [hml]; rfl) (Steps.refl _) (argsL := [(.int i2), (.ref iv2)]) (rest := []) (lenOf pd__ILjava_lang_Object__V rfl) rfl (by show 2 * 0 + _ ≤ _; exact Nat.le_of_eq rfl) (hb hby at_84) (fun _ _ => ⟨rfl, e49, (by decide : 5 + 2 ≤ _), (by decide : 13 + 8 ≤ _)⟩)
      dsimp only [Pt.U, Pt.locs, Pt.cells, Pt.slots] at X50 l50 y50 z50 st50 hQ50
      subst l50 y50 z50
      obtain ⟨b_50, kb_50, c_50, kc_50, rfl, N50q, P50_0, P50_1, P50_2, P50_3, P50_4, P50_5, P50_6, P50_7, P50_8, P50_9, P50_10, P50_11, P50_12, P50_13, P50_14, P50_15⟩ := hQ50
      have K50 : Keep h0 T50.heap [] := Keep.trans K48 P50_0 (allS (Or.inr sz_b44) all0)
      have sz_b_50 : h0.size ≤ b_50 := Nat.le_trans K48.1 P50_12
      have sz_c_50 : h0.size ≤ c_50 := Nat.le_trans K48.1 P50_14
      have N50 := Fr.app N49 N50q
      refine OwnR.of (fun _ hr => st50.trans hr) ?_
      show OwnR _ _ _ _ _ _ _ (T50.setTop (mkF m 87 #[.val (.int p1), .val (.int p2), .val (.int p3), .val (.int p4), .val (.int p5), .val (.int p6), .val (.int i1), .val (.int i2), .val (.int (2 : Int32)), .val (.int (1 : Int32)), .val (.ref b44), .unset, .unset, .unset, .unset, .unset, .unset, .unset, .unset, .unset, .unset] []))
      refine OwnR.of (fun _ hr => XS.iload X50.here hx rfl (hb hby at_87) rfl hr) ?_
      show OwnR _ _ _ _ _ _ _ (T50.setTop (mkF m 89 #[.val (.int p1), .val (.int p2), .val (.int p3), .val (.int p4), .val (.int p5), .val (.int p6), .val (.int i1), .val (.int i2), .val (.int (2 : Int32)), .val (.int (1 : Int32)), .val (.ref b44), .unset, .unset, .unset, .unset, .unset, .unset, .unset, .unset, .unset, .unset] [(.int (1 : Int32))]))
      refine OwnR.of (fun _ hr => XS.ifYes X50.here hx rfl (pc0 := 89) (pc' := 115) rfl (hb hby at_89) rfl ((if0 _ _).trans (feq (by decide : ¬ ((1 : Int32) = (0 : Int32)))).2) (by decide) (by decide) hr) ?_
      show OwnR _ _ _ _ _ _ _ (T50.setTop (mkF m 115 #[.val (.int p1), .val (.int p2), .val (.int p3), .val (.int p4), .val (.int p5), .val (.int p6), .val (.int i1), .val (.int i2), .val (.int (2 : Int32)), .val (.int (1 : Int32)), .val (.ref b44), .unset, .unset, .unset, .unset, .unset, .unset, .unset, .unset, .unset, .unset] []))
      refine OwnR.of (fun _ hr => XS.iload X50.here hx rfl (hb hby at_115) rfl hr) ?_
      show OwnR _ _ _ _ _ _ _ (T50.setTop (mkF m 117 #[.val (.int p1), .val (.int p2), .val (.int p3), .val (.int p4), .val (.int p5), .val (.int p6), .val (.int i1), .val (.int i2), .val (.int (2 : Int32)), .val (.int (1 : Int32)), .val (.ref b44), .unset, .unset, .unset, .unset, .unset, .unset, .unset, .unset, .unset, .unset] [(.int (1 : Int32))]))
      refine OwnR.of (fun _ hr => XS.iconst X50.here hx rfl (hb hby at_117) hr) ?_
      show OwnR _ _ _ _ _ _ _ (T50.setTop (mkF m 118 #[.val (.int p1), .val (.int p2), .val (.int p3), .val (.int p4), .val (.int p5), .val (.int p6), .val (.int i1), .val (.int i2), .val (.int (2 : Int32)), .val (.int (1 : Int32)), .val (.ref b44), .unset, .unset, .unset, .unset, .unset, .unset, .unset, .unset, .unset, .unset] [(.int (1 : Int32)), (.int (1 : Int32))]))
      refine OwnR.of (fun _ hr => XS.icmpNo X50.here hx rfl (hb hby at_118) rfl (teq (by decide : (1 : Int32) = (1 : Int32))).2 hr) ?_
      show OwnR _ _ _ _ _ _ _ (T50.setTop (mkF m 121 #[.val (.int p1), .val (.int p2), .val (.int p3), .val (.int p4), .val (.int p5), .val (.int p6), .val (.int i1), .val (.int i2), .val (.int (2 : Int32)), .val (.int (1 : Int32)), .val (.ref b44), .unset, .unset, .unset, .unset, .unset, .unset, .unset, .unset, .unset, .unset] []))
      refine OwnR.of (fun _ hr => XS.iload X50.here hx rfl (hb hby at_121) rfl hr) ?_
      show OwnR _ _ _ _ _ _ _ (T50.setTop (mkF m 123 #[.val (.int p1), .val (.int p2), .val (.int p3), .val (.int p4), .val (.int p5), .val (.int p6), .val (.int i1), .val (.int i2), .val (.int (2 : Int32)), .val (.int (1 : Int32)), .val (.ref b44), .unset, .unset, .unset, .unset, .unset, .unset, .unset, .unset, .unset, .unset] [(.int i1)]))
      refine OwnR.of (fun _ hr => XS.i2l X50.here hx rfl (hb hby at_123) rfl hr) ?_
      show OwnR _ _ _ _ _ _ _ (T50.setTop (mkF m 124 #[.val (.int p1), .val (.int p2), .val (.int p3), .val (.int p4), .val (.int p5), .val (.int p6), .val (.int i1), .val (.int i2), .val (.int (2 : Int32)), .val (.int (1 : Int32)), .val (.ref b44), .unset, .unset, .unset, .unset, .unset, .unset, .unset, .unset, .unset, .unset] [(.long (i1.toInt64))]))
      refine OwnR.of (fun _ hr => XS.lstore X50.here hx rfl (hb hby at_124) rfl (l' := #[.val (.int p1), .val (.int p2), .val (.int p3), .val (.int p4), .val (.int p5), .val (.int p6), .val (.int i1), .val (.int i2), .val (.int (2 : Int32)), .val (.int (1 : Int32)), .val (.ref b44), .val (.long (i1.toInt64)), .second, .unset, .unset, .unset, .unset, .unset, .unset, .unset, .unset]) rfl hr) ?_
      show OwnR _ _ _ _ _ _ _ (T50.setTop (mkF m 126 #[.val (.int p1), .val (.int p2), .val (.int p3), .val (.int p4), .val (.int p5), .val (.int p6), .val (.int i1), .val (.int i2), .val (.int (2 : Int32)), .val (.int (1 : Int32)), .val (.ref b44), .val (.long (i1.toInt64)), .second, .unset, .unset, .unset, .unset, .unset, .unset, .unset, .unset] []))
      refine OwnR.of (fun _ hr => XS.iload X50.here hx rfl (hb hby at_126) rfl hr) ?_
      show OwnR _ _ _ _ _ _ _ (T50.setTop (mkF m 128 #[.val (.int p1), .val (.int p2), .val (.int p3), .val (.int p4), .val (.int p5), .val (.int p6), .val (.int i1), .val (.int i2), .val (.int (2 : Int32)), .val (.int (1 : Int32)), .val (.ref b44), .val (.long (i1.toInt64)), .second, .unset, .unset, .unset, .unset, .unset, .unset, .unset, .unset] [(.int (2 : Int32))]))
      refine OwnR.of (fun _ hr => XS.iconst X50.here hx rfl (hb hby at_128) hr) ?_
      show OwnR _ _ _ _ _ _ _ (T50.setTop (mkF m 129 #[.val (.int p1), .val (.int p2), .val (.int p3), .val (.int p4), .val (.int p5), .val (.int p6), .val (.int i1), .val (.int i2), .val (.int (2 : Int32)), .val (.int (1 : Int32)), .val (.ref b44), .val (.long (i1.toInt64)), .second, .unset, .unset, .unset, .unset, .unset, .unset, .unset, .unset] [(.int (2 : Int32)), (.int (2 : Int32))]))
      refine OwnR.of (fun _ hr => XS.icmpNo X50.here hx rfl (hb hby at_129) rfl (flt (by decide : ¬ ((2 : Int32) < (2 : Int32)))).1 hr) ?_
      show OwnR _ _ _ _ _ _ _ (T50.setTop (mkF m 132 #[.val (.int p1), .val (.int p2), .val (.int p3), .val (.int p4), .val (.int p5), .val (.int p6), .val (.int i1), .val (.int i2), .val (.int (2 : Int32)), .val (.int (1 : Int32)), .val (.ref b44), .val (.long (i1.toInt64)), .second, .unset, .unset, .unset, .unset, .unset, .unset, .unset, .unset] []))
      refine OwnR.of (fun _ hr => XS.iload X50.here hx rfl (hb hby at_132) rfl hr) ?_
      show OwnR _ _ _ _ _ _ _ (T50.setTop (mkF m 134 #[.val (.int p1), .val (.int p2), .val (.int p3), .val (.int p4), .val (.int p5), .val (.int p6), .val (.int i1), .val (.int i2), .val (.int (2 : Int32)), .val (.int (1 : Int32)), .val (.ref b44), .val (.long (i1.toInt64)), .second, .unset, .unset, .unset, .unset, .unset, .unset, .unset, .unset] [(.int i2)]))
      refine OwnR.of (fun _ hr => XS.i2l X50.here hx rfl (hb hby at_134) rfl hr) ?_
      show OwnR _ _ _ _ _ _ _ (T50.setTop (mkF m 135 #[.val (.int p1), .val (.int p2), .val (.int p3), .val (.int p4), .val (.int p5), .val (.int p6), .val (.int i1), .val (.int i2), .val (.int (2 : Int32)), .val (.int (1 : Int32)), .val (.ref b44), .val (.long (i1.toInt64)), .second, .unset, .unset, .unset, .unset, .unset, .unset, .unset, .unset] [(.long (i2.toInt64))]))
      refine OwnR.of (fun _ hr => XS.goto X50.here hx rfl (pc0 := 135) (pc' := 141) rfl (hb hby at_135) (by decide) (by decide) hr) ?_
      show OwnR _ _ _ _ _ _ _ (T50.setTop (mkF m 141 #[.val (.int p1), .val (.int p2), .val (.int p3), .val (.int p4), .val (.int p5), .val (.int p6), .val (.int i1), .val (.int i2), .val (.int (2 : Int32)), .val (.int (1 : Int32)), .val (.ref b44), .val (.long (i1.toInt64)), .second, .unset, .unset, .unset, .unset, .unset, .unset, .unset, .unset] [(.long (i2.toInt64))]))
      refine OwnR.of (fun _ hr => XS.lstore X50.here hx rfl (hb hby at_141) rfl (l' := #[.val (.int p1), .val (.int p2), .val (.int p3), .val (.int p4), .val (.int p5), .val (.int p6), .val (.int i1), .val (.int i2), .val (.int (2 : Int32)), .val (.int (1 : Int32)), .val (.ref b44), .val (.long (i1.toInt64)), .second, .val (.long (i2.toInt64)), .second, .unset, .unset, .unset, .unset, .unset, .unset]) rfl hr) ?_
      show OwnR _ _ _ _ _ _ _ (T50.setTop (mkF m 143 #[.val (.int p1), .val (.int p2), .val (.int p3), .val (.int p4), .val (.int p5), .val (.int p6), .val (.int i1), .val (.int i2), .val (.int (2 : Int32)), .val (.int (1 : Int32)), .val (.ref b44), .val (.long (i1.toInt64)), .second, .val (.long (i2.toInt64)), .second, .unset, .unset, .unset, .unset, .unset, .unset] []))
      refine OwnR.of (fun _ hr => XS.goto X50.here hx rfl (pc0 := 143) (pc' := 156) rfl (hb hby at_143) (by decide) (by decide) hr) ?_
      show OwnR _ _ _ _ _ _ _ (T50.setTop (mkF m 156 #[.val (.int p1), .val (.int p2), .val (.int p3), .val (.int p4), .val (.int p5), .val (.int p6), .val (.int i1), .val (.int i2), .val (.int (2 : Int32)), .val (.int (1 : Int32)), .val (.ref b44), .val (.long (i1.toInt64)), .second, .val (.long (i2.toInt64)), .second, .unset, .unset, .unset, .unset, .unset, .unset] []))
      refine OwnR.of (fun _ hr => XS.lload X50.here hx rfl (hb hby at_156) rfl hr) ?_
      show OwnR _ _ _ _ _ _ _ (T50.setTop (mkF m 158 #[.val (.int p1), .val (.int p2), .val (.int p3), .val (.int p4), .val (.int p5), .val (.int p6), .val (.int i1), .val (.int i2), .val (.int (2 : Int32)), .val (.int (1 : Int32)), .val (.ref b44), .val (.long (i1.toInt64)), .second, .val (.long (i2.toInt64)), .second, .unset, .unset, .unset, .unset, .unset, .unset] [(.long (i2.toInt64))]))
      refine OwnR.of (fun _ hr => XS.lload X50.here hx rfl (hb hby at_158) rfl hr) ?_
      show OwnR _ _ _ _ _ _ _ (T50.setTop (mkF m 160 #[.val (.int p1), .val (.int p2), .val (.int p3), .val (.int p4), .val (.int p5), .val (.int p6), .val (.int i1), .val (.int i2), .val (.int (2 : Int32)), .val (.int (1 : Int32)), .val (.ref b44), .val (.long (i1.toInt64)), .second, .val (.long (i2.toInt64)), .second, .unset, .unset, .unset, .unset, .unset, .unset] [(.long (i1.toInt64)), (.long (i2.toInt64))]))
      refine OwnR.of (fun _ hr => XS.lsub X50.here hx rfl (hb hby at_160) rfl hr) ?_
      show OwnR _ _ _ _ _ _ _ (T50.setTop (mkF m 161 #[.val (.int p1), .val (.int p2), .val (.int p3), .val (.int p4), .val (.int p5), .val (.int p6), .val (.int i1), .val (.int i2), .val (.int (2 : Int32)), .val (.int (1 : Int32)), .val (.ref b44), .val (.long (i1.toInt64)), .second, .val (.long (i2.toInt64)), .second, .unset, .unset, .unset, .unset, .unset, .unset] [(.long ((i2.toInt64) - (i1.toInt64)))]))
      refine OwnR.of (fun _ hr => XS.lstore X50.here hx rfl (hb hby at_161) rfl (l' := #[.val (.int p1), .val (.int p2), .val (.int p3), .val (.int p4), .val (.int p5), .val (.int p6), .val (.int i1), .val (.int i2), .val (.int (2 : Int32)), .val (.int (1 : Int32)), .val (.ref b44), .val (.long (i1.toInt64)), .second, .val (.long (i2.toInt64)), .second, .val (.long ((i2.toInt64) - (i1.toInt64))), .second, .unset, .unset, .unset, .unset]) rfl hr) ?_
      show OwnR _ _ _ _ _ _ _ (T50.setTop (mkF m 163 #[.val (.int p1), .val (.int p2), .val (.int p3), .val (.int p4), .val (.int p5), .val (.int p6), .val (.int i1), .val (.int i2), .val (.int (2 : Int32)), .val (.int (1 : Int32)), .val (.ref b44), .val (.long (i1.toInt64)), .second, .val (.long (i2.toInt64)), .second, .val (.long ((i2.toInt64) - (i1.toInt64))), .second, .unset, .unset, .unset, .unset] []))
      obtain ⟨len, hlen⟩ : ∃ z : Int64, z = ((i2.toInt64) - (i1.toInt64)) := ⟨_, rfl⟩
      rw [← hlen]
      show OwnR _ _ _ _ _ _ _ (T50.setTop (mkF m 163 #[.val (.int p1), .val (.int p2), .val (.int p3), .val (.int p4), .val (.int p5), .val (.int p6), .val (.int i1), .val (.int i2), .val (.int (2 : Int32)), .val (.int (1 : Int32)), .val (.ref b44), .val (.long (i1.toInt64)), .second, .val (.long (i2.toInt64)), .second, .val (.long len), .second, .unset, .unset, .unset, .unset] []))
      have hl0 : 0 < len.toInt ∧ i1.toInt + len.toInt ≤ 2147483648 := by rw [hlen]; exact own_l2 i1 i2 b1 b2
      have hnz182 : ¬ len = (0 : Int64) := own_nz len hl0.1
      refine OwnR.of (fun _ hr => XS.iload X50.here hx rfl (hb hby at_163) rfl hr) ?_
      show OwnR _ _ _ _ _ _ _ (T50.setTop (mkF m 165 #[.val (.int p1), .val (.int p2), .val (.int p3), .val (.int p4), .val (.int p5), .val (.int p6), .val (.int i1), .val (.int i2), .val (.int (2 : Int32)), .val (.int (1 : Int32)), .val (.ref b44), .val (.long (i1.toInt64)), .second, .val (.long (i2.toInt64)), .second, .val (.long len), .second, .unset, .unset, .unset, .unset] [(.int p6)]))
      refine OwnR.of (fun _ hr => XS.iconst X50.here hx rfl (hb hby at_165) hr) ?_
      show OwnR _ _ _ _ _ _ _ (T50.setTop (mkF m 166 #[.val (.int p1), .val (.int p2), .val (.int p3), .val (.int p4), .val (.int p5), .val (.int p6), .val (.int i1), .val (.int i2), .val (.int (2 : Int32)), .val (.int (1 : Int32)), .val (.ref b44), .val (.long (i1.toInt64)), .second, .val (.long (i2.toInt64)), .second, .val (.long len), .second, .unset, .unset, .unset, .unset] [(.int (1 : Int32)), (.int p6)]))
      refine OwnR.of (fun _ hr => XS.iand X50.here hx rfl (hb hby at_166) rfl hr) ?_
      show OwnR _ _ _ _ _ _ _ (T50.setTop (mkF m 167 #[.val (.int p1), .val (.int p2), .val (.int p3), .val (.int p4), .val (.int p5), .val (.int p6), .val (.int i1), .val (.int i2), .val (.int (2 : Int32)), .val (.int (1 : Int32)), .val (.ref b44), .val (.long (i1.toInt64)), .second, .val (.long (i2.toInt64)), .second, .val (.long len), .second, .unset, .unset, .unset, .unset] [(.int (p6 &&& (1 : Int32)))]))
      by_cases hc167_51 : (p6 &&& (1 : Int32)) = (0 : Int32)
      · skip
        refine OwnR.of (fun _ hr => XS.ifYes X50.here hx rfl (pc0 := 167) (pc' := 174) rfl (hb hby at_167) rfl ((if0 _ _).trans (teq hc167_51).1) (by decide) (by decide) hr) ?_
        show OwnR _ _ _ _ _ _ _ (T50.setTop (mkF m 174 #[.val (.int p1), .val (.int p2), .val (.int p3), .val (.int p4), .val (.int p5), .val (.int p6), .val (.int i1), .val (.int i2), .val (.int (2 : Int32)), .val (.int (1 : Int32)), .val (.ref b44), .val (.long (i1.toInt64)), .second, .val (.long (i2.toInt64)), .second, .val (.long len), .second, .unset, .unset, .unset, .unset] []))
        refine OwnR.of (fun _ hr => XS.iload X50.here hx rfl (hb hby at_174) rfl hr) ?_
        show OwnR _ _ _ _ _ _ _ (T50.setTop (mkF m 176 #[.val (.int p1), .val (.int p2), .val (.int p3), .val (.int p4), .val (.int p5), .val (.int p6), .val (.int i1), .val (.int i2), .val (.int (2 : Int32)), .val (.int (1 : Int32)), .val (.ref b44), .val (.long (i1.toInt64)), .second, .val (.long (i2.toInt64)), .second, .val (.long len), .second, .unset, .unset, .unset, .unset] [(.int p5)]))
        refine OwnR.of (X50.ldcInt hx hown (mvT hZ (hw _ (List.mem_of_getElem? (i := 2) rfl))) (g := (mkF m 176 #[.val (.int p1), .val (.int p2), .val (.int p3), .val (.int p4), .val (.int p5), .val (.int p6), .val (.int i1), .val (.int i2), .val (.int (2 : Int32)), .val (.int (1 : Int32)), .val (.ref b44), .val (.long (i1.toInt64)), .second, .val (.long (i2.toInt64)), .second, .val (.long len), .second, .unset, .unset, .unset, .unset] [(.int p5)])) rfl (hb hby at_176)) ?_
        show OwnR _ _ _ _ _ _ _ (T50.setTop (mkF m 178 #[.val (.int p1), .val (.int p2), .val (.int p3), .val (.int p4), .val (.int p5), .val (.int p6), .val (.int i1), .val (.int i2), .val (.int (2 : Int32)), .val (.int (1 : Int32)), .val (.ref b44), .val (.long (i1.toInt64)), .second, .val (.long (i2.toInt64)), .second, .val (.long len), .second, .unset, .unset, .unset, .unset] [(.int (2147483647 : Int32)), (.int p5)]))
        refine OwnR.of (fun _ hr => XS.iand X50.here hx rfl (hb hby at_178) rfl hr) ?_
        show OwnR _ _ _ _ _ _ _ (T50.setTop (mkF m 179 #[.val (.int p1), .val (.int p2), .val (.int p3), .val (.int p4), .val (.int p5), .val (.int p6), .val (.int i1), .val (.int i2), .val (.int (2 : Int32)), .val (.int (1 : Int32)), .val (.ref b44), .val (.long (i1.toInt64)), .second, .val (.long (i2.toInt64)), .second, .val (.long len), .second, .unset, .unset, .unset, .unset] [(.int (p5 &&& (2147483647 : Int32)))]))
        refine OwnR.of (fun _ hr => XS.i2l X50.here hx rfl (hb hby at_179) rfl hr) ?_
        show OwnR _ _ _ _ _ _ _ (T50.setTop (mkF m 180 #[.val (.int p1), .val (.int p2), .val (.int p3), .val (.int p4), .val (.int p5), .val (.int p6), .val (.int i1), .val (.int i2), .val (.int (2 : Int32)), .val (.int (1 : Int32)), .val (.ref b44), .val (.long (i1.toInt64)), .second, .val (.long (i2.toInt64)), .second, .val (.long len), .second, .unset, .unset, .unset, .unset] [(.long ((p5 &&& (2147483647 : Int32)).toInt64))]))
        refine OwnR.of (fun _ hr => XS.lload X50.here hx rfl (hb hby at_180) rfl hr) ?_
        show OwnR _ _ _ _ _ _ _ (T50.setTop (mkF m 182 #[.val (.int p1), .val (.int p2), .val (.int p3), .val (.int p4), .val (.int p5), .val (.int p6), .val (.int i1), .val (.int i2), .val (.int (2 : Int32)), .val (.int (1 : Int32)), .val (.ref b44), .val (.long (i1.toInt64)), .second, .val (.long (i2.toInt64)), .second, .val (.long len), .second, .unset, .unset, .unset, .unset] [(.long len), (.long ((p5 &&& (2147483647 : Int32)).toInt64))]))
        refine OwnR.of (fun _ hr => XS.lrem X50.here hx rfl (hb hby at_182) rfl hnz182 hr) ?_
        show OwnR _ _ _ _ _ _ _ (T50.setTop (mkF m 183 #[.val (.int p1), .val (.int p2), .val (.int p3), .val (.int p4), .val (.int p5), .val (.int p6), .val (.int i1), .val (.int i2), .val (.int (2 : Int32)), .val (.int (1 : Int32)), .val (.ref b44), .val (.long (i1.toInt64)), .second, .val (.long (i2.toInt64)), .second, .val (.long len), .second, .unset, .unset, .unset, .unset] [(.long (((p5 &&& (2147483647 : Int32)).toInt64) - (((p5 &&& (2147483647 : Int32)).toInt64) / len) * len))]))
        refine OwnR.of (fun _ hr => XS.lstore X50.here hx rfl (hb hby at_183) rfl (l' := #[.val (.int p1), .val (.int p2), .val (.int p3), .val (.int p4), .val (.int p5), .val (.int p6), .val (.int i1), .val (.int i2), .val (.int (2 : Int32)), .val (.int (1 : Int32)), .val (.ref b44), .val (.long (i1.toInt64)), .second, .val (.long (i2.toInt64)), .second, .val (.long len), .second, .val (.long (((p5 &&& (2147483647 : Int32)).toInt64) - (((p5 &&& (2147483647 : Int32)).toInt64) / len) * len)), .second, .unset, .unset]) rfl hr) ?_
        show OwnR _ _ _ _ _ _ _ (T50.setTop (mkF m 185 #[.val (.int p1), .val (.int p2), .val (.int p3), .val (.int p4), .val (.int p5), .val (.int p6), .val (.int i1), .val (.int i2), .val (.int (2 : Int32)), .val (.int (1 : Int32)), .val (.ref b44), .val (.long (i1.toInt64)), .second, .val (.long (i2.toInt64)), .second, .val (.long len), .second, .val (.long (((p5 &&& (2147483647 : Int32)).toInt64) - (((p5 &&& (2147483647 : Int32)).toInt64) / len) * len)), .second, .unset, .unset] []))
        obtain ⟨off, hoff⟩ : ∃ z : Int64, z = (((p5 &&& (2147483647 : Int32)).toInt64) - (((p5 &&& (2147483647 : Int32)).toInt64) / len) * len) := ⟨_, rfl⟩
        rw [← hoff]
        show OwnR _ _ _ _ _ _ _ (T50.setTop (mkF m 185 #[.val (.int p1), .val (.int p2), .val (.int p3), .val (.int p4), .val (.int p5), .val (.int p6), .val (.int i1), .val (.int i2), .val (.int (2 : Int32)), .val (.int (1 : Int32)), .val (.ref b44), .val (.long (i1.toInt64)), .second, .val (.long (i2.toInt64)), .second, .val (.long len), .second, .val (.long off), .second, .unset, .unset] []))
        have ho := own_off p5 len off hl0.1 hoff
        refine OwnR.of (fun _ hr => XS.lload X50.here hx rfl (hb hby at_185) rfl hr) ?_
        show OwnR _ _ _ _ _ _ _ (T50.setTop (mkF m 187 #[.val (.int p1), .val (.int p2), .val (.int p3), .val (.int p4), .val (.int p5), .val (.int p6), .val (.int i1), .val (.int i2), .val (.int (2 : Int32)), .val (.int (1 : Int32)), .val (.ref b44), .val (.long (i1.toInt64)), .second, .val (.long (i2.toInt64)), .second, .val (.long len), .second, .val (.long off), .second, .unset, .unset] [(.long (i1.toInt64))]))
        refine OwnR.of (fun _ hr => XS.lload X50.here hx rfl (hb hby at_187) rfl hr) ?_
        show OwnR _ _ _ _ _ _ _ (T50.setTop (mkF m 189 #[.val (.int p1), .val (.int p2), .val (.int p3), .val (.int p4), .val (.int p5), .val (.int p6), .val (.int i1), .val (.int i2), .val (.int (2 : Int32)), .val (.int (1 : Int32)), .val (.ref b44), .val (.long (i1.toInt64)), .second, .val (.long (i2.toInt64)), .second, .val (.long len), .second, .val (.long off), .second, .unset, .unset] [(.long off), (.long (i1.toInt64))]))
        refine OwnR.of (fun _ hr => XS.ladd X50.here hx rfl (hb hby at_189) rfl hr) ?_
        show OwnR _ _ _ _ _ _ _ (T50.setTop (mkF m 190 #[.val (.int p1), .val (.int p2), .val (.int p3), .val (.int p4), .val (.int p5), .val (.int p6), .val (.int i1), .val (.int i2), .val (.int (2 : Int32)), .val (.int (1 : Int32)), .val (.ref b44), .val (.long (i1.toInt64)), .second, .val (.long (i2.toInt64)), .second, .val (.long len), .second, .val (.long off), .second, .unset, .unset] [(.long ((i1.toInt64) + off))]))
        refine OwnR.of (fun _ hr => XS.l2i X50.here hx rfl (hb hby at_190) rfl hr) ?_
        show OwnR _ _ _ _ _ _ _ (T50.setTop (mkF m 191 #[.val (.int p1), .val (.int p2), .val (.int p3), .val (.int p4), .val (.int p5), .val (.int p6), .val (.int i1), .val (.int i2), .val (.int (2 : Int32)), .val (.int (1 : Int32)), .val (.ref b44), .val (.long (i1.toInt64)), .second, .val (.long (i2.toInt64)), .second, .val (.long len), .second, .val (.long off), .second, .unset, .unset] [(.int (((i1.toInt64) + off).toInt32))]))
        refine OwnR.of (fun _ hr => XS.istore X50.here hx rfl (hb hby at_191) rfl (l' := #[.val (.int p1), .val (.int p2), .val (.int p3), .val (.int p4), .val (.int p5), .val (.int p6), .val (.int i1), .val (.int i2), .val (.int (2 : Int32)), .val (.int (1 : Int32)), .val (.ref b44), .val (.long (i1.toInt64)), .second, .val (.long (i2.toInt64)), .second, .val (.long len), .second, .val (.long off), .second, .val (.int (((i1.toInt64) + off).toInt32)), .unset]) rfl hr) ?_
        show OwnR _ _ _ _ _ _ _ (T50.setTop (mkF m 193 #[.val (.int p1), .val (.int p2), .val (.int p3), .val (.int p4), .val (.int p5), .val (.int p6), .val (.int i1), .val (.int i2), .val (.int (2 : Int32)), .val (.int (1 : Int32)), .val (.ref b44), .val (.long (i1.toInt64)), .second, .val (.long (i2.toInt64)), .second, .val (.long len), .second, .val (.long off), .second, .val (.int (((i1.toInt64) + off).toInt32)), .unset] []))
        refine OwnR.of (fun _ hr => XS.iload X50.here hx rfl (hb hby at_193) rfl hr) ?_
        show OwnR _ _ _ _ _ _ _ (T50.setTop (mkF m 195 #[.val (.int p1), .val (.int p2), .val (.int p3), .val (.int p4), .val (.int p5), .val (.int p6), .val (.int i1), .val (.int i2), .val (.int (2 : Int32)), .val (.int (1 : Int32)), .val (.ref b44), .val (.long (i1.toInt64)), .second, .val (.long (i2.toInt64)), .second, .val (.long len), .second, .val (.long off), .second, .val (.int (((i1.toInt64) + off).toInt32)), .unset] [(.int (1 : Int32))]))
        refine OwnR.of (fun _ hr => XS.ifNo X50.here hx rfl (hb hby at_195) rfl ((if0 _ _).trans (tlt (by decide : (0 : Int32) < (1 : Int32))).2.2.2) hr) ?_
        show OwnR _ _ _ _ _ _ _ (T50.setTop (mkF m 198 #[.val (.int p1), .val (.int p2), .val (.int p3), .val (.int p4), .val (.int p5), .val (.int p6), .val (.int i1), .val (.int i2), .val (.int (2 : Int32)), .val (.int (1 : Int32)), .val (.ref b44), .val (.long (i1.toInt64)), .second, .val (.long (i2.toInt64)), .second, .val (.long len), .second, .val (.long off), .second, .val (.int (((i1.toInt64) + off).toInt32)), .unset] []))
        refine OwnR.of (fun _ hr => XS.lload X50.here hx rfl (hb hby at_198) rfl hr) ?_
        show OwnR _ _ _ _ _ _ _ (T50.setTop (mkF m 200 #[.val (.int p1), .val (.int p2), .val (.int p3), .val (.int p4), .val (.int p5), .val (.int p6), .val (.int i1), .val (.int i2), .val (.int (2 : Int32)), .val (.int (1 : Int32)), .val (.ref b44), .val (.long (i1.toInt64)), .second, .val (.long (i2.toInt64)), .second, .val (.long len), .second, .val (.long off), .second, .val (.int (((i1.toInt64) + off).toInt32)), .unset] [(.long off)]))
        refine OwnR.of (fun _ hr => XS.lconst X50.here hx rfl (hb hby at_200) hr) ?_
        show OwnR _ _ _ _ _ _ _ (T50.setTop (mkF m 201 #[.val (.int p1), .val (.int p2), .val (.int p3), .val (.int p4), .val (.int p5), .val (.int p6), .val (.int i1), .val (.int i2), .val (.int (2 : Int32)), .val (.int (1 : Int32)), .val (.ref b44), .val (.long (i1.toInt64)), .second, .val (.long (i2.toInt64)), .second, .val (.long len), .second, .val (.long off), .second, .val (.int (((i1.toInt64) + off).toInt32)), .unset] [(.long (0 : Int64)), (.long off)]))
        refine OwnR.of (fun _ hr => XS.lcmp X50.here hx rfl (hb hby at_201) rfl hr) ?_
        show OwnR _ _ _ _ _ _ _ (T50.setTop (mkF m 202 #[.val (.int p1), .val (.int p2), .val (.int p3), .val (.int p4), .val (.int p5), .val (.int p6), .val (.int i1), .val (.int i2), .val (.int (2 : Int32)), .val (.int (1 : Int32)), .val (.ref b44), .val (.long (i1.toInt64)), .second, .val (.long (i2.toInt64)), .second, .val (.long len), .second, .val (.long off), .second, .val (.int (((i1.toInt64) + off).toInt32)), .unset] [(.int (lcmpW off (0 : Int64)))]))
        obtain ⟨v52, hv52⟩ : ∃ z : Int32, z = (if off = (0 : Int64) then (1 : Int32) else (0 : Int32)) := ⟨_, rfl⟩
        suffices J210_53 : OwnR p e below s (Q0 Z  h0 n0) 24 128 (T50.setTop (mkF m 210 #[.val (.int p1), .val (.int p2), .val (.int p3), .val (.int p4), .val (.int p5), .val (.int p6), .val (.int i1), .val (.int i2), .val (.int (2 : Int32)), .val (.int (1 : Int32)), .val (.ref b44), .val (.long (i1.toInt64)), .second, .val (.long (i2.toInt64)), .second, .val (.long len), .second, .val (.long off), .second, .val (.int (((i1.toInt64) + off).toInt32)), .unset] [(.int v52)])) by
          by_cases hc202_54 : off = (0 : Int64)
          · skip
            refine OwnR.of (fun _ hr => XS.ifNo X50.here hx rfl (hb hby at_202) rfl ((if0 _ _).trans (teq ((own_lceq _ _).mpr hc202_54)).2) hr) ?_
            show OwnR _ _ _ _ _ _ _ (T50.setTop (mkF m 205 #[.val (.int p1), .val (.int p2), .val (.int p3), .val (.int p4), .val (.int p5), .val (.int p6), .val (.int i1), .val (.int i2), .val (.int (2 : Int32)), .val (.int (1 : Int32)), .val (.ref b44), .val (.long (i1.toInt64)), .second, .val (.long (i2.toInt64)), .second, .val (.long len), .second, .val (.long off), .second, .val (.int (((i1.toInt64) + off).toInt32)), .unset] []))
            refine OwnR.of (fun _ hr => XS.iconst X50.here hx rfl (hb hby at_205) hr) ?_
            show OwnR _ _ _ _ _ _ _ (T50.setTop (mkF m 206 #[.val (.int p1), .val (.int p2), .val (.int p3), .val (.int p4), .val (.int p5), .val (.int p6), .val (.int i1), .val (.int i2), .val (.int (2 : Int32)), .val (.int (1 : Int32)), .val (.ref b44), .val (.long (i1.toInt64)), .second, .val (.long (i2.toInt64)), .second, .val (.long len), .second, .val (.long off), .second, .val (.int (((i1.toInt64) + off).toInt32)), .unset] [(.int (1 : Int32))]))
            refine OwnR.of (fun _ hr => XS.goto X50.here hx rfl (pc0 := 206) (pc' := 210) rfl (hb hby at_206) (by decide) (by decide) hr) ?_
            show OwnR _ _ _ _ _ _ _ (T50.setTop (mkF m 210 #[.val (.int p1), .val (.int p2), .val (.int p3), .val (.int p4), .val (.int p5), .val (.int p6), .val (.int i1), .val (.int i2), .val (.int (2 : Int32)), .val (.int (1 : Int32)), .val (.ref b44), .val (.long (i1.toInt64)), .second, .val (.long (i2.toInt64)), .second, .val (.long len), .second, .val (.long off), .second, .val (.int (((i1.toInt64) + off).toInt32)), .unset] [(.int (1 : Int32))]))
            simp only [if_pos hc202_54] at hv52
            subst hv52
            exact J210_53
          · skip
            refine OwnR.of (fun _ hr => XS.ifYes X50.here hx rfl (pc0 := 202) (pc' := 209) rfl (hb hby at_202) rfl ((if0 _ _).trans (feq ((not_congr (own_lceq _ _)).mpr hc202_54)).2) (by decide) (by decide) hr) ?_
            show OwnR _ _ _ _ _ _ _ (T50.setTop (mkF m 209 #[.val (.int p1), .val (.int p2), .val (.int p3), .val (.int p4), .val (.int p5), .val (.int p6), .val (.int i1), .val (.int i2), .val (.int (2 : Int32)), .val (.int (1 : Int32)), .val (.ref b44), .val (.long (i1.toInt64)), .second, .val (.long (i2.toInt64)), .second, .val (.long len), .second, .val (.long off), .second, .val (.int (((i1.toInt64) + off).toInt32)), .unset] []))
            refine OwnR.of (fun _ hr => XS.iconst X50.here hx rfl (hb hby at_209) hr) ?_
            show OwnR _ _ _ _ _ _ _ (T50.setTop (mkF m 210 #[.val (.int p1), .val (.int p2), .val (.int p3), .val (.int p4), .val (.int p5), .val (.int p6), .val (.int i1), .val (.int i2), .val (.int (2 : Int32)), .val (.int (1 : Int32)), .val (.ref b44), .val (.long (i1.toInt64)), .second, .val (.long (i2.toInt64)), .second, .val (.long len), .second, .val (.long off), .second, .val (.int (((i1.toInt64) + off).toInt32)), .unset] [(.int (0 : Int32))]))
            simp only [if_neg hc202_54] at hv52
            subst hv52
            exact J210_53
        refine OwnR.of (fun _ hr => XS.istore X50.here hx rfl (hb hby at_210) rfl (l' := #[.val (.int p1), .val (.int p2), .val (.int p3), .val (.int p4), .val (.int p5), .val (.int p6), .val (.int i1), .val (.int i2), .val (.int (2 : Int32)), .val (.int (1 : Int32)), .val (.ref b44), .val (.long (i1.toInt64)), .second, .val (.long (i2.toInt64)), .second, .val (.long len), .second, .val (.long off), .second, .val (.int (((i1.toInt64) + off).toInt32)), .val (.int v52)]) rfl hr) ?_
        show OwnR _ _ _ _ _ _ _ (T50.setTop (mkF m 212 #[.val (.int p1), .val (.int p2), .val (.int p3), .val (.int p4), .val (.int p5), .val (.int p6), .val (.int i1), .val (.int i2), .val (.int (2 : Int32)), .val (.int (1 : Int32)), .val (.ref b44), .val (.long (i1.toInt64)), .second, .val (.long (i2.toInt64)), .second, .val (.long len), .second, .val (.long off), .second, .val (.int (((i1.toInt64) + off).toInt32)), .val (.int v52)] []))
        refine OwnR.of (fun _ hr => XS.aload X50.here hx rfl (hb hby at_212) rfl rfl hr) ?_
        show OwnR _ _ _ _ _ _ _ (T50.setTop (mkF m 214 #[.val (.int p1), .val (.int p2), .val (.int p3), .val (.int p4), .val (.int p5), .val (.int p6), .val (.int i1), .val (.int i2), .val (.int (2 : Int32)), .val (.int (1 : Int32)), .val (.ref b44), .val (.long (i1.toInt64)), .second, .val (.long (i2.toInt64)), .second, .val (.long len), .second, .val (.long off), .second, .val (.int (((i1.toInt64) + off).toInt32)), .val (.int v52)] [(.ref b44)]))
        refine OwnR.of (fun _ hr => XS.iload X50.here hx rfl (hb hby at_214) rfl hr) ?_
        show OwnR _ _ _ _ _ _ _ (T50.setTop (mkF m 216 #[.val (.int p1), .val (.int p2), .val (.int p3), .val (.int p4), .val (.int p5), .val (.int p6), .val (.int i1), .val (.int i2), .val (.int (2 : Int32)), .val (.int (1 : Int32)), .val (.ref b44), .val (.long (i1.toInt64)), .second, .val (.long (i2.toInt64)), .second, .val (.long len), .second, .val (.long off), .second, .val (.int (((i1.toInt64) + off).toInt32)), .val (.int v52)] [(.int (1 : Int32)), (.ref b44)]))
        refine OwnR.of (fun _ hr => XS.iload X50.here hx rfl (hb hby at_216) rfl hr) ?_
        show OwnR _ _ _ _ _ _ _ (T50.setTop (mkF m 218 #[.val (.int p1), .val (.int p2), .val (.int p3), .val (.int p4), .val (.int p5), .val (.int p6), .val (.int i1), .val (.int i2), .val (.int (2 : Int32)), .val (.int (1 : Int32)), .val (.ref b44), .val (.long (i1.toInt64)), .second, .val (.long (i2.toInt64)), .second, .val (.long len), .second, .val (.long off), .second, .val (.int (((i1.toInt64) + off).toInt32)), .val (.int v52)] [(.int (((i1.toInt64) + off).toInt32)), (.int (1 : Int32)), (.ref b44)]))
        obtain ⟨cq55, kq55, q55a, q55b, q55c⟩ := isOf hZ rfl P50_1
        obtain ⟨_, _, ⟨T55, L55, kc55, ns55⟩, -, X55, ⟨Lc55, hQ55, l55, y55, z55⟩, st55⟩ := X50.virtualBack hx (y := (⟨"com/example/tercet/tercet/core/Pages", "startsPage", "(II)Z"⟩ : MethodName)) (z := (⟨"com/example/tercet/tercet/core/Pages", "startsPage", "(II)Z"⟩ : MethodName)) hown (mvT hZ (hw _ (List.mem_of_getElem? (i := 66) rfl))) (mvT hZ (hw _ (List.mem_of_getElem? (i := 67) rfl))) (notFace_of_selects (args := #[]) (mvT hZ (hw _ (List.mem_of_getElem? (i := 69) rfl)))) (mvT hZ (hw _ (List.mem_of_getElem? (i := 69) rfl))) (mvT hZ (hw _ (List.mem_of_getElem? (i := 68) rfl))) (by decide) (backOf (W := 0) (rmS_1_4 l Z a0 hw [] b44 (((i1.toInt64) + off).toInt32) c_50 kc_50 (0 : Int32) i1 i2 (0 : Int32) (T50.heap) n0 (Nat.le_trans Z0 K50.1) P50_1 P50_6 P50_11) hZ (hw _ (List.mem_of_getElem? (i := 70) rfl)) (hw _ (List.mem_of_getElem? (i := 5) rfl)) (by decide) (by decide)) q55a q55c (g := (mkF m 218 #[.val (.int p1), .val (.int p2), .val (.int p3), .val (.int p4), .val (.int p5), .val (.int p6), .val (.int i1), .val (.int i2), .val (.int (2 : Int32)), .val (.int (1 : Int32)), .val (.ref b44), .val (.long (i1.toInt64)), .second, .val (.long (i2.toInt64)), .second, .val (.long len), .second, .val (.long off), .second, .val (.int (((i1.toInt64) + off).toInt32)), .val (.int v52)] [(.int (((i1.toInt64) + off).toInt32)), (.int (1 : Int32)), (.ref b44)])) rfl (by rw [hml]; rfl) (Steps.refl _) (argsL := [(.int (1 : Int32)), (.int (((i1.toInt64) + off).toInt32))]) (rest := []) (lenOf pd__II_Z rfl) rfl (by show 2 * 0 + _ ≤ _; exact Nat.le_of_eq rfl) (hb hby at_218) (fun _ _ => ⟨rfl, rfl, (by decide : 7 + 0 ≤ _), (by decide : 21 + 0 ≤ _)⟩)
        dsimp only [Pt.U, Pt.locs, Pt.cells, Pt.slots] at X55 l55 y55 z55 st55 hQ55
        subst l55 y55 z55
        obtain ⟨rfl, N55q, e55⟩ := hQ55
        have N55 := Fr.app N50 N55q
        refine OwnR.of (fun _ hr => st55.trans hr) ?_
        show OwnR _ _ _ _ _ _ _ (T55.setTop (mkF m 221 #[.val (.int p1), .val (.int p2), .val (.int p3), .val (.int p4), .val (.int p5), .val (.int p6), .val (.int i1), .val (.int i2), .val (.int (2 : Int32)), .val (.int (1 : Int32)), .val (.ref b44), .val (.long (i1.toInt64)), .second, .val (.long (i2.toInt64)), .second, .val (.long len), .second, .val (.long off), .second, .val (.int (((i1.toInt64) + off).toInt32)), .val (.int v52)] [(.int (own_sp i1 (((i1.toInt64) + off).toInt32)))]))
        refine OwnR.of (fun _ hr => XS.iload X55.here hx rfl (hb hby at_221) rfl hr) ?_
        show OwnR _ _ _ _ _ _ _ (T55.setTop (mkF m 223 #[.val (.int p1), .val (.int p2), .val (.int p3), .val (.int p4), .val (.int p5), .val (.int p6), .val (.int i1), .val (.int i2), .val (.int (2 : Int32)), .val (.int (1 : Int32)), .val (.ref b44), .val (.long (i1.toInt64)), .second, .val (.long (i2.toInt64)), .second, .val (.long len), .second, .val (.long off), .second, .val (.int (((i1.toInt64) + off).toInt32)), .val (.int v52)] [(.int v52), (.int (own_sp i1 (((i1.toInt64) + off).toInt32)))]))
        have hc223_56 : (own_sp i1 (((i1.toInt64) + off).toInt32)) = v52 := by
          refine Classical.byContradiction fun hbad => ?_
          rw [hv52] at hbad
          exact hbad (own_fin1 i1 off len b1.1 ho hl0)
        refine OwnR.of (fun _ hr => XS.icmpNo X55.here hx rfl (hb hby at_223) rfl (teq hc223_56).2 hr) ?_
        show OwnR _ _ _ _ _ _ _ (T55.setTop (mkF m 226 #[.val (.int p1), .val (.int p2), .val (.int p3), .val (.int p4), .val (.int p5), .val (.int p6), .val (.int i1), .val (.int i2), .val (.int (2 : Int32)), .val (.int (1 : Int32)), .val (.ref b44), .val (.long (i1.toInt64)), .second, .val (.long (i2.toInt64)), .second, .val (.long len), .second, .val (.long off), .second, .val (.int (((i1.toInt64) + off).toInt32)), .val (.int v52)] []))
        refine OwnR.of (fun _ hr => XS.iconst X55.here hx rfl (hb hby at_226) hr) ?_
        show OwnR _ _ _ _ _ _ _ (T55.setTop (mkF m 227 #[.val (.int p1), .val (.int p2), .val (.int p3), .val (.int p4), .val (.int p5), .val (.int p6), .val (.int i1), .val (.int i2), .val (.int (2 : Int32)), .val (.int (1 : Int32)), .val (.ref b44), .val (.long (i1.toInt64)), .second, .val (.long (i2.toInt64)), .second, .val (.long len), .second, .val (.long off), .second, .val (.int (((i1.toInt64) + off).toInt32)), .val (.int v52)] [(.int (1 : Int32))]))
        refine OwnR.of (fun _ hr => XS.goto X55.here hx rfl (pc0 := 227) (pc' := 231) rfl (hb hby at_227) (by decide) (by decide) hr) ?_
        show OwnR _ _ _ _ _ _ _ (T55.setTop (mkF m 231 #[.val (.int p1), .val (.int p2), .val (.int p3), .val (.int p4), .val (.int p5), .val (.int p6), .val (.int i1), .val (.int i2), .val (.int (2 : Int32)), .val (.int (1 : Int32)), .val (.ref b44), .val (.long (i1.toInt64)), .second, .val (.long (i2.toInt64)), .second, .val (.long len), .second, .val (.long off), .second, .val (.int (((i1.toInt64) + off).toInt32)), .val (.int v52)] [(.int (1 : Int32))]))
        refine own_leafN X55 hx hlk (t := .boolean) Bd.returns (by simp) (hb hby at_231) (z' := (1 : Int32)) rfl (by decide) (by decide) ?_
        show Q0 Z  h0 n0 _ T55.heap _
        rw [show T55.heap = T50.heap from e55]
        refine ⟨?_, N55⟩
        show (some (.int (1 : Int32)) : Option Value) = some (.int (1 : Int32))
        rfl
      · skip
        refine OwnR.of (fun _ hr => XS.ifNo X50.here hx rfl (hb hby at_167) rfl ((if0 _ _).trans (feq hc167_51).1) hr) ?_
        show OwnR _ _ _ _ _ _ _ (T50.setTop (mkF m 170 #[.val (.int p1), .val (.int p2), .val (.int p3), .val (.int p4), .val (.int p5), .val (.int p6), .val (.int i1), .val (.int i2), .val (.int (2 : Int32)), .val (.int (1 : Int32)), .val (.ref b44), .val (.long (i1.toInt64)), .second, .val (.long (i2.toInt64)), .second, .val (.long len), .second, .unset, .unset, .unset, .unset] []))
        refine OwnR.of (fun _ hr => XS.lconst X50.here hx rfl (hb hby at_170) hr) ?_
        show OwnR _ _ _ _ _ _ _ (T50.setTop (mkF m 171 #[.val (.int p1), .val (.int p2), .val (.int p3), .val (.int p4), .val (.int p5), .val (.int p6), .val (.int i1), .val (.int i2), .val (.int (2 : Int32)), .val (.int (1 : Int32)), .val (.ref b44), .val (.long (i1.toInt64)), .second, .val (.long (i2.toInt64)), .second, .val (.long len), .second, .unset, .unset, .unset, .unset] [(.long (0 : Int64))]))
        refine OwnR.of (fun _ hr => XS.goto X50.here hx rfl (pc0 := 171) (pc' := 183) rfl (hb hby at_171) (by decide) (by decide) hr) ?_
        show OwnR _ _ _ _ _ _ _ (T50.setTop (mkF m 183 #[.val (.int p1), .val (.int p2), .val (.int p3), .val (.int p4), .val (.int p5), .val (.int p6), .val (.int i1), .val (.int i2), .val (.int (2 : Int32)), .val (.int (1 : Int32)), .val (.ref b44), .val (.long (i1.toInt64)), .second, .val (.long (i2.toInt64)), .second, .val (.long len), .second, .unset, .unset, .unset, .unset] [(.long (0 : Int64))]))
        refine OwnR.of (fun _ hr => XS.lstore X50.here hx rfl (hb hby at_183) rfl (l' := #[.val (.int p1), .val (.int p2), .val (.int p3), .val (.int p4), .val (.int p5), .val (.int p6), .val (.int i1), .val (.int i2), .val (.int (2 : Int32)), .val (.int (1 : Int32)), .val (.ref b44), .val (.long (i1.toInt64)), .second, .val (.long (i2.toInt64)), .second, .val (.long len), .second, .val (.long (0 : Int64)), .second, .unset, .unset]) rfl hr) ?_
        show OwnR _ _ _ _ _ _ _ (T50.setTop (mkF m 185 #[.val (.int p1), .val (.int p2), .val (.int p3), .val (.int p4), .val (.int p5), .val (.int p6), .val (.int i1), .val (.int i2), .val (.int (2 : Int32)), .val (.int (1 : Int32)), .val (.ref b44), .val (.long (i1.toInt64)), .second, .val (.long (i2.toInt64)), .second, .val (.long len), .second, .val (.long (0 : Int64)), .second, .unset, .unset] []))
        refine OwnR.of (fun _ hr => XS.lload X50.here hx rfl (hb hby at_185) rfl hr) ?_
        show OwnR _ _ _ _ _ _ _ (T50.setTop (mkF m 187 #[.val (.int p1), .val (.int p2), .val (.int p3), .val (.int p4), .val (.int p5), .val (.int p6), .val (.int i1), .val (.int i2), .val (.int (2 : Int32)), .val (.int (1 : Int32)), .val (.ref b44), .val (.long (i1.toInt64)), .second, .val (.long (i2.toInt64)), .second, .val (.long len), .second, .val (.long (0 : Int64)), .second, .unset, .unset] [(.long (i1.toInt64))]))
        refine OwnR.of (fun _ hr => XS.lload X50.here hx rfl (hb hby at_187) rfl hr) ?_
        show OwnR _ _ _ _ _ _ _ (T50.setTop (mkF m 189 #[.val (.int p1), .val (.int p2), .val (.int p3), .val (.int p4), .val (.int p5), .val (.int p6), .val (.int i1), .val (.int i2), .val (.int (2 : Int32)), .val (.int (1 : Int32)), .val (.ref b44), .val (.long (i1.toInt64)), .second, .val (.long (i2.toInt64)), .second, .val (.long len), .second, .val (.long (0 : Int64)), .second, .unset, .unset] [(.long (0 : Int64)), (.long (i1.toInt64))]))
        refine OwnR.of (fun _ hr => XS.ladd X50.here hx rfl (hb hby at_189) rfl hr) ?_
        show OwnR _ _ _ _ _ _ _ (T50.setTop (mkF m 190 #[.val (.int p1), .val (.int p2), .val (.int p3), .val (.int p4), .val (.int p5), .val (.int p6), .val (.int i1), .val (.int i2), .val (.int (2 : Int32)), .val (.int (1 : Int32)), .val (.ref b44), .val (.long (i1.toInt64)), .second, .val (.long (i2.toInt64)), .second, .val (.long len), .second, .val (.long (0 : Int64)), .second, .unset, .unset] [(.long ((i1.toInt64) + (0 : Int64)))]))
        refine OwnR.of (fun _ hr => XS.l2i X50.here hx rfl (hb hby at_190) rfl hr) ?_
        show OwnR _ _ _ _ _ _ _ (T50.setTop (mkF m 191 #[.val (.int p1), .val (.int p2), .val (.int p3), .val (.int p4), .val (.int p5), .val (.int p6), .val (.int i1), .val (.int i2), .val (.int (2 : Int32)), .val (.int (1 : Int32)), .val (.ref b44), .val (.long (i1.toInt64)), .second, .val (.long (i2.toInt64)), .second, .val (.long len), .second, .val (.long (0 : Int64)), .second, .unset, .unset] [(.int (((i1.toInt64) + (0 : Int64)).toInt32))]))
        refine OwnR.of (fun _ hr => XS.istore X50.here hx rfl (hb hby at_191) rfl (l' := #[.val (.int p1), .val (.int p2), .val (.int p3), .val (.int p4), .val (.int p5), .val (.int p6), .val (.int i1), .val (.int i2), .val (.int (2 : Int32)), .val (.int (1 : Int32)), .val (.ref b44), .val (.long (i1.toInt64)), .second, .val (.long (i2.toInt64)), .second, .val (.long len), .second, .val (.long (0 : Int64)), .second, .val (.int (((i1.toInt64) + (0 : Int64)).toInt32)), .unset]) rfl hr) ?_
        show OwnR _ _ _ _ _ _ _ (T50.setTop (mkF m 193 #[.val (.int p1), .val (.int p2), .val (.int p3), .val (.int p4), .val (.int p5), .val (.int p6), .val (.int i1), .val (.int i2), .val (.int (2 : Int32)), .val (.int (1 : Int32)), .val (.ref b44), .val (.long (i1.toInt64)), .second, .val (.long (i2.toInt64)), .second, .val (.long len), .second, .val (.long (0 : Int64)), .second, .val (.int (((i1.toInt64) + (0 : Int64)).toInt32)), .unset] []))
        refine OwnR.of (fun _ hr => XS.iload X50.here hx rfl (hb hby at_193) rfl hr) ?_
        show OwnR _ _ _ _ _ _ _ (T50.setTop (mkF m 195 #[.val (.int p1), .val (.int p2), .val (.int p3), .val (.int p4), .val (.int p5), .val (.int p6), .val (.int i1), .val (.int i2), .val (.int (2 : Int32)), .val (.int (1 : Int32)), .val (.ref b44), .val (.long (i1.toInt64)), .second, .val (.long (i2.toInt64)), .second, .val (.long len), .second, .val (.long (0 : Int64)), .second, .val (.int (((i1.toInt64) + (0 : Int64)).toInt32)), .unset] [(.int (1 : Int32))]))
        refine OwnR.of (fun _ hr => XS.ifNo X50.here hx rfl (hb hby at_195) rfl ((if0 _ _).trans (tlt (by decide : (0 : Int32) < (1 : Int32))).2.2.2) hr) ?_
        show OwnR _ _ _ _ _ _ _ (T50.setTop (mkF m 198 #[.val (.int p1), .val (.int p2), .val (.int p3), .val (.int p4), .val (.int p5), .val (.int p6), .val (.int i1), .val (.int i2), .val (.int (2 : Int32)), .val (.int (1 : Int32)), .val (.ref b44), .val (.long (i1.toInt64)), .second, .val (.long (i2.toInt64)), .second, .val (.long len), .second, .val (.long (0 : Int64)), .second, .val (.int (((i1.toInt64) + (0 : Int64)).toInt32)), .unset] []))
        refine OwnR.of (fun _ hr => XS.lload X50.here hx rfl (hb hby at_198) rfl hr) ?_
        show OwnR _ _ _ _ _ _ _ (T50.setTop (mkF m 200 #[.val (.int p1), .val (.int p2), .val (.int p3), .val (.int p4), .val (.int p5), .val (.int p6), .val (.int i1), .val (.int i2), .val (.int (2 : Int32)), .val (.int (1 : Int32)), .val (.ref b44), .val (.long (i1.toInt64)), .second, .val (.long (i2.toInt64)), .second, .val (.long len), .second, .val (.long (0 : Int64)), .second, .val (.int (((i1.toInt64) + (0 : Int64)).toInt32)), .unset] [(.long (0 : Int64))]))
        refine OwnR.of (fun _ hr => XS.lconst X50.here hx rfl (hb hby at_200) hr) ?_
        show OwnR _ _ _ _ _ _ _ (T50.setTop (mkF m 201 #[.val (.int p1), .val (.int p2), .val (.int p3), .val (.int p4), .val (.int p5), .val (.int p6), .val (.int i1), .val (.int i2), .val (.int (2 : Int32)), .val (.int (1 : Int32)), .val (.ref b44), .val (.long (i1.toInt64)), .second, .val (.long (i2.toInt64)), .second, .val (.long len), .second, .val (.long (0 : Int64)), .second, .val (.int (((i1.toInt64) + (0 : Int64)).toInt32)), .unset] [(.long (0 : Int64)), (.long (0 : Int64))]))
        refine OwnR.of (fun _ hr => XS.lcmp X50.here hx rfl (hb hby at_201) rfl hr) ?_
        show OwnR _ _ _ _ _ _ _ (T50.setTop (mkF m 202 #[.val (.int p1), .val (.int p2), .val (.int p3), .val (.int p4), .val (.int p5), .val (.int p6), .val (.int i1), .val (.int i2), .val (.int (2 : Int32)), .val (.int (1 : Int32)), .val (.ref b44), .val (.long (i1.toInt64)), .second, .val (.long (i2.toInt64)), .second, .val (.long len), .second, .val (.long (0 : Int64)), .second, .val (.int (((i1.toInt64) + (0 : Int64)).toInt32)), .unset] [(.int (lcmpW (0 : Int64) (0 : Int64)))]))
        refine OwnR.of (fun _ hr => XS.ifNo X50.here hx rfl (hb hby at_202) rfl ((if0 _ _).trans (teq ((own_lceq _ _).mpr (by decide : (0 : Int64) = (0 : Int64)))).2) hr) ?_
        show OwnR _ _ _ _ _ _ _ (T50.setTop (mkF m 205 #[.val (.int p1), .val (.int p2), .val (.int p3), .val (.int p4), .val (.int p5), .val (.int p6), .val (.int i1), .val (.int i2), .val (.int (2 : Int32)), .val (.int (1 : Int32)), .val (.ref b44), .val (.long (i1.toInt64)), .second, .val (.long (i2.toInt64)), .second, .val (.long len), .second, .val (.long (0 : Int64)), .second, .val (.int (((i1.toInt64) + (0 : Int64)).toInt32)), .unset] []))
        refine OwnR.of (fun _ hr => XS.iconst X50.here hx rfl (hb hby at_205) hr) ?_
        show OwnR _ _ _ _ _ _ _ (T50.setTop (mkF m 206 #[.val (.int p1), .val (.int p2), .val (.int p3), .val (.int p4), .val (.int p5), .val (.int p6), .val (.int i1), .val (.int i2), .val (.int (2 : Int32)), .val (.int (1 : Int32)), .val (.ref b44), .val (.long (i1.toInt64)), .second, .val (.long (i2.toInt64)), .second, .val (.long len), .second, .val (.long (0 : Int64)), .second, .val (.int (((i1.toInt64) + (0 : Int64)).toInt32)), .unset] [(.int (1 : Int32))]))
        refine OwnR.of (fun _ hr => XS.goto X50.here hx rfl (pc0 := 206) (pc' := 210) rfl (hb hby at_206) (by decide) (by decide) hr) ?_
        show OwnR _ _ _ _ _ _ _ (T50.setTop (mkF m 210 #[.val (.int p1), .val (.int p2), .val (.int p3), .val (.int p4), .val (.int p5), .val (.int p6), .val (.int i1), .val (.int i2), .val (.int (2 : Int32)), .val (.int (1 : Int32)), .val (.ref b44), .val (.long (i1.toInt64)), .second, .val (.long (i2.toInt64)), .second, .val (.long len), .second, .val (.long (0 : Int64)), .second, .val (.int (((i1.toInt64) + (0 : Int64)).toInt32)), .unset] [(.int (1 : Int32))]))
        refine OwnR.of (fun _ hr => XS.istore X50.here hx rfl (hb hby at_210) rfl (l' := #[.val (.int p1), .val (.int p2), .val (.int p3), .val (.int p4), .val (.int p5), .val (.int p6), .val (.int i1), .val (.int i2), .val (.int (2 : Int32)), .val (.int (1 : Int32)), .val (.ref b44), .val (.long (i1.toInt64)), .second, .val (.long (i2.toInt64)), .second, .val (.long len), .second, .val (.long (0 : Int64)), .second, .val (.int (((i1.toInt64) + (0 : Int64)).toInt32)), .val (.int (1 : Int32))]) rfl hr) ?_
        show OwnR _ _ _ _ _ _ _ (T50.setTop (mkF m 212 #[.val (.int p1), .val (.int p2), .val (.int p3), .val (.int p4), .val (.int p5), .val (.int p6), .val (.int i1), .val (.int i2), .val (.int (2 : Int32)), .val (.int (1 : Int32)), .val (.ref b44), .val (.long (i1.toInt64)), .second, .val (.long (i2.toInt64)), .second, .val (.long len), .second, .val (.long (0 : Int64)), .second, .val (.int (((i1.toInt64) + (0 : Int64)).toInt32)), .val (.int (1 : Int32))] []))
        refine OwnR.of (fun _ hr => XS.aload X50.here hx rfl (hb hby at_212) rfl rfl hr) ?_
        show OwnR _ _ _ _ _ _ _ (T50.setTop (mkF m 214 #[.val (.int p1), .val (.int p2), .val (.int p3), .val (.int p4), .val (.int p5), .val (.int p6), .val (.int i1), .val (.int i2), .val (.int (2 : Int32)), .val (.int (1 : Int32)), .val (.ref b44), .val (.long (i1.toInt64)), .second, .val (.long (i2.toInt64)), .second, .val (.long len), .second, .val (.long (0 : Int64)), .second, .val (.int (((i1.toInt64) + (0 : Int64)).toInt32)), .val (.int (1 : Int32))] [(.ref b44)]))
        refine OwnR.of (fun _ hr => XS.iload X50.here hx rfl (hb hby at_214) rfl hr) ?_
        show OwnR _ _ _ _ _ _ _ (T50.setTop (mkF m 216 #[.val (.int p1), .val (.int p2), .val (.int p3), .val (.int p4), .val (.int p5), .val (.int p6), .val (.int i1), .val (.int i2), .val (.int (2 : Int32)), .val (.int (1 : Int32)), .val (.ref b44), .val (.long (i1.toInt64)), .second, .val (.long (i2.toInt64)), .second, .val (.long len), .second, .val (.long (0 : Int64)), .second, .val (.int (((i1.toInt64) + (0 : Int64)).toInt32)), .val (.int (1 : Int32))] [(.int (1 : Int32)), (.ref b44)]))
        refine OwnR.of (fun _ hr => XS.iload X50.here hx rfl (hb hby at_216) rfl hr) ?_
        show OwnR _ _ _ _ _ _ _ (T50.setTop (mkF m 218 #[.val (.int p1), .val (.int p2), .val (.int p3), .val (.int p4), .val (.int p5), .val (.int p6), .val (.int i1), .val (.int i2), .val (.int (2 : Int32)), .val (.int (1 : Int32)), .val (.ref b44), .val (.long (i1.toInt64)), .second, .val (.long (i2.toInt64)), .second, .val (.long len), .second, .val (.long (0 : Int64)), .second, .val (.int (((i1.toInt64) + (0 : Int64)).toInt32)), .val (.int (1 : Int32))] [(.int (((i1.toInt64) + (0 : Int64)).toInt32)), (.int (1 : Int32)), (.ref b44)]))
        obtain ⟨cq57, kq57, q57a, q57b, q57c⟩ := isOf hZ rfl P50_1
        obtain ⟨_, _, ⟨T57, L57, kc57, ns57⟩, -, X57, ⟨Lc57, hQ57, l57, y57, z57⟩, st57⟩ := X50.virtualBack hx (y := (⟨"com/example/tercet/tercet/core/Pages", "startsPage", "(II)Z"⟩ : MethodName)) (z := (⟨"com/example/tercet/tercet/core/Pages", "startsPage", "(II)Z"⟩ : MethodName)) hown (mvT hZ (hw _ (List.mem_of_getElem? (i := 66) rfl))) (mvT hZ (hw _ (List.mem_of_getElem? (i := 67) rfl))) (notFace_of_selects (args := #[]) (mvT hZ (hw _ (List.mem_of_getElem? (i := 69) rfl)))) (mvT hZ (hw _ (List.mem_of_getElem? (i := 69) rfl))) (mvT hZ (hw _ (List.mem_of_getElem? (i := 68) rfl))) (by decide) (backOf (W := 0) (rmS_1_4 l Z a0 hw [] b44 (((i1.toInt64) + (0 : Int64)).toInt32) c_50 kc_50 (0 : Int32) i1 i2 (0 : Int32) (T50.heap) n0 (Nat.le_trans Z0 K50.1) P50_1 P50_6 P50_11) hZ (hw _ (List.mem_of_getElem? (i := 70) rfl)) (hw _ (List.mem_of_getElem? (i := 5) rfl)) (by decide) (by decide)) q57a q57c (g := (mkF m 218 #[.val (.int p1), .val (.int p2), .val (.int p3), .val (.int p4), .val (.int p5), .val (.int p6), .val (.int i1), .val (.int i2), .val (.int (2 : Int32)), .val (.int (1 : Int32)), .val (.ref b44), .val (.long (i1.toInt64)), .second, .val (.long (i2.toInt64)), .second, .val (.long len), .second, .val (.long (0 : Int64)), .second, .val (.int (((i1.toInt64) + (0 : Int64)).toInt32)), .val (.int (1 : Int32))] [(.int (((i1.toInt64) + (0 : Int64)).toInt32)), (.int (1 : Int32)), (.ref b44)])) rfl (by rw [hml]; rfl) (Steps.refl _) (argsL := [(.int (1 : Int32)), (.int (((i1.toInt64) + (0 : Int64)).toInt32))]) (rest := []) (lenOf pd__II_Z rfl) rfl (by show 2 * 0 + _ ≤ _; exact Nat.le_of_eq rfl) (hb hby at_218) (fun _ _ => ⟨rfl, rfl, (by decide : 7 + 0 ≤ _), (by decide : 21 + 0 ≤ _)⟩)
        dsimp only [Pt.U, Pt.locs, Pt.cells, Pt.slots] at X57 l57 y57 z57 st57 hQ57
        subst l57 y57 z57
        obtain ⟨rfl, N57q, e57⟩ := hQ57
        have N57 := Fr.app N50 N57q
        refine OwnR.of (fun _ hr => st57.trans hr) ?_
        show OwnR _ _ _ _ _ _ _ (T57.setTop (mkF m 221 #[.val (.int p1), .val (.int p2), .val (.int p3), .val (.int p4), .val (.int p5), .val (.int p6), .val (.int i1), .val (.int i2), .val (.int (2 : Int32)), .val (.int (1 : Int32)), .val (.ref b44), .val (.long (i1.toInt64)), .second, .val (.long (i2.toInt64)), .second, .val (.long len), .second, .val (.long (0 : Int64)), .second, .val (.int (((i1.toInt64) + (0 : Int64)).toInt32)), .val (.int (1 : Int32))] [(.int (own_sp i1 (((i1.toInt64) + (0 : Int64)).toInt32)))]))
        refine OwnR.of (fun _ hr => XS.iload X57.here hx rfl (hb hby at_221) rfl hr) ?_
        show OwnR _ _ _ _ _ _ _ (T57.setTop (mkF m 223 #[.val (.int p1), .val (.int p2), .val (.int p3), .val (.int p4), .val (.int p5), .val (.int p6), .val (.int i1), .val (.int i2), .val (.int (2 : Int32)), .val (.int (1 : Int32)), .val (.ref b44), .val (.long (i1.toInt64)), .second, .val (.long (i2.toInt64)), .second, .val (.long len), .second, .val (.long (0 : Int64)), .second, .val (.int (((i1.toInt64) + (0 : Int64)).toInt32)), .val (.int (1 : Int32))] [(.int (1 : Int32)), (.int (own_sp i1 (((i1.toInt64) + (0 : Int64)).toInt32)))]))
        have hc223_58 : (own_sp i1 (((i1.toInt64) + (0 : Int64)).toInt32)) = (1 : Int32) := by
          refine Classical.byContradiction fun hbad => ?_
          exact hbad (own_fin0 i1 b1.1)
        refine OwnR.of (fun _ hr => XS.icmpNo X57.here hx rfl (hb hby at_223) rfl (teq hc223_58).2 hr) ?_
        show OwnR _ _ _ _ _ _ _ (T57.setTop (mkF m 226 #[.val (.int p1), .val (.int p2), .val (.int p3), .val (.int p4), .val (.int p5), .val (.int p6), .val (.int i1), .val (.int i2), .val (.int (2 : Int32)), .val (.int (1 : Int32)), .val (.ref b44), .val (.long (i1.toInt64)), .second, .val (.long (i2.toInt64)), .second, .val (.long len), .second, .val (.long (0 : Int64)), .second, .val (.int (((i1.toInt64) + (0 : Int64)).toInt32)), .val (.int (1 : Int32))] []))
        refine OwnR.of (fun _ hr => XS.iconst X57.here hx rfl (hb hby at_226) hr) ?_
        show OwnR _ _ _ _ _ _ _ (T57.setTop (mkF m 227 #[.val (.int p1), .val (.int p2), .val (.int p3), .val (.int p4), .val (.int p5), .val (.int p6), .val (.int i1), .val (.int i2), .val (.int (2 : Int32)), .val (.int (1 : Int32)), .val (.ref b44), .val (.long (i1.toInt64)), .second, .val (.long (i2.toInt64)), .second, .val (.long len), .second, .val (.long (0 : Int64)), .second, .val (.int (((i1.toInt64) + (0 : Int64)).toInt32)), .val (.int (1 : Int32))] [(.int (1 : Int32))]))
        refine OwnR.of (fun _ hr => XS.goto X57.here hx rfl (pc0 := 227) (pc' := 231) rfl (hb hby at_227) (by decide) (by decide) hr) ?_
        show OwnR _ _ _ _ _ _ _ (T57.setTop (mkF m 231 #[.val (.int p1), .val (.int p2), .val (.int p3), .val (.int p4), .val (.int p5), .val (.int p6), .val (.int i1), .val (.int i2), .val (.int (2 : Int32)), .val (.int (1 : Int32)), .val (.ref b44), .val (.long (i1.toInt64)), .second, .val (.long (i2.toInt64)), .second, .val (.long len), .second, .val (.long (0 : Int64)), .second, .val (.int (((i1.toInt64) + (0 : Int64)).toInt32)), .val (.int (1 : Int32))] [(.int (1 : Int32))]))
        refine own_leafN X57 hx hlk (t := .boolean) Bd.returns (by simp) (hb hby at_231) (z' := (1 : Int32)) rfl (by decide) (by decide) ?_
        show Q0 Z  h0 n0 _ T57.heap _
        rw [show T57.heap = T50.heap from e57]
        refine ⟨?_, N57⟩
        show (some (.int (1 : Int32)) : Option Value) = some (.int (1 : Int32))
        rfl
    · skip
      show OwnR _ _ _ _ _ _ _ (s₁.setTop (mkF m 38 #[.val (.int p1), .val (.int p2), .val (.int p3), .val (.int p4), .val (.int p5), .val (.int p6), .val (.int i1), .val (.int i2), .val (.int (2 : Int32)), .val (.int (2 : Int32)), .unset, .unset, .unset, .unset, .unset, .unset, .unset, .unset, .unset, .unset, .unset] []))
      obtain ⟨T59, h59, X59, e59, E59, A59, D59, -, st59⟩ := newO X0 hx hZ hown (hw _ (List.mem_of_getElem? (i := 3) rfl)) (hw _ (List.mem_of_getElem? (i := 4) rfl)) (hw _ (List.mem_of_getElem? (i := 5) rfl)) e0 (g := (mkF m 38 #[.val (.int p1), .val (.int p2), .val (.int p3), .val (.int p4), .val (.int p5), .val (.int p6), .val (.int i1), .val (.int i2), .val (.int (2 : Int32)), .val (.int (2 : Int32)), .unset, .unset, .unset, .unset, .unset, .unset, .unset, .unset, .unset, .unset, .unset] [])) rfl (hb hby at_38) (by decide) (by decide)
      obtain ⟨b59, g59⟩ : ∃ z, z = h0.size := ⟨_, rfl⟩
      rw [← g59] at A59 D59 st59
      refine OwnR.of (st59) ?_
      have gn_b59 : n0 ≤ b59 := Nat.le_trans (Nat.le_trans Z0 (Keep.refl h0 []).1) (Nat.le_of_eq g59.symm)
      have sz_b59 : h0.size ≤ b59 := Nat.le_trans (Keep.refl h0 []).1 (Nat.le_of_eq g59.symm)
      have K59 : Keep h0 h59 [] := Keep.ext (Keep.refl h0 []) E59
      have F_pageLength_b59 : Fld Z h59 b59 "com/example/tercet/tercet/core/Pages" "pageLength" "I" (.int (0 : Int32)) := D59 (Or.inr (hw _ (List.mem_of_getElem? (i := 20) rfl))) (ty := .int) (by decide)
      have F_limit_b59 : Fld Z h59 b59 "com/example/tercet/tercet/core/Pages" "limit" "I" (.int (0 : Int32)) := D59 (Or.inl (hw _ (List.mem_of_getElem? (i := 22) rfl))) (ty := .int) (by decide)
      have F_last_b59 : Fld Z h59 b59 "com/example/tercet/tercet/core/Pages" "last" "Ljava/lang/Object;" .null := D59 (Or.inl (hw _ (List.mem_of_getElem? (i := 24) rfl))) (ty := (.object "java/lang/Object")) (by decide)
      have F_pages_b59 : Fld Z h59 b59 "com/example/tercet/tercet/core/Pages" "pages" "[Ljava/lang/Object;" .null := D59 (Or.inl (hw _ (List.mem_of_getElem? (i := 29) rfl))) (ty := (.array (.object "java/lang/Object"))) (by decide)
      have F_firsts_b59 : Fld Z h59 b59 "com/example/tercet/tercet/core/Pages" "firsts" "[I" .null := D59 (Or.inl (hw _ (List.mem_of_getElem? (i := 32) rfl))) (ty := (.array .int)) (by decide)
      have F_count_b59 : Fld Z h59 b59 "com/example/tercet/tercet/core/Pages" "count" "I" (.int (0 : Int32)) := D59 (Or.inl (hw _ (List.mem_of_getElem? (i := 34) rfl))) (ty := .int) (by decide)
      show OwnR _ _ _ _ _ _ _ (T59.setTop (mkF m 41 #[.val (.int p1), .val (.int p2), .val (.int p3), .val (.int p4), .val (.int p5), .val (.int p6), .val (.int i1), .val (.int i2), .val (.int (2 : Int32)), .val (.int (2 : Int32)), .unset, .unset, .unset, .unset, .unset, .unset, .unset, .unset, .unset, .unset, .unset] [(.ref b59)]))
      refine OwnR.of (fun _ hr => XS.dup X59.here hx rfl (hb hby at_41) rfl rfl hr) ?_
      show OwnR _ _ _ _ _ _ _ (T59.setTop (mkF m 42 #[.val (.int p1), .val (.int p2), .val (.int p3), .val (.int p4), .val (.int p5), .val (.int p6), .val (.int i1), .val (.int i2), .val (.int (2 : Int32)), .val (.int (2 : Int32)), .unset, .unset, .unset, .unset, .unset, .unset, .unset, .unset, .unset, .unset, .unset] [(.ref b59), (.ref b59)]))
      refine OwnR.of (fun _ hr => XS.iconst X59.here hx rfl (hb hby at_42) hr) ?_
      show OwnR _ _ _ _ _ _ _ (T59.setTop (mkF m 43 #[.val (.int p1), .val (.int p2), .val (.int p3), .val (.int p4), .val (.int p5), .val (.int p6), .val (.int i1), .val (.int i2), .val (.int (2 : Int32)), .val (.int (2 : Int32)), .unset, .unset, .unset, .unset, .unset, .unset, .unset, .unset, .unset, .unset, .unset] [(.int (0 : Int32)), (.ref b59), (.ref b59)]))
      obtain ⟨_, _, ⟨T60, L60, kc60, ns60⟩, -, X60, ⟨Lc60, hQ60, l60, y60, z60⟩, st60⟩ := Jvm.LawKit.callS X59 hx (y := (⟨"java/lang/Integer", "valueOf", "(I)Ljava/lang/Integer;"⟩ : MethodName)) hown (mvT hZ (hw _ (List.mem_of_getElem? (i := 6) rfl))) (mvT hZ (hw _ (List.mem_of_getElem? (i := 7) rfl))) (mvT hZ (hw _ (List.mem_of_getElem? (i := 8) rfl))) (mvT hZ (hw _ (List.mem_of_getElem? (i := 9) rfl))) (by decide) (backOf (W := 2) (rmV_0 l Z a0 hw [] sc cc iv0 iv1 iv2 h59 n0 (Nat.le_trans Z0 K59.1) (own_sta S_high K59) (own_sta S_cache K59) (own_arr Ar_sc K59 nin0) hin0 hin1 hin2 hat0 hat1 hat2) hZ (hw _ (List.mem_of_getElem? (i := 9) rfl)) (hw _ (List.mem_of_getElem? (i := 8) rfl)) (by decide) (by decide)) (g := (mkF m 43 #[.val (.int p1), .val (.int p2), .val (.int p3), .val (.int p4), .val (.int p5), .val (.int p6), .val (.int i1), .val (.int i2), .val (.int (2 : Int32)), .val (.int (2 : Int32)), .unset, .unset, .unset, .unset, .unset, .unset, .unset, .unset, .unset, .unset, .unset] [(.int (0 : Int32)), (.ref b59), (.ref b59)])) rfl (by rw [hml]; rfl) (argsL := [(.int (0 : Int32))]) (rest := [(.ref b59), (.ref b59)]) (lenOf pd__I_Ljava_lang_Integer_ rfl) rfl (by show 2 * 0 + _ ≤ _; exact Nat.le_of_eq rfl) (hb hby at_43) (fun _ _ => ⟨rfl, e59, (by decide : 1 + 0 ≤ _), (by decide : 7 + 0 ≤ _)⟩)
      dsimp only [Pt.U, Pt.locs, Pt.cells, Pt.slots] at X60 l60 y60 z60 st60 hQ60
      subst l60 y60 z60
      obtain ⟨rfl, N60q, e60⟩ := hQ60
      have N60 := Fr.app N0 N60q
      refine OwnR.of (st60) ?_
      show OwnR _ _ _ _ _ _ _ (T60.setTop (mkF m 46 #[.val (.int p1), .val (.int p2), .val (.int p3), .val (.int p4), .val (.int p5), .val (.int p6), .val (.int i1), .val (.int i2), .val (.int (2 : Int32)), .val (.int (2 : Int32)), .unset, .unset, .unset, .unset, .unset, .unset, .unset, .unset, .unset, .unset, .unset] [(.ref iv0), (.ref b59), (.ref b59)]))
      refine OwnR.of (fun _ hr => XS.iconst X60.here hx rfl (hb hby at_46) hr) ?_
      show OwnR _ _ _ _ _ _ _ (T60.setTop (mkF m 47 #[.val (.int p1), .val (.int p2), .val (.int p3), .val (.int p4), .val (.int p5), .val (.int p6), .val (.int i1), .val (.int i2), .val (.int (2 : Int32)), .val (.int (2 : Int32)), .unset, .unset, .unset, .unset, .unset, .unset, .unset, .unset, .unset, .unset, .unset] [(.int (4 : Int32)), (.ref iv0), (.ref b59), (.ref b59)]))
      refine OwnR.of (fun _ hr => XS.iconst X60.here hx rfl (hb hby at_47) hr) ?_
      show OwnR _ _ _ _ _ _ _ (T60.setTop (mkF m 48 #[.val (.int p1), .val (.int p2), .val (.int p3), .val (.int p4), .val (.int p5), .val (.int p6), .val (.int i1), .val (.int i2), .val (.int (2 : Int32)), .val (.int (2 : Int32)), .unset, .unset, .unset, .unset, .unset, .unset, .unset, .unset, .unset, .unset, .unset] [(.int (2 : Int32)), (.int (4 : Int32)), (.ref iv0), (.ref b59), (.ref b59)]))
      obtain ⟨_, _, ⟨T61, L61, kc61, ns61⟩, -, X61, ⟨Lc61, hQ61, l61, y61, z61⟩, st61⟩ := X60.specialBack hx (y := (⟨"com/example/tercet/tercet/core/Pages", "<init>", "(Ljava/lang/Object;II)V"⟩ : MethodName)) rfl hown (mvT hZ (hw _ (List.mem_of_getElem? (i := 13) rfl))) (mvT hZ (hw _ (List.mem_of_getElem? (i := 14) rfl))) (mvT hZ (hw _ (List.mem_of_getElem? (i := 15) rfl))) (by decide) (backOf (W := 1) (rmI l Z a0 hw [] b59 iv0 (4 : Int32) (2 : Int32) h59 n0 (Nat.le_trans Z0 K59.1) A59 F_pageLength_b59 F_limit_b59 F_last_b59 F_pages_b59 F_firsts_b59 F_count_b59 (Exa.keep E_iv0 K59) gn_b59) hZ (hw _ (List.mem_of_getElem? (i := 15) rfl)) (hw _ (List.mem_of_getElem? (i := 5) rfl)) (by decide) (by decide)) (g := (mkF m 48 #[.val (.int p1), .val (.int p2), .val (.int p3), .val (.int p4), .val (.int p5), .val (.int p6), .val (.int i1), .val (.int i2), .val (.int (2 : Int32)), .val (.int (2 : Int32)), .unset, .unset, .unset, .unset, .unset, .unset, .unset, .unset, .unset, .unset, .unset] [(.int (2 : Int32)), (.int (4 : Int32)), (.ref iv0), (.ref b59), (.ref b59)])) rfl (by rw [hml]; rfl) (Steps.refl _) (a := b59) (argsL := [(.ref iv0), (.int (4 : Int32)), (.int (2 : Int32))]) (rest := [(.ref b59)]) (lenOf pd__Ljava_lang_Object_II_V rfl) rfl (by show 2 * 0 + _ ≤ _; exact Nat.le_of_eq rfl) (hb hby at_48) (fun _ _ => ⟨rfl, e60, (by decide : 1 + 2 ≤ _), (by decide : 7 + 2 ≤ _)⟩)
      dsimp only [Pt.U, Pt.locs, Pt.cells, Pt.slots] at X61 l61 y61 z61 st61 hQ61
      subst l61 y61 z61
      obtain ⟨b_61, kb_61, c_61, kc_61, rfl, N61q, P61_0, P61_1, P61_2, P61_3, P61_4, P61_5, P61_6, P61_7, P61_8, P61_9, P61_10, P61_11, P61_12, P61_13, P61_14⟩ := hQ61
      have K61 : Keep h0 T61.heap [] := Keep.trans K59 P61_0 (allS (Or.inr sz_b59) all0)
      have sz_b_61 : h0.size ≤ b_61 := Nat.le_trans K59.1 P61_11
      have sz_c_61 : h0.size ≤ c_61 := Nat.le_trans K59.1 P61_13
      have N61 := Fr.app N60 N61q
      refine OwnR.of (fun _ hr => st61.trans hr) ?_
      show OwnR _ _ _ _ _ _ _ (T61.setTop (mkF m 51 #[.val (.int p1), .val (.int p2), .val (.int p3), .val (.int p4), .val (.int p5), .val (.int p6), .val (.int i1), .val (.int i2), .val (.int (2 : Int32)), .val (.int (2 : Int32)), .unset, .unset, .unset, .unset, .unset, .unset, .unset, .unset, .unset, .unset, .unset] [(.ref b59)]))
      refine OwnR.of (fun _ hr => XS.astore X61.here hx rfl (hb hby at_51) rfl rfl (l' := #[.val (.int p1), .val (.int p2), .val (.int p3), .val (.int p4), .val (.int p5), .val (.int p6), .val (.int i1), .val (.int i2), .val (.int (2 : Int32)), .val (.int (2 : Int32)), .val (.ref b59), .unset, .unset, .unset, .unset, .unset, .unset, .unset, .unset, .unset, .unset]) rfl hr) ?_
      show OwnR _ _ _ _ _ _ _ (T61.setTop (mkF m 53 #[.val (.int p1), .val (.int p2), .val (.int p3), .val (.int p4), .val (.int p5), .val (.int p6), .val (.int i1), .val (.int i2), .val (.int (2 : Int32)), .val (.int (2 : Int32)), .val (.ref b59), .unset, .unset, .unset, .unset, .unset, .unset, .unset, .unset, .unset, .unset] []))
      refine OwnR.of (fun _ hr => XS.iload X61.here hx rfl (hb hby at_53) rfl hr) ?_
      show OwnR _ _ _ _ _ _ _ (T61.setTop (mkF m 55 #[.val (.int p1), .val (.int p2), .val (.int p3), .val (.int p4), .val (.int p5), .val (.int p6), .val (.int i1), .val (.int i2), .val (.int (2 : Int32)), .val (.int (2 : Int32)), .val (.ref b59), .unset, .unset, .unset, .unset, .unset, .unset, .unset, .unset, .unset, .unset] [(.int (2 : Int32))]))
      refine OwnR.of (fun _ hr => XS.iconst X61.here hx rfl (hb hby at_55) hr) ?_
      show OwnR _ _ _ _ _ _ _ (T61.setTop (mkF m 56 #[.val (.int p1), .val (.int p2), .val (.int p3), .val (.int p4), .val (.int p5), .val (.int p6), .val (.int i1), .val (.int i2), .val (.int (2 : Int32)), .val (.int (2 : Int32)), .val (.ref b59), .unset, .unset, .unset, .unset, .unset, .unset, .unset, .unset, .unset, .unset] [(.int (1 : Int32)), (.int (2 : Int32))]))
      refine OwnR.of (fun _ hr => XS.icmpNo X61.here hx rfl (hb hby at_56) rfl (flt (by decide : ¬ ((2 : Int32) < (1 : Int32)))).1 hr) ?_
      show OwnR _ _ _ _ _ _ _ (T61.setTop (mkF m 59 #[.val (.int p1), .val (.int p2), .val (.int p3), .val (.int p4), .val (.int p5), .val (.int p6), .val (.int i1), .val (.int i2), .val (.int (2 : Int32)), .val (.int (2 : Int32)), .val (.ref b59), .unset, .unset, .unset, .unset, .unset, .unset, .unset, .unset, .unset, .unset] []))
      refine OwnR.of (fun _ hr => XS.aload X61.here hx rfl (hb hby at_59) rfl rfl hr) ?_
      show OwnR _ _ _ _ _ _ _ (T61.setTop (mkF m 61 #[.val (.int p1), .val (.int p2), .val (.int p3), .val (.int p4), .val (.int p5), .val (.int p6), .val (.int i1), .val (.int i2), .val (.int (2 : Int32)), .val (.int (2 : Int32)), .val (.ref b59), .unset, .unset, .unset, .unset, .unset, .unset, .unset, .unset, .unset, .unset] [(.ref b59)]))
      refine OwnR.of (fun _ hr => XS.iload X61.here hx rfl (hb hby at_61) rfl hr) ?_
      show OwnR _ _ _ _ _ _ _ (T61.setTop (mkF m 63 #[.val (.int p1), .val (.int p2), .val (.int p3), .val (.int p4), .val (.int p5), .val (.int p6), .val (.int i1), .val (.int i2), .val (.int (2 : Int32)), .val (.int (2 : Int32)), .val (.ref b59), .unset, .unset, .unset, .unset, .unset, .unset, .unset, .unset, .unset, .unset] [(.int i1), (.ref b59)]))
      refine OwnR.of (fun _ hr => XS.iconst X61.here hx rfl (hb hby at_63) hr) ?_
      show OwnR _ _ _ _ _ _ _ (T61.setTop (mkF m 64 #[.val (.int p1), .val (.int p2), .val (.int p3), .val (.int p4), .val (.int p5), .val (.int p6), .val (.int i1), .val (.int i2), .val (.int (2 : Int32)), .val (.int (2 : Int32)), .val (.ref b59), .unset, .unset, .unset, .unset, .unset, .unset, .unset, .unset, .unset, .unset] [(.int (1 : Int32)), (.int i1), (.ref b59)]))
      obtain ⟨_, _, ⟨T62, L62, kc62, ns62⟩, -, X62, ⟨Lc62, hQ62, l62, y62, z62⟩, st62⟩ := Jvm.LawKit.callS X61 hx (y := (⟨"java/lang/Integer", "valueOf", "(I)Ljava/lang/Integer;"⟩ : MethodName)) hown (mvT hZ (hw _ (List.mem_of_getElem? (i := 6) rfl))) (mvT hZ (hw _ (List.mem_of_getElem? (i := 7) rfl))) (mvT hZ (hw _ (List.mem_of_getElem? (i := 8) rfl))) (mvT hZ (hw _ (List.mem_of_getElem? (i := 9) rfl))) (by decide) (backOf (W := 2) (rmV_1 l Z a0 hw [] sc cc iv0 iv1 iv2 (T61.heap) n0 (Nat.le_trans Z0 K61.1) (own_sta S_high K61) (own_sta S_cache K61) (own_arr Ar_sc K61 nin0) hin0 hin1 hin2 hat0 hat1 hat2) hZ (hw _ (List.mem_of_getElem? (i := 9) rfl)) (hw _ (List.mem_of_getElem? (i := 8) rfl)) (by decide) (by decide)) (g := (mkF m 64 #[.val (.int p1), .val (.int p2), .val (.int p3), .val (.int p4), .val (.int p5), .val (.int p6), .val (.int i1), .val (.int i2), .val (.int (2 : Int32)), .val (.int (2 : Int32)), .val (.ref b59), .unset, .unset, .unset, .unset, .unset, .unset, .unset, .unset, .unset, .unset] [(.int (1 : Int32)), (.int i1), (.ref b59)])) rfl (by rw [hml]; rfl) (argsL := [(.int (1 : Int32))]) (rest := [(.int i1), (.ref b59)]) (lenOf pd__I_Ljava_lang_Integer_ rfl) rfl (by show 2 * 0 + _ ≤ _; exact Nat.le_of_eq rfl) (hb hby at_64) (fun _ _ => ⟨rfl, rfl, (by decide : 3 + 0 ≤ _), (by decide : 9 + 0 ≤ _)⟩)
      dsimp only [Pt.U, Pt.locs, Pt.cells, Pt.slots] at X62 l62 y62 z62 st62 hQ62
      subst l62 y62 z62
      obtain ⟨rfl, N62q, e62⟩ := hQ62
      have N62 := Fr.app N61 N62q
      refine OwnR.of (st62) ?_
      show OwnR _ _ _ _ _ _ _ (T62.setTop (mkF m 67 #[.val (.int p1), .val (.int p2), .val (.int p3), .val (.int p4), .val (.int p5), .val (.int p6), .val (.int i1), .val (.int i2), .val (.int (2 : Int32)), .val (.int (2 : Int32)), .val (.ref b59), .unset, .unset, .unset, .unset, .unset, .unset, .unset, .unset, .unset, .unset] [(.ref iv1), (.int i1), (.ref b59)]))
      obtain ⟨cq63, kq63, q63a, q63b, q63c⟩ := isOf hZ e62 P61_1
      obtain ⟨_, _, ⟨T63, L63, kc63, ns63⟩, -, X63, ⟨Lc63, hQ63, l63, y63, z63⟩, st63⟩ := X62.virtualBack hx (y := (⟨"com/example/tercet/tercet/core/Pages", "turn", "(ILjava/lang/Object;)V"⟩ : MethodName)) (z := (⟨"com/example/tercet/tercet/core/Pages", "turn", "(ILjava/lang/Object;)V"⟩ : MethodName)) hown (mvT hZ (hw _ (List.mem_of_getElem? (i := 35) rfl))) (mvT hZ (hw _ (List.mem_of_getElem? (i := 36) rfl))) (notFace_of_selects (args := #[]) (mvT hZ (hw _ (List.mem_of_getElem? (i := 38) rfl)))) (mvT hZ (hw _ (List.mem_of_getElem? (i := 38) rfl))) (mvT hZ (hw _ (List.mem_of_getElem? (i := 37) rfl))) (by decide) (backOf (W := 0) (rmT_1 l Z a0 hw [] b59 i1 iv1 (2 : Int32) (4 : Int32) iv0 b_61 c_61 kb_61 kc_61 iv0 (0 : Int32) mo (T61.heap) n0 (Nat.le_trans Z0 K61.1) P61_1 P61_2 P61_3 P61_4 P61_5 P61_6 P61_7 P61_8 P61_10 P61_9 (Exa.keep E_iv1 K61) (Exa.keep E_iv0 K61) M_mo gn_b59 (Nat.ne_of_lt (Nat.lt_of_lt_of_le A59.lt P61_11)) (Nat.ne_of_lt (Nat.lt_of_lt_of_le A59.lt P61_13))) hZ (hw _ (List.mem_of_getElem? (i := 39) rfl)) (hw _ (List.mem_of_getElem? (i := 5) rfl)) (by decide) (by decide)) q63a q63c (g := (mkF m 67 #[.val (.int p1), .val (.int p2), .val (.int p3), .val (.int p4), .val (.int p5), .val (.int p6), .val (.int i1), .val (.int i2), .val (.int (2 : Int32)), .val (.int (2 : Int32)), .val (.ref b59), .unset, .unset, .unset, .unset, .unset, .unset, .unset, .unset, .unset, .unset] [(.ref iv1), (.int i1), (.ref b59)])) rfl (by rw [hml]; rfl) (Steps.refl _) (argsL := [(.int i1), (.ref iv1)]) (rest := []) (lenOf pd__ILjava_lang_Object__V rfl) rfl (by show 2 * 0 + _ ≤ _; exact Nat.le_of_eq rfl) (hb hby at_67) (fun _ _ => ⟨rfl, e62, (by decide : 3 + 2 ≤ _), (by decide : 9 + 4 ≤ _)⟩)
      dsimp only [Pt.U, Pt.locs, Pt.cells, Pt.slots] at X63 l63 y63 z63 st63 hQ63
      subst l63 y63 z63
      obtain ⟨b_63, kb_63, c_63, kc_63, rfl, N63q, P63_0, P63_1, P63_2, P63_3, P63_4, P63_5, P63_6, P63_7, P63_8, P63_9, P63_10, P63_11, P63_12, P63_13, P63_14, P63_15⟩ := hQ63
      have K63 : Keep h0 T63.heap [] := Keep.trans K61 P63_0 (allS (Or.inr sz_b59) all0)
      have sz_b_63 : h0.size ≤ b_63 := Nat.le_trans K61.1 P63_12
      have sz_c_63 : h0.size ≤ c_63 := Nat.le_trans K61.1 P63_14
      have N63 := Fr.app N62 N63q
      refine OwnR.of (fun _ hr => st63.trans hr) ?_
      show OwnR _ _ _ _ _ _ _ (T63.setTop (mkF m 70 #[.val (.int p1), .val (.int p2), .val (.int p3), .val (.int p4), .val (.int p5), .val (.int p6), .val (.int i1), .val (.int i2), .val (.int (2 : Int32)), .val (.int (2 : Int32)), .val (.ref b59), .unset, .unset, .unset, .unset, .unset, .unset, .unset, .unset, .unset, .unset] []))
      refine OwnR.of (fun _ hr => XS.iload X63.here hx rfl (hb hby at_70) rfl hr) ?_
      show OwnR _ _ _ _ _ _ _ (T63.setTop (mkF m 72 #[.val (.int p1), .val (.int p2), .val (.int p3), .val (.int p4), .val (.int p5), .val (.int p6), .val (.int i1), .val (.int i2), .val (.int (2 : Int32)), .val (.int (2 : Int32)), .val (.ref b59), .unset, .unset, .unset, .unset, .unset, .unset, .unset, .unset, .unset, .unset] [(.int (2 : Int32))]))
      refine OwnR.of (fun _ hr => XS.iconst X63.here hx rfl (hb hby at_72) hr) ?_
      show OwnR _ _ _ _ _ _ _ (T63.setTop (mkF m 73 #[.val (.int p1), .val (.int p2), .val (.int p3), .val (.int p4), .val (.int p5), .val (.int p6), .val (.int i1), .val (.int i2), .val (.int (2 : Int32)), .val (.int (2 : Int32)), .val (.ref b59), .unset, .unset, .unset, .unset, .unset, .unset, .unset, .unset, .unset, .unset] [(.int (2 : Int32)), (.int (2 : Int32))]))
      refine OwnR.of (fun _ hr => XS.icmpNo X63.here hx rfl (hb hby at_73) rfl (flt (by decide : ¬ ((2 : Int32) < (2 : Int32)))).1 hr) ?_
      show OwnR _ _ _ _ _ _ _ (T63.setTop (mkF m 76 #[.val (.int p1), .val (.int p2), .val (.int p3), .val (.int p4), .val (.int p5), .val (.int p6), .val (.int i1), .val (.int i2), .val (.int (2 : Int32)), .val (.int (2 : Int32)), .val (.ref b59), .unset, .unset, .unset, .unset, .unset, .unset, .unset, .unset, .unset, .unset] []))
      refine OwnR.of (fun _ hr => XS.aload X63.here hx rfl (hb hby at_76) rfl rfl hr) ?_
      show OwnR _ _ _ _ _ _ _ (T63.setTop (mkF m 78 #[.val (.int p1), .val (.int p2), .val (.int p3), .val (.int p4), .val (.int p5), .val (.int p6), .val (.int i1), .val (.int i2), .val (.int (2 : Int32)), .val (.int (2 : Int32)), .val (.ref b59), .unset, .unset, .unset, .unset, .unset, .unset, .unset, .unset, .unset, .unset] [(.ref b59)]))
      refine OwnR.of (fun _ hr => XS.iload X63.here hx rfl (hb hby at_78) rfl hr) ?_
      show OwnR _ _ _ _ _ _ _ (T63.setTop (mkF m 80 #[.val (.int p1), .val (.int p2), .val (.int p3), .val (.int p4), .val (.int p5), .val (.int p6), .val (.int i1), .val (.int i2), .val (.int (2 : Int32)), .val (.int (2 : Int32)), .val (.ref b59), .unset, .unset, .unset, .unset, .unset, .unset, .unset, .unset, .unset, .unset] [(.int i2), (.ref b59)]))
      refine OwnR.of (fun _ hr => XS.iconst X63.here hx rfl (hb hby at_80) hr) ?_
      show OwnR _ _ _ _ _ _ _ (T63.setTop (mkF m 81 #[.val (.int p1), .val (.int p2), .val (.int p3), .val (.int p4), .val (.int p5), .val (.int p6), .val (.int i1), .val (.int i2), .val (.int (2 : Int32)), .val (.int (2 : Int32)), .val (.ref b59), .unset, .unset, .unset, .unset, .unset, .unset, .unset, .unset, .unset, .unset] [(.int (2 : Int32)), (.int i2), (.ref b59)]))
      obtain ⟨_, _, ⟨T64, L64, kc64, ns64⟩, -, X64, ⟨Lc64, hQ64, l64, y64, z64⟩, st64⟩ := Jvm.LawKit.callS X63 hx (y := (⟨"java/lang/Integer", "valueOf", "(I)Ljava/lang/Integer;"⟩ : MethodName)) hown (mvT hZ (hw _ (List.mem_of_getElem? (i := 6) rfl))) (mvT hZ (hw _ (List.mem_of_getElem? (i := 7) rfl))) (mvT hZ (hw _ (List.mem_of_getElem? (i := 8) rfl))) (mvT hZ (hw _ (List.mem_of_getElem? (i := 9) rfl))) (by decide) (backOf (W := 2) (rmV_2 l Z a0 hw [] sc cc iv0 iv1 iv2 (T63.heap) n0 (Nat.le_trans Z0 K63.1) (own_sta S_high K63) (own_sta S_cache K63) (own_arr Ar_sc K63 nin0) hin0 hin1 hin2 hat0 hat1 hat2) hZ (hw _ (List.mem_of_getElem? (i := 9) rfl)) (hw _ (List.mem_of_getElem? (i := 8) rfl)) (by decide) (by decide)) (g := (mkF m 81 #[.val (.int p1), .val (.int p2), .val (.int p3), .val (.int p4), .val (.int p5), .val (.int p6), .val (.int i1), .val (.int i2), .val (.int (2 : Int32)), .val (.int (2 : Int32)), .val (.ref b59), .unset, .unset, .unset, .unset, .unset, .unset, .unset, .unset, .unset, .unset] [(.int (2 : Int32)), (.int i2), (.ref b59)])) rfl (by rw [hml]; rfl) (argsL := [(.int (2 : Int32))]) (rest := [(.int i2), (.ref b59)]) (lenOf pd__I_Ljava_lang_Integer_ rfl) rfl (by show 2 * 0 + _ ≤ _; exact Nat.le_of_eq rfl) (hb hby at_81) (fun _ _ => ⟨rfl, rfl, (by decide : 5 + 0 ≤ _), (by decide : 13 + 0 ≤ _)⟩)
      dsimp only [Pt.U, Pt.locs, Pt.cells, Pt.slots] at X64 l64 y64 z64 st64 hQ64
      subst l64 y64 z64
      obtain ⟨rfl, N64q, e64⟩ := hQ64
      have N64 := Fr.app N63 N64q
      refine OwnR.of (st64) ?_
      show OwnR _ _ _ _ _ _ _ (T64.setTop (mkF m 84 #[.val (.int p1), .val (.int p2), .val (.int p3), .val (.int p4), .val (.int p5), .val (.int p6), .val (.int i1), .val (.int i2), .val (.int (2 : Int32)), .val (.int (2 : Int32)), .val (.ref b59), .unset, .unset, .unset, .unset, .unset, .unset, .unset, .unset, .unset, .unset] [(.ref iv2), (.int i2), (.ref b59)]))
      obtain ⟨cq65, kq65, q65a, q65b, q65c⟩ := isOf hZ e64 P63_1
      obtain ⟨_, _, ⟨T65, L65, kc65, ns65⟩, -, X65, ⟨Lc65, hQ65, l65, y65, z65⟩, st65⟩ := X64.virtualBack hx (y := (⟨"com/example/tercet/tercet/core/Pages", "turn", "(ILjava/lang/Object;)V"⟩ : MethodName)) (z := (⟨"com/example/tercet/tercet/core/Pages", "turn", "(ILjava/lang/Object;)V"⟩ : MethodName)) hown (mvT hZ (hw _ (List.mem_of_getElem? (i := 35) rfl))) (mvT hZ (hw _ (List.mem_of_getElem? (i := 36) rfl))) (notFace_of_selects (args := #[]) (mvT hZ (hw _ (List.mem_of_getElem? (i := 38) rfl)))) (mvT hZ (hw _ (List.mem_of_getElem? (i := 38) rfl))) (mvT hZ (hw _ (List.mem_of_getElem? (i := 37) rfl))) (by decide) (backOf (W := 0) (rmT_2 l Z a0 hw [] b59 i2 iv2 (2 : Int32) (2 : Int32) iv1 b_63 c_63 kb_63 kc_63 iv0 iv1 (0 : Int32) i1 mo (T63.heap) n0 (Nat.le_trans Z0 K63.1) P63_1 P63_2 P63_3 P63_4 P63_5 P63_6 P63_7 P63_8 P63_11 P63_10 (Exa.keep E_iv2 K63) (Exa.keep E_iv0 K63) (Exa.keep E_iv1 K63) M_mo gn_b59 (Nat.ne_of_lt (Nat.lt_of_lt_of_le (A59.keep P61_0).lt P63_12)) (Nat.ne_of_lt (Nat.lt_of_lt_of_le (A59.keep P61_0).lt P63_14))) hZ (hw _ (List.mem_of_getElem? (i := 39) rfl)) (hw _ (List.mem_of_getElem? (i := 5) rfl)) (by decide) (by decide)) q65a q65c (g := (mkF m 84 #[.val (.int p1), .val (.int p2), .val (.int p3), .val (.int p4), .val (.int p5), .val (.int p6), .val (.int i1), .val (.int i2), .val (.int (2 : Int32)), .val (.int (2 : Int32)), .val (.ref b59), .unset, .unset, .unset, .unset, .unset, .unset, .unset, .unset, .unset, .unset] [(.ref iv2), (.int i2), (.ref b59)])) rfl (by rw [hml]; rfl) (Steps.refl _) (argsL := [(.int i2), (.ref iv2)]) (rest := []) (lenOf pd__ILjava_lang_Object__V rfl) rfl (by show 2 * 0 + _ ≤ _; exact Nat.le_of_eq rfl) (hb hby at_84) (fun _ _ => ⟨rfl, e64, (by decide : 5 + 2 ≤ _), (by decide : 13 + 8 ≤ _)⟩)
      dsimp only [Pt.U, Pt.locs, Pt.cells, Pt.slots] at X65 l65 y65 z65 st65 hQ65
      subst l65 y65 z65
      obtain ⟨b_65, kb_65, c_65, kc_65, rfl, N65q, P65_0, P65_1, P65_2, P65_3, P65_4, P65_5, P65_6, P65_7, P65_8, P65_9, P65_10, P65_11, P65_12, P65_13, P65_14, P65_15⟩ := hQ65
      have K65 : Keep h0 T65.heap [] := Keep.trans K63 P65_0 (allS (Or.inr sz_b59) all0)
      have sz_b_65 : h0.size ≤ b_65 := Nat.le_trans K63.1 P65_12
      have sz_c_65 : h0.size ≤ c_65 := Nat.le_trans K63.1 P65_14
      have N65 := Fr.app N64 N65q
      refine OwnR.of (fun _ hr => st65.trans hr) ?_
      show OwnR _ _ _ _ _ _ _ (T65.setTop (mkF m 87 #[.val (.int p1), .val (.int p2), .val (.int p3), .val (.int p4), .val (.int p5), .val (.int p6), .val (.int i1), .val (.int i2), .val (.int (2 : Int32)), .val (.int (2 : Int32)), .val (.ref b59), .unset, .unset, .unset, .unset, .unset, .unset, .unset, .unset, .unset, .unset] []))
      refine OwnR.of (fun _ hr => XS.iload X65.here hx rfl (hb hby at_87) rfl hr) ?_
      show OwnR _ _ _ _ _ _ _ (T65.setTop (mkF m 89 #[.val (.int p1), .val (.int p2), .val (.int p3), .val (.int p4), .val (.int p5), .val (.int p6), .val (.int i1), .val (.int i2), .val (.int (2 : Int32)), .val (.int (2 : Int32)), .val (.ref b59), .unset, .unset, .unset, .unset, .unset, .unset, .unset, .unset, .unset, .unset] [(.int (2 : Int32))]))
      refine OwnR.of (fun _ hr => XS.ifYes X65.here hx rfl (pc0 := 89) (pc' := 115) rfl (hb hby at_89) rfl ((if0 _ _).trans (feq (by decide : ¬ ((2 : Int32) = (0 : Int32)))).2) (by decide) (by decide) hr) ?_
      show OwnR _ _ _ _ _ _ _ (T65.setTop (mkF m 115 #[.val (.int p1), .val (.int p2), .val (.int p3), .val (.int p4), .val (.int p5), .val (.int p6), .val (.int i1), .val (.int i2), .val (.int (2 : Int32)), .val (.int (2 : Int32)), .val (.ref b59), .unset, .unset, .unset, .unset, .unset, .unset, .unset, .unset, .unset, .unset] []))
      refine OwnR.of (fun _ hr => XS.iload X65.here hx rfl (hb hby at_115) rfl hr) ?_
      show OwnR _ _ _ _ _ _ _ (T65.setTop (mkF m 117 #[.val (.int p1), .val (.int p2), .val (.int p3), .val (.int p4), .val (.int p5), .val (.int p6), .val (.int i1), .val (.int i2), .val (.int (2 : Int32)), .val (.int (2 : Int32)), .val (.ref b59), .unset, .unset, .unset, .unset, .unset, .unset, .unset, .unset, .unset, .unset] [(.int (2 : Int32))]))
      refine OwnR.of (fun _ hr => XS.iconst X65.here hx rfl (hb hby at_117) hr) ?_
      show OwnR _ _ _ _ _ _ _ (T65.setTop (mkF m 118 #[.val (.int p1), .val (.int p2), .val (.int p3), .val (.int p4), .val (.int p5), .val (.int p6), .val (.int i1), .val (.int i2), .val (.int (2 : Int32)), .val (.int (2 : Int32)), .val (.ref b59), .unset, .unset, .unset, .unset, .unset, .unset, .unset, .unset, .unset, .unset] [(.int (1 : Int32)), (.int (2 : Int32))]))
      refine OwnR.of (fun _ hr => XS.icmpYes X65.here hx rfl (pc0 := 118) (pc' := 146) rfl (hb hby at_118) rfl (feq (by decide : ¬ ((2 : Int32) = (1 : Int32)))).2 (by decide) (by decide) hr) ?_
      show OwnR _ _ _ _ _ _ _ (T65.setTop (mkF m 146 #[.val (.int p1), .val (.int p2), .val (.int p3), .val (.int p4), .val (.int p5), .val (.int p6), .val (.int i1), .val (.int i2), .val (.int (2 : Int32)), .val (.int (2 : Int32)), .val (.ref b59), .unset, .unset, .unset, .unset, .unset, .unset, .unset, .unset, .unset, .unset] []))
      refine OwnR.of (fun _ hr => XS.iload X65.here hx rfl (hb hby at_146) rfl hr) ?_
      show OwnR _ _ _ _ _ _ _ (T65.setTop (mkF m 148 #[.val (.int p1), .val (.int p2), .val (.int p3), .val (.int p4), .val (.int p5), .val (.int p6), .val (.int i1), .val (.int i2), .val (.int (2 : Int32)), .val (.int (2 : Int32)), .val (.ref b59), .unset, .unset, .unset, .unset, .unset, .unset, .unset, .unset, .unset, .unset] [(.int i2)]))
      refine OwnR.of (fun _ hr => XS.i2l X65.here hx rfl (hb hby at_148) rfl hr) ?_
      show OwnR _ _ _ _ _ _ _ (T65.setTop (mkF m 149 #[.val (.int p1), .val (.int p2), .val (.int p3), .val (.int p4), .val (.int p5), .val (.int p6), .val (.int i1), .val (.int i2), .val (.int (2 : Int32)), .val (.int (2 : Int32)), .val (.ref b59), .unset, .unset, .unset, .unset, .unset, .unset, .unset, .unset, .unset, .unset] [(.long (i2.toInt64))]))
      refine OwnR.of (fun _ hr => XS.lstore X65.here hx rfl (hb hby at_149) rfl (l' := #[.val (.int p1), .val (.int p2), .val (.int p3), .val (.int p4), .val (.int p5), .val (.int p6), .val (.int i1), .val (.int i2), .val (.int (2 : Int32)), .val (.int (2 : Int32)), .val (.ref b59), .val (.long (i2.toInt64)), .second, .unset, .unset, .unset, .unset, .unset, .unset, .unset, .unset]) rfl hr) ?_
      show OwnR _ _ _ _ _ _ _ (T65.setTop (mkF m 151 #[.val (.int p1), .val (.int p2), .val (.int p3), .val (.int p4), .val (.int p5), .val (.int p6), .val (.int i1), .val (.int i2), .val (.int (2 : Int32)), .val (.int (2 : Int32)), .val (.ref b59), .val (.long (i2.toInt64)), .second, .unset, .unset, .unset, .unset, .unset, .unset, .unset, .unset] []))
      refine OwnR.of (X65.ldc2Long hx hown (mvT hZ (hw _ (List.mem_of_getElem? (i := 71) rfl))) (g := (mkF m 151 #[.val (.int p1), .val (.int p2), .val (.int p3), .val (.int p4), .val (.int p5), .val (.int p6), .val (.int i1), .val (.int i2), .val (.int (2 : Int32)), .val (.int (2 : Int32)), .val (.ref b59), .val (.long (i2.toInt64)), .second, .unset, .unset, .unset, .unset, .unset, .unset, .unset, .unset] [])) rfl (hb hby at_151)) ?_
      show OwnR _ _ _ _ _ _ _ (T65.setTop (mkF m 154 #[.val (.int p1), .val (.int p2), .val (.int p3), .val (.int p4), .val (.int p5), .val (.int p6), .val (.int i1), .val (.int i2), .val (.int (2 : Int32)), .val (.int (2 : Int32)), .val (.ref b59), .val (.long (i2.toInt64)), .second, .unset, .unset, .unset, .unset, .unset, .unset, .unset, .unset] [(.long (2147483648 : Int64))]))
      refine OwnR.of (fun _ hr => XS.lstore X65.here hx rfl (hb hby at_154) rfl (l' := #[.val (.int p1), .val (.int p2), .val (.int p3), .val (.int p4), .val (.int p5), .val (.int p6), .val (.int i1), .val (.int i2), .val (.int (2 : Int32)), .val (.int (2 : Int32)), .val (.ref b59), .val (.long (i2.toInt64)), .second, .val (.long (2147483648 : Int64)), .second, .unset, .unset, .unset, .unset, .unset, .unset]) rfl hr) ?_
      show OwnR _ _ _ _ _ _ _ (T65.setTop (mkF m 156 #[.val (.int p1), .val (.int p2), .val (.int p3), .val (.int p4), .val (.int p5), .val (.int p6), .val (.int i1), .val (.int i2), .val (.int (2 : Int32)), .val (.int (2 : Int32)), .val (.ref b59), .val (.long (i2.toInt64)), .second, .val (.long (2147483648 : Int64)), .second, .unset, .unset, .unset, .unset, .unset, .unset] []))
      refine OwnR.of (fun _ hr => XS.lload X65.here hx rfl (hb hby at_156) rfl hr) ?_
      show OwnR _ _ _ _ _ _ _ (T65.setTop (mkF m 158 #[.val (.int p1), .val (.int p2), .val (.int p3), .val (.int p4), .val (.int p5), .val (.int p6), .val (.int i1), .val (.int i2), .val (.int (2 : Int32)), .val (.int (2 : Int32)), .val (.ref b59), .val (.long (i2.toInt64)), .second, .val (.long (2147483648 : Int64)), .second, .unset, .unset, .unset, .unset, .unset, .unset] [(.long (2147483648 : Int64))]))
      refine OwnR.of (fun _ hr => XS.lload X65.here hx rfl (hb hby at_158) rfl hr) ?_
      show OwnR _ _ _ _ _ _ _ (T65.setTop (mkF m 160 #[.val (.int p1), .val (.int p2), .val (.int p3), .val (.int p4), .val (.int p5), .val (.int p6), .val (.int i1), .val (.int i2), .val (.int (2 : Int32)), .val (.int (2 : Int32)), .val (.ref b59), .val (.long (i2.toInt64)), .second, .val (.long (2147483648 : Int64)), .second, .unset, .unset, .unset, .unset, .unset, .unset] [(.long (i2.toInt64)), (.long (2147483648 : Int64))]))
      refine OwnR.of (fun _ hr => XS.lsub X65.here hx rfl (hb hby at_160) rfl hr) ?_
      show OwnR _ _ _ _ _ _ _ (T65.setTop (mkF m 161 #[.val (.int p1), .val (.int p2), .val (.int p3), .val (.int p4), .val (.int p5), .val (.int p6), .val (.int i1), .val (.int i2), .val (.int (2 : Int32)), .val (.int (2 : Int32)), .val (.ref b59), .val (.long (i2.toInt64)), .second, .val (.long (2147483648 : Int64)), .second, .unset, .unset, .unset, .unset, .unset, .unset] [(.long ((2147483648 : Int64) - (i2.toInt64)))]))
      refine OwnR.of (fun _ hr => XS.lstore X65.here hx rfl (hb hby at_161) rfl (l' := #[.val (.int p1), .val (.int p2), .val (.int p3), .val (.int p4), .val (.int p5), .val (.int p6), .val (.int i1), .val (.int i2), .val (.int (2 : Int32)), .val (.int (2 : Int32)), .val (.ref b59), .val (.long (i2.toInt64)), .second, .val (.long (2147483648 : Int64)), .second, .val (.long ((2147483648 : Int64) - (i2.toInt64))), .second, .unset, .unset, .unset, .unset]) rfl hr) ?_
      show OwnR _ _ _ _ _ _ _ (T65.setTop (mkF m 163 #[.val (.int p1), .val (.int p2), .val (.int p3), .val (.int p4), .val (.int p5), .val (.int p6), .val (.int i1), .val (.int i2), .val (.int (2 : Int32)), .val (.int (2 : Int32)), .val (.ref b59), .val (.long (i2.toInt64)), .second, .val (.long (2147483648 : Int64)), .second, .val (.long ((2147483648 : Int64) - (i2.toInt64))), .second, .unset, .unset, .unset, .unset] []))
      obtain ⟨len, hlen⟩ : ∃ z : Int64, z = ((2147483648 : Int64) - (i2.toInt64)) := ⟨_, rfl⟩
      rw [← hlen]
      show OwnR _ _ _ _ _ _ _ (T65.setTop (mkF m 163 #[.val (.int p1), .val (.int p2), .val (.int p3), .val (.int p4), .val (.int p5), .val (.int p6), .val (.int i1), .val (.int i2), .val (.int (2 : Int32)), .val (.int (2 : Int32)), .val (.ref b59), .val (.long (i2.toInt64)), .second, .val (.long (2147483648 : Int64)), .second, .val (.long len), .second, .unset, .unset, .unset, .unset] []))
      have hl0 : 0 < len.toInt ∧ i2.toInt + len.toInt ≤ 2147483648 := by rw [hlen]; exact own_l1 i2 b2g
      have hnz182 : ¬ len = (0 : Int64) := own_nz len hl0.1
      refine OwnR.of (fun _ hr => XS.iload X65.here hx rfl (hb hby at_163) rfl hr) ?_
      show OwnR _ _ _ _ _ _ _ (T65.setTop (mkF m 165 #[.val (.int p1), .val (.int p2), .val (.int p3), .val (.int p4), .val (.int p5), .val (.int p6), .val (.int i1), .val (.int i2), .val (.int (2 : Int32)), .val (.int (2 : Int32)), .val (.ref b59), .val (.long (i2.toInt64)), .second, .val (.long (2147483648 : Int64)), .second, .val (.long len), .second, .unset, .unset, .unset, .unset] [(.int p6)]))
      refine OwnR.of (fun _ hr => XS.iconst X65.here hx rfl (hb hby at_165) hr) ?_
      show OwnR _ _ _ _ _ _ _ (T65.setTop (mkF m 166 #[.val (.int p1), .val (.int p2), .val (.int p3), .val (.int p4), .val (.int p5), .val (.int p6), .val (.int i1), .val (.int i2), .val (.int (2 : Int32)), .val (.int (2 : Int32)), .val (.ref b59), .val (.long (i2.toInt64)), .second, .val (.long (2147483648 : Int64)), .second, .val (.long len), .second, .unset, .unset, .unset, .unset] [(.int (1 : Int32)), (.int p6)]))
      refine OwnR.of (fun _ hr => XS.iand X65.here hx rfl (hb hby at_166) rfl hr) ?_
      show OwnR _ _ _ _ _ _ _ (T65.setTop (mkF m 167 #[.val (.int p1), .val (.int p2), .val (.int p3), .val (.int p4), .val (.int p5), .val (.int p6), .val (.int i1), .val (.int i2), .val (.int (2 : Int32)), .val (.int (2 : Int32)), .val (.ref b59), .val (.long (i2.toInt64)), .second, .val (.long (2147483648 : Int64)), .second, .val (.long len), .second, .unset, .unset, .unset, .unset] [(.int (p6 &&& (1 : Int32)))]))
      by_cases hc167_66 : (p6 &&& (1 : Int32)) = (0 : Int32)
      · skip
        refine OwnR.of (fun _ hr => XS.ifYes X65.here hx rfl (pc0 := 167) (pc' := 174) rfl (hb hby at_167) rfl ((if0 _ _).trans (teq hc167_66).1) (by decide) (by decide) hr) ?_
        show OwnR _ _ _ _ _ _ _ (T65.setTop (mkF m 174 #[.val (.int p1), .val (.int p2), .val (.int p3), .val (.int p4), .val (.int p5), .val (.int p6), .val (.int i1), .val (.int i2), .val (.int (2 : Int32)), .val (.int (2 : Int32)), .val (.ref b59), .val (.long (i2.toInt64)), .second, .val (.long (2147483648 : Int64)), .second, .val (.long len), .second, .unset, .unset, .unset, .unset] []))
        refine OwnR.of (fun _ hr => XS.iload X65.here hx rfl (hb hby at_174) rfl hr) ?_
        show OwnR _ _ _ _ _ _ _ (T65.setTop (mkF m 176 #[.val (.int p1), .val (.int p2), .val (.int p3), .val (.int p4), .val (.int p5), .val (.int p6), .val (.int i1), .val (.int i2), .val (.int (2 : Int32)), .val (.int (2 : Int32)), .val (.ref b59), .val (.long (i2.toInt64)), .second, .val (.long (2147483648 : Int64)), .second, .val (.long len), .second, .unset, .unset, .unset, .unset] [(.int p5)]))
        refine OwnR.of (X65.ldcInt hx hown (mvT hZ (hw _ (List.mem_of_getElem? (i := 2) rfl))) (g := (mkF m 176 #[.val (.int p1), .val (.int p2), .val (.int p3), .val (.int p4), .val (.int p5), .val (.int p6), .val (.int i1), .val (.int i2), .val (.int (2 : Int32)), .val (.int (2 : Int32)), .val (.ref b59), .val (.long (i2.toInt64)), .second, .val (.long (2147483648 : Int64)), .second, .val (.long len), .second, .unset, .unset, .unset, .unset] [(.int p5)])) rfl (hb hby at_176)) ?_
        show OwnR _ _ _ _ _ _ _ (T65.setTop (mkF m 178 #[.val (.int p1), .val (.int p2), .val (.int p3), .val (.int p4), .val (.int p5), .val (.int p6), .val (.int i1), .val (.int i2), .val (.int (2 : Int32)), .val (.int (2 : Int32)), .val (.ref b59), .val (.long (i2.toInt64)), .second, .val (.long (2147483648 : Int64)), .second, .val (.long len), .second, .unset, .unset, .unset, .unset] [(.int (2147483647 : Int32)), (.int p5)]))
        refine OwnR.of (fun _ hr => XS.iand X65.here hx rfl (hb hby at_178) rfl hr) ?_
        show OwnR _ _ _ _ _ _ _ (T65.setTop (mkF m 179 #[.val (.int p1), .val (.int p2), .val (.int p3), .val (.int p4), .val (.int p5), .val (.int p6), .val (.int i1), .val (.int i2), .val (.int (2 : Int32)), .val (.int (2 : Int32)), .val (.ref b59), .val (.long (i2.toInt64)), .second, .val (.long (2147483648 : Int64)), .second, .val (.long len), .second, .unset, .unset, .unset, .unset] [(.int (p5 &&& (2147483647 : Int32)))]))
        refine OwnR.of (fun _ hr => XS.i2l X65.here hx rfl (hb hby at_179) rfl hr) ?_
        show OwnR _ _ _ _ _ _ _ (T65.setTop (mkF m 180 #[.val (.int p1), .val (.int p2), .val (.int p3), .val (.int p4), .val (.int p5), .val (.int p6), .val (.int i1), .val (.int i2), .val (.int (2 : Int32)), .val (.int (2 : Int32)), .val (.ref b59), .val (.long (i2.toInt64)), .second, .val (.long (2147483648 : Int64)), .second, .val (.long len), .second, .unset, .unset, .unset, .unset] [(.long ((p5 &&& (2147483647 : Int32)).toInt64))]))
        refine OwnR.of (fun _ hr => XS.lload X65.here hx rfl (hb hby at_180) rfl hr) ?_
        show OwnR _ _ _ _ _ _ _ (T65.setTop (mkF m 182 #[.val (.int p1), .val (.int p2), .val (.int p3), .val (.int p4), .val (.int p5), .val (.int p6), .val (.int i1), .val (.int i2), .val (.int (2 : Int32)), .val (.int (2 : Int32)), .val (.ref b59), .val (.long (i2.toInt64)), .second, .val (.long (2147483648 : Int64)), .second, .val (.long len), .second, .unset, .unset, .unset, .unset] [(.long len), (.long ((p5 &&& (2147483647 : Int32)).toInt64))]))
        refine OwnR.of (fun _ hr => XS.lrem X65.here hx rfl (hb hby at_182) rfl hnz182 hr) ?_
        show OwnR _ _ _ _ _ _ _ (T65.setTop (mkF m 183 #[.val (.int p1), .val (.int p2), .val (.int p3), .val (.int p4), .val (.int p5), .val (.int p6), .val (.int i1), .val (.int i2), .val (.int (2 : Int32)), .val (.int (2 : Int32)), .val (.ref b59), .val (.long (i2.toInt64)), .second, .val (.long (2147483648 : Int64)), .second, .val (.long len), .second, .unset, .unset, .unset, .unset] [(.long (((p5 &&& (2147483647 : Int32)).toInt64) - (((p5 &&& (2147483647 : Int32)).toInt64) / len) * len))]))
        refine OwnR.of (fun _ hr => XS.lstore X65.here hx rfl (hb hby at_183) rfl (l' := #[.val (.int p1), .val (.int p2), .val (.int p3), .val (.int p4), .val (.int p5), .val (.int p6), .val (.int i1), .val (.int i2), .val (.int (2 : Int32)), .val (.int (2 : Int32)), .val (.ref b59), .val (.long (i2.toInt64)), .second, .val (.long (2147483648 : Int64)), .second, .val (.long len), .second, .val (.long (((p5 &&& (2147483647 : Int32)).toInt64) - (((p5 &&& (2147483647 : Int32)).toInt64) / len) * len)), .second, .unset, .unset]) rfl hr) ?_
        show OwnR _ _ _ _ _ _ _ (T65.setTop (mkF m 185 #[.val (.int p1), .val (.int p2), .val (.int p3), .val (.int p4), .val (.int p5), .val (.int p6), .val (.int i1), .val (.int i2), .val (.int (2 : Int32)), .val (.int (2 : Int32)), .val (.ref b59), .val (.long (i2.toInt64)), .second, .val (.long (2147483648 : Int64)), .second, .val (.long len), .second, .val (.long (((p5 &&& (2147483647 : Int32)).toInt64) - (((p5 &&& (2147483647 : Int32)).toInt64) / len) * len)), .second, .unset, .unset] []))
        obtain ⟨off, hoff⟩ : ∃ z : Int64, z = (((p5 &&& (2147483647 : Int32)).toInt64) - (((p5 &&& (2147483647 : Int32)).toInt64) / len) * len) := ⟨_, rfl⟩
        rw [← hoff]
        show OwnR _ _ _ _ _ _ _ (T65.setTop (mkF m 185 #[.val (.int p1), .val (.int p2), .val (.int p3), .val (.int p4), .val (.int p5), .val (.int p6), .val (.int i1), .val (.int i2), .val (.int (2 : Int32)), .val (.int (2 : Int32)), .val (.ref b59), .val (.long (i2.toInt64)), .second, .val (.long (2147483648 : Int64)), .second, .val (.long len), .second, .val (.long off), .second, .unset, .unset] []))
        have ho := own_off p5 len off hl0.1 hoff
        refine OwnR.of (fun _ hr => XS.lload X65.here hx rfl (hb hby at_185) rfl hr) ?_
        show OwnR _ _ _ _ _ _ _ (T65.setTop (mkF m 187 #[.val (.int p1), .val (.int p2), .val (.int p3), .val (.int p4), .val (.int p5), .val (.int p6), .val (.int i1), .val (.int i2), .val (.int (2 : Int32)), .val (.int (2 : Int32)), .val (.ref b59), .val (.long (i2.toInt64)), .second, .val (.long (2147483648 : Int64)), .second, .val (.long len), .second, .val (.long off), .second, .unset, .unset] [(.long (i2.toInt64))]))
        refine OwnR.of (fun _ hr => XS.lload X65.here hx rfl (hb hby at_187) rfl hr) ?_
        show OwnR _ _ _ _ _ _ _ (T65.setTop (mkF m 189 #[.val (.int p1), .val (.int p2), .val (.int p3), .val (.int p4), .val (.int p5), .val (.int p6), .val (.int i1), .val (.int i2), .val (.int (2 : Int32)), .val (.int (2 : Int32)), .val (.ref b59), .val (.long (i2.toInt64)), .second, .val (.long (2147483648 : Int64)), .second, .val (.long len), .second, .val (.long off), .second, .unset, .unset] [(.long off), (.long (i2.toInt64))]))
        refine OwnR.of (fun _ hr => XS.ladd X65.here hx rfl (hb hby at_189) rfl hr) ?_
        show OwnR _ _ _ _ _ _ _ (T65.setTop (mkF m 190 #[.val (.int p1), .val (.int p2), .val (.int p3), .val (.int p4), .val (.int p5), .val (.int p6), .val (.int i1), .val (.int i2), .val (.int (2 : Int32)), .val (.int (2 : Int32)), .val (.ref b59), .val (.long (i2.toInt64)), .second, .val (.long (2147483648 : Int64)), .second, .val (.long len), .second, .val (.long off), .second, .unset, .unset] [(.long ((i2.toInt64) + off))]))
        refine OwnR.of (fun _ hr => XS.l2i X65.here hx rfl (hb hby at_190) rfl hr) ?_
        show OwnR _ _ _ _ _ _ _ (T65.setTop (mkF m 191 #[.val (.int p1), .val (.int p2), .val (.int p3), .val (.int p4), .val (.int p5), .val (.int p6), .val (.int i1), .val (.int i2), .val (.int (2 : Int32)), .val (.int (2 : Int32)), .val (.ref b59), .val (.long (i2.toInt64)), .second, .val (.long (2147483648 : Int64)), .second, .val (.long len), .second, .val (.long off), .second, .unset, .unset] [(.int (((i2.toInt64) + off).toInt32))]))
        refine OwnR.of (fun _ hr => XS.istore X65.here hx rfl (hb hby at_191) rfl (l' := #[.val (.int p1), .val (.int p2), .val (.int p3), .val (.int p4), .val (.int p5), .val (.int p6), .val (.int i1), .val (.int i2), .val (.int (2 : Int32)), .val (.int (2 : Int32)), .val (.ref b59), .val (.long (i2.toInt64)), .second, .val (.long (2147483648 : Int64)), .second, .val (.long len), .second, .val (.long off), .second, .val (.int (((i2.toInt64) + off).toInt32)), .unset]) rfl hr) ?_
        show OwnR _ _ _ _ _ _ _ (T65.setTop (mkF m 193 #[.val (.int p1), .val (.int p2), .val (.int p3), .val (.int p4), .val (.int p5), .val (.int p6), .val (.int i1), .val (.int i2), .val (.int (2 : Int32)), .val (.int (2 : Int32)), .val (.ref b59), .val (.long (i2.toInt64)), .second, .val (.long (2147483648 : Int64)), .second, .val (.long len), .second, .val (.long off), .second, .val (.int (((i2.toInt64) + off).toInt32)), .unset] []))
        refine OwnR.of (fun _ hr => XS.iload X65.here hx rfl (hb hby at_193) rfl hr) ?_
        show OwnR _ _ _ _ _ _ _ (T65.setTop (mkF m 195 #[.val (.int p1), .val (.int p2), .val (.int p3), .val (.int p4), .val (.int p5), .val (.int p6), .val (.int i1), .val (.int i2), .val (.int (2 : Int32)), .val (.int (2 : Int32)), .val (.ref b59), .val (.long (i2.toInt64)), .second, .val (.long (2147483648 : Int64)), .second, .val (.long len), .second, .val (.long off), .second, .val (.int (((i2.toInt64) + off).toInt32)), .unset] [(.int (2 : Int32))]))
        refine OwnR.of (fun _ hr => XS.ifNo X65.here hx rfl (hb hby at_195) rfl ((if0 _ _).trans (tlt (by decide : (0 : Int32) < (2 : Int32))).2.2.2) hr) ?_
        show OwnR _ _ _ _ _ _ _ (T65.setTop (mkF m 198 #[.val (.int p1), .val (.int p2), .val (.int p3), .val (.int p4), .val (.int p5), .val (.int p6), .val (.int i1), .val (.int i2), .val (.int (2 : Int32)), .val (.int (2 : Int32)), .val (.ref b59), .val (.long (i2.toInt64)), .second, .val (.long (2147483648 : Int64)), .second, .val (.long len), .second, .val (.long off), .second, .val (.int (((i2.toInt64) + off).toInt32)), .unset] []))
        refine OwnR.of (fun _ hr => XS.lload X65.here hx rfl (hb hby at_198) rfl hr) ?_
        show OwnR _ _ _ _ _ _ _ (T65.setTop (mkF m 200 #[.val (.int p1), .val (.int p2), .val (.int p3), .val (.int p4), .val (.int p5), .val (.int p6), .val (.int i1), .val (.int i2), .val (.int (2 : Int32)), .val (.int (2 : Int32)), .val (.ref b59), .val (.long (i2.toInt64)), .second, .val (.long (2147483648 : Int64)), .second, .val (.long len), .second, .val (.long off), .second, .val (.int (((i2.toInt64) + off).toInt32)), .unset] [(.long off)]))
        refine OwnR.of (fun _ hr => XS.lconst X65.here hx rfl (hb hby at_200) hr) ?_
        show OwnR _ _ _ _ _ _ _ (T65.setTop (mkF m 201 #[.val (.int p1), .val (.int p2), .val (.int p3), .val (.int p4), .val (.int p5), .val (.int p6), .val (.int i1), .val (.int i2), .val (.int (2 : Int32)), .val (.int (2 : Int32)), .val (.ref b59), .val (.long (i2.toInt64)), .second, .val (.long (2147483648 : Int64)), .second, .val (.long len), .second, .val (.long off), .second, .val (.int (((i2.toInt64) + off).toInt32)), .unset] [(.long (0 : Int64)), (.long off)]))
        refine OwnR.of (fun _ hr => XS.lcmp X65.here hx rfl (hb hby at_201) rfl hr) ?_
        show OwnR _ _ _ _ _ _ _ (T65.setTop (mkF m 202 #[.val (.int p1), .val (.int p2), .val (.int p3), .val (.int p4), .val (.int p5), .val (.int p6), .val (.int i1), .val (.int i2), .val (.int (2 : Int32)), .val (.int (2 : Int32)), .val (.ref b59), .val (.long (i2.toInt64)), .second, .val (.long (2147483648 : Int64)), .second, .val (.long len), .second, .val (.long off), .second, .val (.int (((i2.toInt64) + off).toInt32)), .unset] [(.int (lcmpW off (0 : Int64)))]))
        obtain ⟨v67, hv67⟩ : ∃ z : Int32, z = (if off = (0 : Int64) then (1 : Int32) else (0 : Int32)) := ⟨_, rfl⟩
        suffices J210_68 : OwnR p e below s (Q0 Z  h0 n0) 24 128 (T65.setTop (mkF m 210 #[.val (.int p1), .val (.int p2), .val (.int p3), .val (.int p4), .val (.int p5), .val (.int p6), .val (.int i1), .val (.int i2), .val (.int (2 : Int32)), .val (.int (2 : Int32)), .val (.ref b59), .val (.long (i2.toInt64)), .second, .val (.long (2147483648 : Int64)), .second, .val (.long len), .second, .val (.long off), .second, .val (.int (((i2.toInt64) + off).toInt32)), .unset] [(.int v67)])) by
          by_cases hc202_69 : off = (0 : Int64)
          · skip
            refine OwnR.of (fun _ hr => XS.ifNo X65.here hx rfl (hb hby at_202) rfl ((if0 _ _).trans (teq ((own_lceq _ _).mpr hc202_69)).2) hr) ?_
            show OwnR _ _ _ _ _ _ _ (T65.setTop (mkF m 205 #[.val (.int p1), .val (.int p2), .val (.int p3), .val (.int p4), .val (.int p5), .val (.int p6), .val (.int i1), .val (.int i2), .val (.int (2 : Int32)), .val (.int (2 : Int32)), .val (.ref b59), .val (.long (i2.toInt64)), .second, .val (.long (2147483648 : Int64)), .second, .val (.long len), .second, .val (.long off), .second, .val (.int (((i2.toInt64) + off).toInt32)), .unset] []))
            refine OwnR.of (fun _ hr => XS.iconst X65.here hx rfl (hb hby at_205) hr) ?_
            show OwnR _ _ _ _ _ _ _ (T65.setTop (mkF m 206 #[.val (.int p1), .val (.int p2), .val (.int p3), .val (.int p4), .val (.int p5), .val (.int p6), .val (.int i1), .val (.int i2), .val (.int (2 : Int32)), .val (.int (2 : Int32)), .val (.ref b59), .val (.long (i2.toInt64)), .second, .val (.long (2147483648 : Int64)), .second, .val (.long len), .second, .val (.long off), .second, .val (.int (((i2.toInt64) + off).toInt32)), .unset] [(.int (1 : Int32))]))
            refine OwnR.of (fun _ hr => XS.goto X65.here hx rfl (pc0 := 206) (pc' := 210) rfl (hb hby at_206) (by decide) (by decide) hr) ?_
            show OwnR _ _ _ _ _ _ _ (T65.setTop (mkF m 210 #[.val (.int p1), .val (.int p2), .val (.int p3), .val (.int p4), .val (.int p5), .val (.int p6), .val (.int i1), .val (.int i2), .val (.int (2 : Int32)), .val (.int (2 : Int32)), .val (.ref b59), .val (.long (i2.toInt64)), .second, .val (.long (2147483648 : Int64)), .second, .val (.long len), .second, .val (.long off), .second, .val (.int (((i2.toInt64) + off).toInt32)), .unset] [(.int (1 : Int32))]))
            simp only [if_pos hc202_69] at hv67
            subst hv67
            exact J210_68
          · skip
            refine OwnR.of (fun _ hr => XS.ifYes X65.here hx rfl (pc0 := 202) (pc' := 209) rfl (hb hby at_202) rfl ((if0 _ _).trans (feq ((not_congr (own_lceq _ _)).mpr hc202_69)).2) (by decide) (by decide) hr) ?_
            show OwnR _ _ _ _ _ _ _ (T65.setTop (mkF m 209 #[.val (.int p1), .val (.int p2), .val (.int p3), .val (.int p4), .val (.int p5), .val (.int p6), .val (.int i1), .val (.int i2), .val (.int (2 : Int32)), .val (.int (2 : Int32)), .val (.ref b59), .val (.long (i2.toInt64)), .second, .val (.long (2147483648 : Int64)), .second, .val (.long len), .second, .val (.long off), .second, .val (.int (((i2.toInt64) + off).toInt32)), .unset] []))
            refine OwnR.of (fun _ hr => XS.iconst X65.here hx rfl (hb hby at_209) hr) ?_
            show OwnR _ _ _ _ _ _ _ (T65.setTop (mkF m 210 #[.val (.int p1), .val (.int p2), .val (.int p3), .val (.int p4), .val (.int p5), .val (.int p6), .val (.int i1), .val (.int i2), .val (.int (2 : Int32)), .val (.int (2 : Int32)), .val (.ref b59), .val (.long (i2.toInt64)), .second, .val (.long (2147483648 : Int64)), .second, .val (.long len), .second, .val (.long off), .second, .val (.int (((i2.toInt64) + off).toInt32)), .unset] [(.int (0 : Int32))]))
            simp only [if_neg hc202_69] at hv67
            subst hv67
            exact J210_68
        refine OwnR.of (fun _ hr => XS.istore X65.here hx rfl (hb hby at_210) rfl (l' := #[.val (.int p1), .val (.int p2), .val (.int p3), .val (.int p4), .val (.int p5), .val (.int p6), .val (.int i1), .val (.int i2), .val (.int (2 : Int32)), .val (.int (2 : Int32)), .val (.ref b59), .val (.long (i2.toInt64)), .second, .val (.long (2147483648 : Int64)), .second, .val (.long len), .second, .val (.long off), .second, .val (.int (((i2.toInt64) + off).toInt32)), .val (.int v67)]) rfl hr) ?_
        show OwnR _ _ _ _ _ _ _ (T65.setTop (mkF m 212 #[.val (.int p1), .val (.int p2), .val (.int p3), .val (.int p4), .val (.int p5), .val (.int p6), .val (.int i1), .val (.int i2), .val (.int (2 : Int32)), .val (.int (2 : Int32)), .val (.ref b59), .val (.long (i2.toInt64)), .second, .val (.long (2147483648 : Int64)), .second, .val (.long len), .second, .val (.long off), .second, .val (.int (((i2.toInt64) + off).toInt32)), .val (.int v67)] []))
        refine OwnR.of (fun _ hr => XS.aload X65.here hx rfl (hb hby at_212) rfl rfl hr) ?_
        show OwnR _ _ _ _ _ _ _ (T65.setTop (mkF m 214 #[.val (.int p1), .val (.int p2), .val (.int p3), .val (.int p4), .val (.int p5), .val (.int p6), .val (.int i1), .val (.int i2), .val (.int (2 : Int32)), .val (.int (2 : Int32)), .val (.ref b59), .val (.long (i2.toInt64)), .second, .val (.long (2147483648 : Int64)), .second, .val (.long len), .second, .val (.long off), .second, .val (.int (((i2.toInt64) + off).toInt32)), .val (.int v67)] [(.ref b59)]))
        refine OwnR.of (fun _ hr => XS.iload X65.here hx rfl (hb hby at_214) rfl hr) ?_
        show OwnR _ _ _ _ _ _ _ (T65.setTop (mkF m 216 #[.val (.int p1), .val (.int p2), .val (.int p3), .val (.int p4), .val (.int p5), .val (.int p6), .val (.int i1), .val (.int i2), .val (.int (2 : Int32)), .val (.int (2 : Int32)), .val (.ref b59), .val (.long (i2.toInt64)), .second, .val (.long (2147483648 : Int64)), .second, .val (.long len), .second, .val (.long off), .second, .val (.int (((i2.toInt64) + off).toInt32)), .val (.int v67)] [(.int (2 : Int32)), (.ref b59)]))
        refine OwnR.of (fun _ hr => XS.iload X65.here hx rfl (hb hby at_216) rfl hr) ?_
        show OwnR _ _ _ _ _ _ _ (T65.setTop (mkF m 218 #[.val (.int p1), .val (.int p2), .val (.int p3), .val (.int p4), .val (.int p5), .val (.int p6), .val (.int i1), .val (.int i2), .val (.int (2 : Int32)), .val (.int (2 : Int32)), .val (.ref b59), .val (.long (i2.toInt64)), .second, .val (.long (2147483648 : Int64)), .second, .val (.long len), .second, .val (.long off), .second, .val (.int (((i2.toInt64) + off).toInt32)), .val (.int v67)] [(.int (((i2.toInt64) + off).toInt32)), (.int (2 : Int32)), (.ref b59)]))
        obtain ⟨cq70, kq70, q70a, q70b, q70c⟩ := isOf hZ rfl P65_1
        obtain ⟨_, _, ⟨T70, L70, kc70, ns70⟩, -, X70, ⟨Lc70, hQ70, l70, y70, z70⟩, st70⟩ := X65.virtualBack hx (y := (⟨"com/example/tercet/tercet/core/Pages", "startsPage", "(II)Z"⟩ : MethodName)) (z := (⟨"com/example/tercet/tercet/core/Pages", "startsPage", "(II)Z"⟩ : MethodName)) hown (mvT hZ (hw _ (List.mem_of_getElem? (i := 66) rfl))) (mvT hZ (hw _ (List.mem_of_getElem? (i := 67) rfl))) (notFace_of_selects (args := #[]) (mvT hZ (hw _ (List.mem_of_getElem? (i := 69) rfl)))) (mvT hZ (hw _ (List.mem_of_getElem? (i := 69) rfl))) (mvT hZ (hw _ (List.mem_of_getElem? (i := 68) rfl))) (by decide) (backOf (W := 0) (rmS_2_4 l Z a0 hw [] b59 (((i2.toInt64) + off).toInt32) c_65 kc_65 (0 : Int32) i1 i2 (0 : Int32) (T65.heap) n0 (Nat.le_trans Z0 K65.1) P65_1 P65_6 P65_11) hZ (hw _ (List.mem_of_getElem? (i := 70) rfl)) (hw _ (List.mem_of_getElem? (i := 5) rfl)) (by decide) (by decide)) q70a q70c (g := (mkF m 218 #[.val (.int p1), .val (.int p2), .val (.int p3), .val (.int p4), .val (.int p5), .val (.int p6), .val (.int i1), .val (.int i2), .val (.int (2 : Int32)), .val (.int (2 : Int32)), .val (.ref b59), .val (.long (i2.toInt64)), .second, .val (.long (2147483648 : Int64)), .second, .val (.long len), .second, .val (.long off), .second, .val (.int (((i2.toInt64) + off).toInt32)), .val (.int v67)] [(.int (((i2.toInt64) + off).toInt32)), (.int (2 : Int32)), (.ref b59)])) rfl (by rw [hml]; rfl) (Steps.refl _) (argsL := [(.int (2 : Int32)), (.int (((i2.toInt64) + off).toInt32))]) (rest := []) (lenOf pd__II_Z rfl) rfl (by show 2 * 0 + _ ≤ _; exact Nat.le_of_eq rfl) (hb hby at_218) (fun _ _ => ⟨rfl, rfl, (by decide : 7 + 0 ≤ _), (by decide : 21 + 0 ≤ _)⟩)
        dsimp only [Pt.U, Pt.locs, Pt.cells, Pt.slots] at X70 l70 y70 z70 st70 hQ70
        subst l70 y70 z70
        obtain ⟨rfl, N70q, e70⟩ := hQ70
        have N70 := Fr.app N65 N70q
        refine OwnR.of (fun _ hr => st70.trans hr) ?_
        show OwnR _ _ _ _ _ _ _ (T70.setTop (mkF m 221 #[.val (.int p1), .val (.int p2), .val (.int p3), .val (.int p4), .val (.int p5), .val (.int p6), .val (.int i1), .val (.int i2), .val (.int (2 : Int32)), .val (.int (2 : Int32)), .val (.ref b59), .val (.long (i2.toInt64)), .second, .val (.long (2147483648 : Int64)), .second, .val (.long len), .second, .val (.long off), .second, .val (.int (((i2.toInt64) + off).toInt32)), .val (.int v67)] [(.int (own_sp i2 (((i2.toInt64) + off).toInt32)))]))
        refine OwnR.of (fun _ hr => XS.iload X70.here hx rfl (hb hby at_221) rfl hr) ?_
        show OwnR _ _ _ _ _ _ _ (T70.setTop (mkF m 223 #[.val (.int p1), .val (.int p2), .val (.int p3), .val (.int p4), .val (.int p5), .val (.int p6), .val (.int i1), .val (.int i2), .val (.int (2 : Int32)), .val (.int (2 : Int32)), .val (.ref b59), .val (.long (i2.toInt64)), .second, .val (.long (2147483648 : Int64)), .second, .val (.long len), .second, .val (.long off), .second, .val (.int (((i2.toInt64) + off).toInt32)), .val (.int v67)] [(.int v67), (.int (own_sp i2 (((i2.toInt64) + off).toInt32)))]))
        have hc223_71 : (own_sp i2 (((i2.toInt64) + off).toInt32)) = v67 := by
          refine Classical.byContradiction fun hbad => ?_
          rw [hv67] at hbad
          exact hbad (own_fin1 i2 off len b2g ho hl0)
        refine OwnR.of (fun _ hr => XS.icmpNo X70.here hx rfl (hb hby at_223) rfl (teq hc223_71).2 hr) ?_
        show OwnR _ _ _ _ _ _ _ (T70.setTop (mkF m 226 #[.val (.int p1), .val (.int p2), .val (.int p3), .val (.int p4), .val (.int p5), .val (.int p6), .val (.int i1), .val (.int i2), .val (.int (2 : Int32)), .val (.int (2 : Int32)), .val (.ref b59), .val (.long (i2.toInt64)), .second, .val (.long (2147483648 : Int64)), .second, .val (.long len), .second, .val (.long off), .second, .val (.int (((i2.toInt64) + off).toInt32)), .val (.int v67)] []))
        refine OwnR.of (fun _ hr => XS.iconst X70.here hx rfl (hb hby at_226) hr) ?_
        show OwnR _ _ _ _ _ _ _ (T70.setTop (mkF m 227 #[.val (.int p1), .val (.int p2), .val (.int p3), .val (.int p4), .val (.int p5), .val (.int p6), .val (.int i1), .val (.int i2), .val (.int (2 : Int32)), .val (.int (2 : Int32)), .val (.ref b59), .val (.long (i2.toInt64)), .second, .val (.long (2147483648 : Int64)), .second, .val (.long len), .second, .val (.long off), .second, .val (.int (((i2.toInt64) + off).toInt32)), .val (.int v67)] [(.int (1 : Int32))]))
        refine OwnR.of (fun _ hr => XS.goto X70.here hx rfl (pc0 := 227) (pc' := 231) rfl (hb hby at_227) (by decide) (by decide) hr) ?_
        show OwnR _ _ _ _ _ _ _ (T70.setTop (mkF m 231 #[.val (.int p1), .val (.int p2), .val (.int p3), .val (.int p4), .val (.int p5), .val (.int p6), .val (.int i1), .val (.int i2), .val (.int (2 : Int32)), .val (.int (2 : Int32)), .val (.ref b59), .val (.long (i2.toInt64)), .second, .val (.long (2147483648 : Int64)), .second, .val (.long len), .second, .val (.long off), .second, .val (.int (((i2.toInt64) + off).toInt32)), .val (.int v67)] [(.int (1 : Int32))]))
        refine own_leafN X70 hx hlk (t := .boolean) Bd.returns (by simp) (hb hby at_231) (z' := (1 : Int32)) rfl (by decide) (by decide) ?_
        show Q0 Z  h0 n0 _ T70.heap _
        rw [show T70.heap = T65.heap from e70]
        refine ⟨?_, N70⟩
        show (some (.int (1 : Int32)) : Option Value) = some (.int (1 : Int32))
        rfl
      · skip
        refine OwnR.of (fun _ hr => XS.ifNo X65.here hx rfl (hb hby at_167) rfl ((if0 _ _).trans (feq hc167_66).1) hr) ?_
        show OwnR _ _ _ _ _ _ _ (T65.setTop (mkF m 170 #[.val (.int p1), .val (.int p2), .val (.int p3), .val (.int p4), .val (.int p5), .val (.int p6), .val (.int i1), .val (.int i2), .val (.int (2 : Int32)), .val (.int (2 : Int32)), .val (.ref b59), .val (.long (i2.toInt64)), .second, .val (.long (2147483648 : Int64)), .second, .val (.long len), .second, .unset, .unset, .unset, .unset] []))
        refine OwnR.of (fun _ hr => XS.lconst X65.here hx rfl (hb hby at_170) hr) ?_
        show OwnR _ _ _ _ _ _ _ (T65.setTop (mkF m 171 #[.val (.int p1), .val (.int p2), .val (.int p3), .val (.int p4), .val (.int p5), .val (.int p6), .val (.int i1), .val (.int i2), .val (.int (2 : Int32)), .val (.int (2 : Int32)), .val (.ref b59), .val (.long (i2.toInt64)), .second, .val (.long (2147483648 : Int64)), .second, .val (.long len), .second, .unset, .unset, .unset, .unset] [(.long (0 : Int64))]))
        refine OwnR.of (fun _ hr => XS.goto X65.here hx rfl (pc0 := 171) (pc' := 183) rfl (hb hby at_171) (by decide) (by decide) hr) ?_
        show OwnR _ _ _ _ _ _ _ (T65.setTop (mkF m 183 #[.val (.int p1), .val (.int p2), .val (.int p3), .val (.int p4), .val (.int p5), .val (.int p6), .val (.int i1), .val (.int i2), .val (.int (2 : Int32)), .val (.int (2 : Int32)), .val (.ref b59), .val (.long (i2.toInt64)), .second, .val (.long (2147483648 : Int64)), .second, .val (.long len), .second, .unset, .unset, .unset, .unset] [(.long (0 : Int64))]))
        refine OwnR.of (fun _ hr => XS.lstore X65.here hx rfl (hb hby at_183) rfl (l' := #[.val (.int p1), .val (.int p2), .val (.int p3), .val (.int p4), .val (.int p5), .val (.int p6), .val (.int i1), .val (.int i2), .val (.int (2 : Int32)), .val (.int (2 : Int32)), .val (.ref b59), .val (.long (i2.toInt64)), .second, .val (.long (2147483648 : Int64)), .second, .val (.long len), .second, .val (.long (0 : Int64)), .second, .unset, .unset]) rfl hr) ?_
        show OwnR _ _ _ _ _ _ _ (T65.setTop (mkF m 185 #[.val (.int p1), .val (.int p2), .val (.int p3), .val (.int p4), .val (.int p5), .val (.int p6), .val (.int i1), .val (.int i2), .val (.int (2 : Int32)), .val (.int (2 : Int32)), .val (.ref b59), .val (.long (i2.toInt64)), .second, .val (.long (2147483648 : Int64)), .second, .val (.long len), .second, .val (.long (0 : Int64)), .second, .unset, .unset] []))
        refine OwnR.of (fun _ hr => XS.lload X65.here hx rfl (hb hby at_185) rfl hr) ?_
        show OwnR _ _ _ _ _ _ _ (T65.setTop (mkF m 187 #[.val (.int p1), .val (.int p2), .val (.int p3), .val (.int p4), .val (.int p5), .val (.int p6), .val (.int i1), .val (.int i2), .val (.int (2 : Int32)), .val (.int (2 : Int32)), .val (.ref b59), .val (.long (i2.toInt64)), .second, .val (.long (2147483648 : Int64)), .second, .val (.long len), .second, .val (.long (0 : Int64)), .second, .unset, .unset] [(.long (i2.toInt64))]))
        refine OwnR.of (fun _ hr => XS.lload X65.here hx rfl (hb hby at_187) rfl hr) ?_
        show OwnR _ _ _ _ _ _ _ (T65.setTop (mkF m 189 #[.val (.int p1), .val (.int p2), .val (.int p3), .val (.int p4), .val (.int p5), .val (.int p6), .val (.int i1), .val (.int i2), .val (.int (2 : Int32)), .val (.int (2 : Int32)), .val (.ref b59), .val (.long (i2.toInt64)), .second, .val (.long (2147483648 : Int64)), .second, .val (.long len), .second, .val (.long (0 : Int64)), .second, .unset, .unset] [(.long (0 : Int64)), (.long (i2.toInt64))]))
        refine OwnR.of (fun _ hr => XS.ladd X65.here hx rfl (hb hby at_189) rfl hr) ?_
        show OwnR _ _ _ _ _ _ _ (T65.setTop (mkF m 190 #[.val (.int p1), .val (.int p2), .val (.int p3), .val (.int p4), .val (.int p5), .val (.int p6), .val (.int i1), .val (.int i2), .val (.int (2 : Int32)), .val (.int (2 : Int32)), .val (.ref b59), .val (.long (i2.toInt64)), .second, .val (.long (2147483648 : Int64)), .second, .val (.long len), .second, .val (.long (0 : Int64)), .second, .unset, .unset] [(.long ((i2.toInt64) + (0 : Int64)))]))
        refine OwnR.of (fun _ hr => XS.l2i X65.here hx rfl (hb hby at_190) rfl hr) ?_
        show OwnR _ _ _ _ _ _ _ (T65.setTop (mkF m 191 #[.val (.int p1), .val (.int p2), .val (.int p3), .val (.int p4), .val (.int p5), .val (.int p6), .val (.int i1), .val (.int i2), .val (.int (2 : Int32)), .val (.int (2 : Int32)), .val (.ref b59), .val (.long (i2.toInt64)), .second, .val (.long (2147483648 : Int64)), .second, .val (.long len), .second, .val (.long (0 : Int64)), .second, .unset, .unset] [(.int (((i2.toInt64) + (0 : Int64)).toInt32))]))
        refine OwnR.of (fun _ hr => XS.istore X65.here hx rfl (hb hby at_191) rfl (l' := #[.val (.int p1), .val (.int p2), .val (.int p3), .val (.int p4), .val (.int p5), .val (.int p6), .val (.int i1), .val (.int i2), .val (.int (2 : Int32)), .val (.int (2 : Int32)), .val (.ref b59), .val (.long (i2.toInt64)), .second, .val (.long (2147483648 : Int64)), .second, .val (.long len), .second, .val (.long (0 : Int64)), .second, .val (.int (((i2.toInt64) + (0 : Int64)).toInt32)), .unset]) rfl hr) ?_
        show OwnR _ _ _ _ _ _ _ (T65.setTop (mkF m 193 #[.val (.int p1), .val (.int p2), .val (.int p3), .val (.int p4), .val (.int p5), .val (.int p6), .val (.int i1), .val (.int i2), .val (.int (2 : Int32)), .val (.int (2 : Int32)), .val (.ref b59), .val (.long (i2.toInt64)), .second, .val (.long (2147483648 : Int64)), .second, .val (.long len), .second, .val (.long (0 : Int64)), .second, .val (.int (((i2.toInt64) + (0 : Int64)).toInt32)), .unset] []))
        refine OwnR.of (fun _ hr => XS.iload X65.here hx rfl (hb hby at_193) rfl hr) ?_
        show OwnR _ _ _ _ _ _ _ (T65.setTop (mkF m 195 #[.val (.int p1), .val (.int p2), .val (.int p3), .val (.int p4), .val (.int p5), .val (.int p6), .val (.int i1), .val (.int i2), .val (.int (2 : Int32)), .val (.int (2 : Int32)), .val (.ref b59), .val (.long (i2.toInt64)), .second, .val (.long (2147483648 : Int64)), .second, .val (.long len), .second, .val (.long (0 : Int64)), .second, .val (.int (((i2.toInt64) + (0 : Int64)).toInt32)), .unset] [(.int (2 : Int32))]))
        refine OwnR.of (fun _ hr => XS.ifNo X65.here hx rfl (hb hby at_195) rfl ((if0 _ _).trans (tlt (by decide : (0 : Int32) < (2 : Int32))).2.2.2) hr) ?_
        show OwnR _ _ _ _ _ _ _ (T65.setTop (mkF m 198 #[.val (.int p1), .val (.int p2), .val (.int p3), .val (.int p4), .val (.int p5), .val (.int p6), .val (.int i1), .val (.int i2), .val (.int (2 : Int32)), .val (.int (2 : Int32)), .val (.ref b59), .val (.long (i2.toInt64)), .second, .val (.long (2147483648 : Int64)), .second, .val (.long len), .second, .val (.long (0 : Int64)), .second, .val (.int (((i2.toInt64) + (0 : Int64)).toInt32)), .unset] []))
        refine OwnR.of (fun _ hr => XS.lload X65.here hx rfl (hb hby at_198) rfl hr) ?_
        show OwnR _ _ _ _ _ _ _ (T65.setTop (mkF m 200 #[.val (.int p1), .val (.int p2), .val (.int p3), .val (.int p4), .val (.int p5), .val (.int p6), .val (.int i1), .val (.int i2), .val (.int (2 : Int32)), .val (.int (2 : Int32)), .val (.ref b59), .val (.long (i2.toInt64)), .second, .val (.long (2147483648 : Int64)), .second, .val (.long len), .second, .val (.long (0 : Int64)), .second, .val (.int (((i2.toInt64) + (0 : Int64)).toInt32)), .unset] [(.long (0 : Int64))]))
        refine OwnR.of (fun _ hr => XS.lconst X65.here hx rfl (hb hby at_200) hr) ?_
        show OwnR _ _ _ _ _ _ _ (T65.setTop (mkF m 201 #[.val (.int p1), .val (.int p2), .val (.int p3), .val (.int p4), .val (.int p5), .val (.int p6), .val (.int i1), .val (.int i2), .val (.int (2 : Int32)), .val (.int (2 : Int32)), .val (.ref b59), .val (.long (i2.toInt64)), .second, .val (.long (2147483648 : Int64)), .second, .val (.long len), .second, .val (.long (0 : Int64)), .second, .val (.int (((i2.toInt64) + (0 : Int64)).toInt32)), .unset] [(.long (0 : Int64)), (.long (0 : Int64))]))
        refine OwnR.of (fun _ hr => XS.lcmp X65.here hx rfl (hb hby at_201) rfl hr) ?_
        show OwnR _ _ _ _ _ _ _ (T65.setTop (mkF m 202 #[.val (.int p1), .val (.int p2), .val (.int p3), .val (.int p4), .val (.int p5), .val (.int p6), .val (.int i1), .val (.int i2), .val (.int (2 : Int32)), .val (.int (2 : Int32)), .val (.ref b59), .val (.long (i2.toInt64)), .second, .val (.long (2147483648 : Int64)), .second, .val (.long len), .second, .val (.long (0 : Int64)), .second, .val (.int (((i2.toInt64) + (0 : Int64)).toInt32)), .unset] [(.int (lcmpW (0 : Int64) (0 : Int64)))]))
        refine OwnR.of (fun _ hr => XS.ifNo X65.here hx rfl (hb hby at_202) rfl ((if0 _ _).trans (teq ((own_lceq _ _).mpr (by decide : (0 : Int64) = (0 : Int64)))).2) hr) ?_
        show OwnR _ _ _ _ _ _ _ (T65.setTop (mkF m 205 #[.val (.int p1), .val (.int p2), .val (.int p3), .val (.int p4), .val (.int p5), .val (.int p6), .val (.int i1), .val (.int i2), .val (.int (2 : Int32)), .val (.int (2 : Int32)), .val (.ref b59), .val (.long (i2.toInt64)), .second, .val (.long (2147483648 : Int64)), .second, .val (.long len), .second, .val (.long (0 : Int64)), .second, .val (.int (((i2.toInt64) + (0 : Int64)).toInt32)), .unset] []))
        refine OwnR.of (fun _ hr => XS.iconst X65.here hx rfl (hb hby at_205) hr) ?_
        show OwnR _ _ _ _ _ _ _ (T65.setTop (mkF m 206 #[.val (.int p1), .val (.int p2), .val (.int p3), .val (.int p4), .val (.int p5), .val (.int p6), .val (.int i1), .val (.int i2), .val (.int (2 : Int32)), .val (.int (2 : Int32)), .val (.ref b59), .val (.long (i2.toInt64)), .second, .val (.long (2147483648 : Int64)), .second, .val (.long len), .second, .val (.long (0 : Int64)), .second, .val (.int (((i2.toInt64) + (0 : Int64)).toInt32)), .unset] [(.int (1 : Int32))]))
        refine OwnR.of (fun _ hr => XS.goto X65.here hx rfl (pc0 := 206) (pc' := 210) rfl (hb hby at_206) (by decide) (by decide) hr) ?_
        show OwnR _ _ _ _ _ _ _ (T65.setTop (mkF m 210 #[.val (.int p1), .val (.int p2), .val (.int p3), .val (.int p4), .val (.int p5), .val (.int p6), .val (.int i1), .val (.int i2), .val (.int (2 : Int32)), .val (.int (2 : Int32)), .val (.ref b59), .val (.long (i2.toInt64)), .second, .val (.long (2147483648 : Int64)), .second, .val (.long len), .second, .val (.long (0 : Int64)), .second, .val (.int (((i2.toInt64) + (0 : Int64)).toInt32)), .unset] [(.int (1 : Int32))]))
        refine OwnR.of (fun _ hr => XS.istore X65.here hx rfl (hb hby at_210) rfl (l' := #[.val (.int p1), .val (.int p2), .val (.int p3), .val (.int p4), .val (.int p5), .val (.int p6), .val (.int i1), .val (.int i2), .val (.int (2 : Int32)), .val (.int (2 : Int32)), .val (.ref b59), .val (.long (i2.toInt64)), .second, .val (.long (2147483648 : Int64)), .second, .val (.long len), .second, .val (.long (0 : Int64)), .second, .val (.int (((i2.toInt64) + (0 : Int64)).toInt32)), .val (.int (1 : Int32))]) rfl hr) ?_
        show OwnR _ _ _ _ _ _ _ (T65.setTop (mkF m 212 #[.val (.int p1), .val (.int p2), .val (.int p3), .val (.int p4), .val (.int p5), .val (.int p6), .val (.int i1), .val (.int i2), .val (.int (2 : Int32)), .val (.int (2 : Int32)), .val (.ref b59), .val (.long (i2.toInt64)), .second, .val (.long (2147483648 : Int64)), .second, .val (.long len), .second, .val (.long (0 : Int64)), .second, .val (.int (((i2.toInt64) + (0 : Int64)).toInt32)), .val (.int (1 : Int32))] []))
        refine OwnR.of (fun _ hr => XS.aload X65.here hx rfl (hb hby at_212) rfl rfl hr) ?_
        show OwnR _ _ _ _ _ _ _ (T65.setTop (mkF m 214 #[.val (.int p1), .val (.int p2), .val (.int p3), .val (.int p4), .val (.int p5), .val (.int p6), .val (.int i1), .val (.int i2), .val (.int (2 : Int32)), .val (.int (2 : Int32)), .val (.ref b59), .val (.long (i2.toInt64)), .second, .val (.long (2147483648 : Int64)), .second, .val (.long len), .second, .val (.long (0 : Int64)), .second, .val (.int (((i2.toInt64) + (0 : Int64)).toInt32)), .val (.int (1 : Int32))] [(.ref b59)]))
        refine OwnR.of (fun _ hr => XS.iload X65.here hx rfl (hb hby at_214) rfl hr) ?_
        show OwnR _ _ _ _ _ _ _ (T65.setTop (mkF m 216 #[.val (.int p1), .val (.int p2), .val (.int p3), .val (.int p4), .val (.int p5), .val (.int p6), .val (.int i1), .val (.int i2), .val (.int (2 : Int32)), .val (.int (2 : Int32)), .val (.ref b59), .val (.long (i2.toInt64)), .second, .val (.long (2147483648 : Int64)), .second, .val (.long len), .second, .val (.long (0 : Int64)), .second, .val (.int (((i2.toInt64) + (0 : Int64)).toInt32)), .val (.int (1 : Int32))] [(.int (2 : Int32)), (.ref b59)]))
        refine OwnR.of (fun _ hr => XS.iload X65.here hx rfl (hb hby at_216) rfl hr) ?_
        show OwnR _ _ _ _ _ _ _ (T65.setTop (mkF m 218 #[.val (.int p1), .val (.int p2), .val (.int p3), .val (.int p4), .val (.int p5), .val (.int p6), .val (.int i1), .val (.int i2), .val (.int (2 : Int32)), .val (.int (2 : Int32)), .val (.ref b59), .val (.long (i2.toInt64)), .second, .val (.long (2147483648 : Int64)), .second, .val (.long len), .second, .val (.long (0 : Int64)), .second, .val (.int (((i2.toInt64) + (0 : Int64)).toInt32)), .val (.int (1 : Int32))] [(.int (((i2.toInt64) + (0 : Int64)).toInt32)), (.int (2 : Int32)), (.ref b59)]))
        obtain ⟨cq72, kq72, q72a, q72b, q72c⟩ := isOf hZ rfl P65_1
        obtain ⟨_, _, ⟨T72, L72, kc72, ns72⟩, -, X72, ⟨Lc72, hQ72, l72, y72, z72⟩, st72⟩ := X65.virtualBack hx (y := (⟨"com/example/tercet/tercet/core/Pages", "startsPage", "(II)Z"⟩ : MethodName)) (z := (⟨"com/example/tercet/tercet/core/Pages", "startsPage", "(II)Z"⟩ : MethodName)) hown (mvT hZ (hw _ (List.mem_of_getElem? (i := 66) rfl))) (mvT hZ (hw _ (List.mem_of_getElem? (i := 67) rfl))) (notFace_of_selects (args := #[]) (mvT hZ (hw _ (List.mem_of_getElem? (i := 69) rfl)))) (mvT hZ (hw _ (List.mem_of_getElem? (i := 69) rfl))) (mvT hZ (hw _ (List.mem_of_getElem? (i := 68) rfl))) (by decide) (backOf (W := 0) (rmS_2_4 l Z a0 hw [] b59 (((i2.toInt64) + (0 : Int64)).toInt32) c_65 kc_65 (0 : Int32) i1 i2 (0 : Int32) (T65.heap) n0 (Nat.le_trans Z0 K65.1) P65_1 P65_6 P65_11) hZ (hw _ (List.mem_of_getElem? (i := 70) rfl)) (hw _ (List.mem_of_getElem? (i := 5) rfl)) (by decide) (by decide)) q72a q72c (g := (mkF m 218 #[.val (.int p1), .val (.int p2), .val (.int p3), .val (.int p4), .val (.int p5), .val (.int p6), .val (.int i1), .val (.int i2), .val (.int (2 : Int32)), .val (.int (2 : Int32)), .val (.ref b59), .val (.long (i2.toInt64)), .second, .val (.long (2147483648 : Int64)), .second, .val (.long len), .second, .val (.long (0 : Int64)), .second, .val (.int (((i2.toInt64) + (0 : Int64)).toInt32)), .val (.int (1 : Int32))] [(.int (((i2.toInt64) + (0 : Int64)).toInt32)), (.int (2 : Int32)), (.ref b59)])) rfl (by rw [hml]; rfl) (Steps.refl _) (argsL := [(.int (2 : Int32)), (.int (((i2.toInt64) + (0 : Int64)).toInt32))]) (rest := []) (lenOf pd__II_Z rfl) rfl (by show 2 * 0 + _ ≤ _; exact Nat.le_of_eq rfl) (hb hby at_218) (fun _ _ => ⟨rfl, rfl, (by decide : 7 + 0 ≤ _), (by decide : 21 + 0 ≤ _)⟩)
        dsimp only [Pt.U, Pt.locs, Pt.cells, Pt.slots] at X72 l72 y72 z72 st72 hQ72
        subst l72 y72 z72
        obtain ⟨rfl, N72q, e72⟩ := hQ72
        have N72 := Fr.app N65 N72q
        refine OwnR.of (fun _ hr => st72.trans hr) ?_
        show OwnR _ _ _ _ _ _ _ (T72.setTop (mkF m 221 #[.val (.int p1), .val (.int p2), .val (.int p3), .val (.int p4), .val (.int p5), .val (.int p6), .val (.int i1), .val (.int i2), .val (.int (2 : Int32)), .val (.int (2 : Int32)), .val (.ref b59), .val (.long (i2.toInt64)), .second, .val (.long (2147483648 : Int64)), .second, .val (.long len), .second, .val (.long (0 : Int64)), .second, .val (.int (((i2.toInt64) + (0 : Int64)).toInt32)), .val (.int (1 : Int32))] [(.int (own_sp i2 (((i2.toInt64) + (0 : Int64)).toInt32)))]))
        refine OwnR.of (fun _ hr => XS.iload X72.here hx rfl (hb hby at_221) rfl hr) ?_
        show OwnR _ _ _ _ _ _ _ (T72.setTop (mkF m 223 #[.val (.int p1), .val (.int p2), .val (.int p3), .val (.int p4), .val (.int p5), .val (.int p6), .val (.int i1), .val (.int i2), .val (.int (2 : Int32)), .val (.int (2 : Int32)), .val (.ref b59), .val (.long (i2.toInt64)), .second, .val (.long (2147483648 : Int64)), .second, .val (.long len), .second, .val (.long (0 : Int64)), .second, .val (.int (((i2.toInt64) + (0 : Int64)).toInt32)), .val (.int (1 : Int32))] [(.int (1 : Int32)), (.int (own_sp i2 (((i2.toInt64) + (0 : Int64)).toInt32)))]))
        have hc223_73 : (own_sp i2 (((i2.toInt64) + (0 : Int64)).toInt32)) = (1 : Int32) := by
          refine Classical.byContradiction fun hbad => ?_
          exact hbad (own_fin0 i2 b2g)
        refine OwnR.of (fun _ hr => XS.icmpNo X72.here hx rfl (hb hby at_223) rfl (teq hc223_73).2 hr) ?_
        show OwnR _ _ _ _ _ _ _ (T72.setTop (mkF m 226 #[.val (.int p1), .val (.int p2), .val (.int p3), .val (.int p4), .val (.int p5), .val (.int p6), .val (.int i1), .val (.int i2), .val (.int (2 : Int32)), .val (.int (2 : Int32)), .val (.ref b59), .val (.long (i2.toInt64)), .second, .val (.long (2147483648 : Int64)), .second, .val (.long len), .second, .val (.long (0 : Int64)), .second, .val (.int (((i2.toInt64) + (0 : Int64)).toInt32)), .val (.int (1 : Int32))] []))
        refine OwnR.of (fun _ hr => XS.iconst X72.here hx rfl (hb hby at_226) hr) ?_
        show OwnR _ _ _ _ _ _ _ (T72.setTop (mkF m 227 #[.val (.int p1), .val (.int p2), .val (.int p3), .val (.int p4), .val (.int p5), .val (.int p6), .val (.int i1), .val (.int i2), .val (.int (2 : Int32)), .val (.int (2 : Int32)), .val (.ref b59), .val (.long (i2.toInt64)), .second, .val (.long (2147483648 : Int64)), .second, .val (.long len), .second, .val (.long (0 : Int64)), .second, .val (.int (((i2.toInt64) + (0 : Int64)).toInt32)), .val (.int (1 : Int32))] [(.int (1 : Int32))]))
        refine OwnR.of (fun _ hr => XS.goto X72.here hx rfl (pc0 := 227) (pc' := 231) rfl (hb hby at_227) (by decide) (by decide) hr) ?_
        show OwnR _ _ _ _ _ _ _ (T72.setTop (mkF m 231 #[.val (.int p1), .val (.int p2), .val (.int p3), .val (.int p4), .val (.int p5), .val (.int p6), .val (.int i1), .val (.int i2), .val (.int (2 : Int32)), .val (.int (2 : Int32)), .val (.ref b59), .val (.long (i2.toInt64)), .second, .val (.long (2147483648 : Int64)), .second, .val (.long len), .second, .val (.long (0 : Int64)), .second, .val (.int (((i2.toInt64) + (0 : Int64)).toInt32)), .val (.int (1 : Int32))] [(.int (1 : Int32))]))
        refine own_leafN X72 hx hlk (t := .boolean) Bd.returns (by simp) (hb hby at_231) (z' := (1 : Int32)) rfl (by decide) (by decide) ?_
        show Q0 Z  h0 n0 _ T72.heap _
        rw [show T72.heap = T65.heap from e72]
        refine ⟨?_, N72⟩
        show (some (.int (1 : Int32)) : Option Value) = some (.int (1 : Int32))
        rfl
theorem own_sz {n : Nat} (h : n < 2 ^ 31) (e : n.toInt32 = (256 : Int32)) : n = 256 := by
  have S : n = (256 : Int32).toNatClampNeg := by rw [← e]; simp only [Int32.toNatClampNeg, len_toInt h]; rfl
  exact S
set_option maxRecDepth 65536 in
set_option maxHeartbeats 40000000 in
theorem comes_1 {Post : Tables → Env → Array Value → State → Outcome → State → Prop} (hpost : ∀ tb e args s v u, (limb_1_1.after args s (.returned v) u = true ∧ limb_1_2.after args s (.returned v) u = true ∧ True) → FrameEnd s (.returned v) u (Jvm.fieldLocs frame_1_writes args s ++ Jvm.arrayLocs frame_1_arrays args s ++ Jvm.staticLocs frame_1_statics s) 24 128 → Post tb e args s (.returned v) u) :
    ArmFor flags0 classFile x code maxLocals ret World_1 tables_1 room_1 Calls_1 rest_1 Pre_1 Post := by
  intro l hfl _ _ p e ha hc hk s m args below hf hA hF happ hP
  obtain ⟨hcalls, hrest, hpre⟩ := hP
  obtain ⟨-, -, -, hnamed, -, -, -, hat⟩ := (Spec.applies_iff hf).mp happ
  obtain ⟨hg, hn⟩ := and_e (Cond.before_iff.mp (show (Jvm.Cond.and given_1 narrow_1).before args s = true from hpre))
  obtain ⟨ga1, gb1⟩ := and_e hg
  obtain ⟨ga2, gb2⟩ := and_e gb1
  obtain ⟨ga3, gb3⟩ := and_e gb2
  obtain ⟨ga4, gb4⟩ := and_e gb3
  obtain ⟨ga5, gb5⟩ := and_e gb4
  obtain ⟨ga6, gb6⟩ := and_e gb5
  obtain ⟨w0, w1, w2, w3, w4, w5, rfl⟩ : ∃ w0 w1 w2 w3 w4 w5 : Value, args = #[w0, w1, w2, w3, w4, w5] := by
    have hs : args.size = 6 := by simpa [Cond.value, given_1] using ga1
    obtain ⟨L⟩ := args
    match L, hs with
    | [w0, w1, w2, w3, w4, w5], _ => exact ⟨w0, w1, w2, w3, w4, w5, rfl⟩
  have hw := fun d (hd : d ∈ tables_1) => atoms_spec (ws := Jvm.Cond.code x code maxLocals ret :: tables_1) hat d (List.mem_cons_of_mem _ hd)
  have hfit : Fit s := fun {y c} hc i hi => by
    obtain ⟨ha, rfl⟩ := Array.getElem?_eq_some_iff.mp hc
    have q := List.all_eq_true.mp ((Array.all_eq_true_iff_forall_mem.mp hF) _ (Array.getElem_mem ha)) i (List.mem_range.mpr hi)
    simpa [Array.getElem?_eq_getElem hi] using q
  obtain ⟨hsets, hown0⟩ := atoms_of _ (rest_1_c_eq ▸ (show rest_1_c.before _ s = true from hrest))
  have hr0 := Cond.before_iff.mp hown0
  obtain ⟨i0, ei0⟩ := is_v ga2
  obtain rfl : w0 = (.int i0) := Option.some.inj ei0
  obtain ⟨i1, ei1⟩ := is_v ga3
  obtain rfl : w1 = (.int i1) := Option.some.inj ei1
  obtain ⟨i2, ei2⟩ := is_v ga4
  obtain rfl : w2 = (.int i2) := Option.some.inj ei2
  obtain ⟨i3, ei3⟩ := is_v ga5
  obtain rfl : w3 = (.int i3) := Option.some.inj ei3
  obtain ⟨i4, ei4⟩ := is_v ga6
  obtain rfl : w4 = (.int i4) := Option.some.inj ei4
  obtain ⟨i5, ei5⟩ := is_v gb6
  obtain rfl : w5 = (.int i5) := Option.some.inj ei5
  obtain ⟨⟨cM, kM, mo, m1, m2, m3, -⟩, -⟩ := hcalls
  have Mo : OwnMir s "[Ljava/lang/Object;" mo := ⟨cM, kM, m1, m2, m3⟩
  have S_high := Sta.start (own_eqi (Cond.before_iff.mp (hsets _ (List.mem_of_getElem? (i := 3) rfl)))) (Or.inr ⟨(hw _ (List.mem_of_getElem? (i := 11) rfl)), (hsets _ (List.mem_of_getElem? (i := 0) rfl))⟩)
  obtain ⟨sc, ev_c⟩ := arr_v (Cond.before_iff.mp (hsets _ (List.mem_of_getElem? (i := 4) rfl)))
  have S_cache := Sta.start ev_c (Or.inr ⟨(hw _ (List.mem_of_getElem? (i := 11) rfl)), (hsets _ (List.mem_of_getElem? (i := 2) rfl))⟩)
  obtain ⟨cc, Ac⟩ := Arr.start ev_c (Cond.before_iff.mp (hsets _ (List.mem_of_getElem? (i := 4) rfl)))
  obtain ⟨lc1, lc2⟩ := own_len ev_c Ac (Cond.before_iff.mp (hsets _ (List.mem_of_getElem? (i := 6) rfl)))
  have lc3 : cc.slots.size = 256 := own_sz lc1 lc2
  have al := Cond.all_elim ev_c (Arr.fin (Vm.Alike.refl _) Ac) (Cond.before_iff.mp (hsets _ (List.mem_of_getElem? (i := 7) rfl)))
  obtain ⟨x0a, -⟩ := and_e (al 128 (by omega))
  obtain ⟨iv0, ei0v⟩ := exa_v x0a
  have E_iv0 := exa_at ei0v x0a
  obtain ⟨hin0, hat0⟩ := elem_in ei0v (show (Jvm.Term.static "java/lang/Integer$IntegerCache" "cache" "[Ljava/lang/Integer;").eval _ s none [128] s = some (.ref sc) from ev_c) (idx_at (j := (128 : Int32)) (by decide)) Ac.1
  obtain ⟨x1a, -⟩ := and_e (al 129 (by omega))
  obtain ⟨iv1, ei1v⟩ := exa_v x1a
  have E_iv1 := exa_at ei1v x1a
  obtain ⟨hin1, hat1⟩ := elem_in ei1v (show (Jvm.Term.static "java/lang/Integer$IntegerCache" "cache" "[Ljava/lang/Integer;").eval _ s none [129] s = some (.ref sc) from ev_c) (idx_at (j := (129 : Int32)) (by decide)) Ac.1
  obtain ⟨x2a, -⟩ := and_e (al 130 (by omega))
  obtain ⟨iv2, ei2v⟩ := exa_v x2a
  have E_iv2 := exa_at ei2v x2a
  obtain ⟨hin2, hat2⟩ := elem_in ei2v (show (Jvm.Term.static "java/lang/Integer$IntegerCache" "cache" "[Ljava/lang/Integer;").eval _ s none [130] s = some (.ref sc) from ev_c) (idx_at (j := (130 : Int32)) (by decide)) Ac.1
  obtain ⟨n, o, h1, h2, h3, _, L, rfl, ⟨rfl, N⟩, hq⟩ := rm0 l s _ hw tables_1 i0 i1 i2 i3 i4 i5 mo sc cc iv0 iv1 iv2 s.heap s.heap.size (Nat.le_refl _) Mo S_high S_cache Ac hin0 hin1 hin2 hat0 hat1 hat2 E_iv0 E_iv1 E_iv2 p e ha hc hk s m _ below hf ((Spec.applies_iff_loose hf).mp happ).1 ⟨rfl, State.Warmed39.refl s, rfl⟩ trivial
  refine ⟨n, _, h1, h2, h3, hpost _ _ _ _ _ _ ⟨Cond.after_iff.mpr rfl, Cond.after_iff.mpr (eq_i res_at (Term.int_eval (1)) rfl), trivial⟩ ⟨hq.1, hq.2.1, (hq.2.2.sift fun y hy => Or.inr (N y hy)).mono (by decide) (by decide)⟩⟩
theorem main_1_1 : Claimed_1_1 := comes_1 fun _ _ _ _ _ _ h hF => ⟨h.1, hF⟩
theorem main_1_2 : Claimed_1_2 := comes_1 fun _ _ _ _ _ _ h hF => ⟨h.2.1, hF⟩
end Jvm.Pilot.@@N@@
namespace Jvm.Pilot.@@N@@
open Jvm Jvm.ClassFile Sem Op Lib Jvm.Free Jvm.Stand Jvm.Pilot.@@N@@.Jvm.D
/-! MADE BY PROGRAM (witnessworld.py) out of the Statement's table words and the real class files: 21 classes; the members and pool entries that the words name. The judged class is class 1, her method 1. -/
namespace start1
open Jvm.ClassFile
def u (s : String) : CpInfo := .utf8 (stringToUtf16 s)
/-- a pool by its gaps: so many unusable entries, then the entry; so many at the end -/
def gap : Nat → List CpInfo → List CpInfo
  | 0, r => r
  | n + 1, r => .unusable :: gap n r
def poolList (es : List (Nat × CpInfo)) (last : Nat) : List CpInfo := es.foldr (fun e r => gap e.1 (e.2 :: r)) (gap last [])
def pool (es : List (Nat × CpInfo)) (last : Nat) : Array CpInfo := ⟨poolList es last⟩
def fileOf (pool : Array CpInfo) (this : Nat) (attrs : Array Attribute := #[]) (ms : Array MethodInfo := #[]) (fl : Nat := 33) (sup : Nat := 0) (ifs : Array Nat := #[]) (fds : Array FieldInfo := #[]) : ClassFile where
  minorVersion := 0
  majorVersion := 65
  constantPool := pool
  accessFlags := fl
  thisClass := this
  superClass := sup
  interfaces := ifs
  fields := fds
  methods := ms
  attributes := attrs
def plain (name : String) (sup : Option ClassId) : Class where
  name := name
  kind := .ordinary
  loader := none
  accessFlags := 33
  super := sup
  interfaces := #[]
  cf := none
  fields := #[]
  methods := #[]
  instanceTypes := #[]
  staticTypes := #[]
  resolved := #[]
  callSites := []
  init := .initialized
  statics := none
  mirror := none

def pool0 : Array CpInfo := pool [(5, u "<init>"), (0, u "()V"), (1, .class_ 10), (1, u "java/lang/Object"), (0, u "getClass"), (0, u "()Ljava/lang/Class;")] 111

def k0c0 : Code := { maxStack := 0, maxLocals := 1, code := object_method_1_code, exceptionTable := #[], attributes := #[] }
def k0m0 : Method := { name := "<init>", desc := "()V", sig := { parameters := [], returnType := none }, accessFlags := 1, code := some k0c0 }
def k0m1 : Method := { name := "getClass", desc := "()Ljava/lang/Class;", sig := { parameters := [], returnType := some (.object "java/lang/Class") }, accessFlags := 273, code := none }
/-- java/lang/Object -/
def k0 : Class := { plain "java/lang/Object" none with
  accessFlags := 33
  interfaces := #[]
  cf := some (fileOf pool0 8 #[] #[{ accessFlags := 1, nameIndex := 5, descriptorIndex := 6, attributes := #[] }, { accessFlags := 273, nameIndex := 11, descriptorIndex := 12, attributes := #[] }] 33 0 #[] #[])
  fields := #[]
  methods := #[k0m0, k0m1]
  instanceTypes := #[]
  staticTypes := #[]
  resolved := Array.replicate 124 none
  statics := none }

def pool1 : Array CpInfo := pool [(2, .class_ 4), (1, u "java/lang/Object"), (0, u "<init>"), (0, u "()V"), (0, .integer 1073741823), (0, .integer 1073741822), (0, .integer 2147483647), (0, .class_ 11), (0, u "com/example/tercet/tercet/core/Pages"), (0, .methodref 13 14), (0, .class_ 15), (0, .nameAndType 16 17), (0, u "java/lang/Integer"), (0, u "valueOf"), (0, u "(I)Ljava/lang/Integer;"), (0, .methodref 10 19), (0, .nameAndType 5 20), (0, u "(Ljava/lang/Object;II)V"), (0, .methodref 10 22), (0, .nameAndType 23 24), (0, u "turn"), (0, u "(ILjava/lang/Object;)V"), (0, .long 2147483648), (1, .methodref 10 28), (0, .nameAndType 29 30), (0, u "startsPage"), (0, u "(II)Z"), (0, .class_ 32), (0, u "com/example/tercet/tercet/core/PagesStartsPagePinLaw"), (2, u "law"), (0, u "(IIIIII)Z")] 3

def k1m0 : Method := { name := "<init>", desc := "()V", sig := { parameters := [], returnType := none }, accessFlags := 1, code := none }
def k1c1 : Code := { maxStack := 5, maxLocals := 21, code := code, exceptionTable := #[], attributes := #[] }
def k1m1 : Method := { name := "law", desc := "(IIIIII)Z", sig := { parameters := [.int, .int, .int, .int, .int, .int], returnType := some .boolean }, accessFlags := 9, code := some k1c1 }
/-- com/example/tercet/tercet/core/PagesStartsPagePinLaw -/
def k1 : Class := { plain "com/example/tercet/tercet/core/PagesStartsPagePinLaw" (some 0) with
  accessFlags := 49
  interfaces := #[]
  cf := some (fileOf pool1 31 #[] #[{ accessFlags := 1, nameIndex := 5, descriptorIndex := 6, attributes := #[] }, { accessFlags := 9, nameIndex := 35, descriptorIndex := 36, attributes := #[] }] 49 2 #[] #[])
  fields := #[]
  methods := #[k1m0, k1m1]
  instanceTypes := #[]
  staticTypes := #[]
  resolved := Array.replicate 40 none
  statics := none }

def pool2 : Array CpInfo := pool [(1, .methodref 2 3), (0, .class_ 4), (0, .nameAndType 5 6), (0, u "java/lang/Object"), (0, u "<init>"), (0, u "()V"), (0, .fieldref 8 9), (0, .class_ 10), (0, .nameAndType 11 12), (0, u "com/example/tercet/tercet/core/Pages"), (0, u "pageLength"), (0, u "I"), (0, .fieldref 8 14), (0, .nameAndType 15 12), (0, u "limit"), (0, .fieldref 8 17), (0, .nameAndType 18 19), (0, u "last"), (0, u "Ljava/lang/Object;"), (0, .fieldref 8 21), (0, .nameAndType 22 23), (0, u "pages"), (0, u "[Ljava/lang/Object;"), (0, .fieldref 8 25), (0, .nameAndType 26 27), (0, u "firsts"), (0, u "[I"), (0, .fieldref 8 29), (0, .nameAndType 30 12), (0, u "count"), (6, .methodref 38 39), (0, .class_ 40), (0, .nameAndType 41 42), (0, u "java/util/Arrays"), (0, u "copyOf"), (0, u "([Ljava/lang/Object;I)[Ljava/lang/Object;"), (0, .methodref 38 44), (0, .nameAndType 41 45), (0, u "([II)[I"), (6, u "found"), (4, u "FIRST_PAGE_BYTES"), (2, u "PAGE_BYTES"), (3, u "(Ljava/lang/Object;II)V"), (4, u "(II)Z"), (2, u "turn"), (0, u "(ILjava/lang/Object;)V"), (10, u "startsPage")] 3

def k2c0 : Code := { maxStack := 5, maxLocals := 4, code := prog_34_method_1_code, exceptionTable := #[], attributes := #[] }
def k2m0 : Method := { name := "<init>", desc := "(Ljava/lang/Object;II)V", sig := { parameters := [(.object "java/lang/Object"), .int, .int], returnType := none }, accessFlags := 0, code := some k2c0 }
def k2c1 : Code := { maxStack := 4, maxLocals := 3, code := prog_34_method_4_code, exceptionTable := #[], attributes := #[] }
def k2m1 : Method := { name := "turn", desc := "(ILjava/lang/Object;)V", sig := { parameters := [.int, (.object "java/lang/Object")], returnType := none }, accessFlags := 0, code := some k2c1 }
def k2c2 : Code := { maxStack := 2, maxLocals := 3, code := prog_34_method_10_code, exceptionTable := #[], attributes := #[] }
def k2m2 : Method := { name := "startsPage", desc := "(II)Z", sig := { parameters := [.int, .int], returnType := some .boolean }, accessFlags := 0, code := some k2c2 }
/-- com/example/tercet/tercet/core/Pages -/
def k2 : Class := { plain "com/example/tercet/tercet/core/Pages" (some 0) with
  accessFlags := 48
  interfaces := #[]
  cf := some (fileOf pool2 8 #[] #[{ accessFlags := 0, nameIndex := 5, descriptorIndex := 64, attributes := #[] }, { accessFlags := 0, nameIndex := 72, descriptorIndex := 73, attributes := #[] }, { accessFlags := 0, nameIndex := 84, descriptorIndex := 69, attributes := #[] }] 48 2 #[] #[{ accessFlags := 24, nameIndex := 57, descriptorIndex := 12, attributes := #[] }, { accessFlags := 24, nameIndex := 60, descriptorIndex := 12, attributes := #[] }, { accessFlags := 18, nameIndex := 11, descriptorIndex := 12, attributes := #[] }, { accessFlags := 2, nameIndex := 15, descriptorIndex := 12, attributes := #[] }, { accessFlags := 2, nameIndex := 18, descriptorIndex := 19, attributes := #[] }, { accessFlags := 2, nameIndex := 22, descriptorIndex := 23, attributes := #[] }, { accessFlags := 2, nameIndex := 26, descriptorIndex := 27, attributes := #[] }, { accessFlags := 2, nameIndex := 30, descriptorIndex := 12, attributes := #[] }, { accessFlags := 2, nameIndex := 52, descriptorIndex := 12, attributes := #[] }])
  fields := #[{ name := "FIRST_PAGE_BYTES", type := .int, accessFlags := 24, slot := 0, constantValue := 0 }, { name := "PAGE_BYTES", type := .int, accessFlags := 24, slot := 1, constantValue := 0 }, { name := "pageLength", type := .int, accessFlags := 18, slot := 0, constantValue := 0 }, { name := "limit", type := .int, accessFlags := 2, slot := 1, constantValue := 0 }, { name := "last", type := (.object "java/lang/Object"), accessFlags := 2, slot := 2, constantValue := 0 }, { name := "pages", type := (.array (.object "java/lang/Object")), accessFlags := 2, slot := 3, constantValue := 0 }, { name := "firsts", type := (.array .int), accessFlags := 2, slot := 4, constantValue := 0 }, { name := "count", type := .int, accessFlags := 2, slot := 5, constantValue := 0 }, { name := "found", type := .int, accessFlags := 2, slot := 6, constantValue := 0 }]
  methods := #[k2m0, k2m1, k2m2]
  instanceTypes := #[.int, .int, (.object "java/lang/Object"), (.array (.object "java/lang/Object")), (.array .int), .int, .int]
  staticTypes := #[.int, .int]
  resolved := Array.replicate 88 none
  statics := none }

def pool3 : Array CpInfo := pool [(1, .class_ 2), (0, u "java/io/Serializable"), (0, .class_ 4), (0, u "java/lang/Object")] 2

/-- java/io/Serializable -/
def k3 : Class := { plain "java/io/Serializable" (some 0) with
  accessFlags := 1537
  interfaces := #[]
  cf := some (fileOf pool3 1 #[] #[] 1537 3 #[] #[])
  fields := #[]
  methods := #[]
  instanceTypes := #[]
  staticTypes := #[]
  resolved := Array.replicate 7 none
  statics := none }

def pool4 : Array CpInfo := pool [(2, .class_ 4), (1, u "java/lang/Object"), (0, u "<init>"), (0, u "()V"), (1, .class_ 10), (1, u "java/lang/Number"), (2, .class_ 14), (0, u "java/io/Serializable"), (0, u "serialVersionUID"), (0, u "J")] 20

def k4m0 : Method := { name := "<init>", desc := "()V", sig := { parameters := [], returnType := none }, accessFlags := 1, code := none }
/-- java/lang/Number -/
def k4 : Class := { plain "java/lang/Number" (some 0) with
  accessFlags := 1057
  interfaces := #[3]
  cf := some (fileOf pool4 8 #[] #[{ accessFlags := 1, nameIndex := 5, descriptorIndex := 6, attributes := #[] }] 1057 2 #[13] #[{ accessFlags := 26, nameIndex := 15, descriptorIndex := 16, attributes := #[] }])
  fields := #[{ name := "serialVersionUID", type := .long, accessFlags := 26, slot := 0, constantValue := 0 }]
  methods := #[k4m0]
  instanceTypes := #[]
  staticTypes := #[.long]
  resolved := Array.replicate 37 none
  statics := none }

def pool5 : Array CpInfo := pool [(1, .class_ 2), (0, u "java/lang/Comparable"), (0, .class_ 4), (0, u "java/lang/Object")] 7

/-- java/lang/Comparable -/
def k5 : Class := { plain "java/lang/Comparable" (some 0) with
  accessFlags := 1537
  interfaces := #[]
  cf := some (fileOf pool5 1 #[] #[] 1537 3 #[] #[])
  fields := #[]
  methods := #[]
  instanceTypes := #[]
  staticTypes := #[]
  resolved := Array.replicate 12 none
  statics := none }

def pool6 : Array CpInfo := pool [(1, .class_ 2), (0, u "java/lang/constant/Constable"), (0, .class_ 4), (0, u "java/lang/Object")] 6

/-- java/lang/constant/Constable -/
def k6 : Class := { plain "java/lang/constant/Constable" (some 0) with
  accessFlags := 1537
  interfaces := #[]
  cf := some (fileOf pool6 1 #[] #[] 1537 3 #[] #[])
  fields := #[]
  methods := #[]
  instanceTypes := #[]
  staticTypes := #[]
  resolved := Array.replicate 11 none
  statics := none }

def pool7 : Array CpInfo := pool [(1, .class_ 2), (0, u "java/lang/constant/ConstantDesc"), (0, .class_ 4), (0, u "java/lang/Object")] 32

/-- java/lang/constant/ConstantDesc -/
def k7 : Class := { plain "java/lang/constant/ConstantDesc" (some 0) with
  accessFlags := 1537
  interfaces := #[]
  cf := some (fileOf pool7 1 #[] #[] 1537 3 #[] #[])
  fields := #[]
  methods := #[]
  instanceTypes := #[]
  staticTypes := #[]
  resolved := Array.replicate 37 none
  statics := none }

def pool8 : Array CpInfo := pool [(1, .class_ 2), (0, u "java/lang/Integer"), (16, u "digits"), (0, u "[C"), (64, u "DigitOnes"), (0, u "[B"), (2, u "DigitTens"), (97, u "valueOf"), (0, u "(I)Ljava/lang/Integer;"), (0, .class_ 190), (0, u "java/lang/Integer$IntegerCache"), (0, .fieldref 189 192), (0, .nameAndType 193 194), (0, u "high"), (0, u "I"), (0, .fieldref 189 196), (0, .nameAndType 197 198), (0, u "cache"), (0, u "[Ljava/lang/Integer;"), (4, .class_ 204), (0, u "java/lang/Number"), (2, u "value"), (94, u "TYPE"), (0, u "Ljava/lang/Class;"), (0, .class_ 305), (0, u "java/lang/Comparable"), (0, .class_ 307), (0, u "java/lang/constant/Constable"), (0, .class_ 309), (0, u "java/lang/constant/ConstantDesc"), (0, u "MIN_VALUE"), (1, u "MAX_VALUE"), (3, u "SIZE"), (1, u "BYTES"), (1, u "serialVersionUID"), (0, u "J")] 131

def k8c0 : Code := { maxStack := 3, maxLocals := 1, code := jdk_33_method_22_code, exceptionTable := #[], attributes := #[] }
def k8m0 : Method := { name := "valueOf", desc := "(I)Ljava/lang/Integer;", sig := { parameters := [.int], returnType := some (.object "java/lang/Integer") }, accessFlags := 9, code := some k8c0 }
/-- java/lang/Integer -/
def k8 : Class := { plain "java/lang/Integer" (some 4) with
  accessFlags := 49
  interfaces := #[5, 6, 7]
  cf := some (fileOf pool8 1 #[.nestMembers #[189]] #[{ accessFlags := 9, nameIndex := 187, descriptorIndex := 188, attributes := #[] }] 49 203 #[304, 306, 308] #[{ accessFlags := 25, nameIndex := 310, descriptorIndex := 194, attributes := #[] }, { accessFlags := 25, nameIndex := 312, descriptorIndex := 194, attributes := #[] }, { accessFlags := 25, nameIndex := 302, descriptorIndex := 303, attributes := #[] }, { accessFlags := 24, nameIndex := 19, descriptorIndex := 20, attributes := #[] }, { accessFlags := 24, nameIndex := 89, descriptorIndex := 86, attributes := #[] }, { accessFlags := 24, nameIndex := 85, descriptorIndex := 86, attributes := #[] }, { accessFlags := 18, nameIndex := 207, descriptorIndex := 194, attributes := #[] }, { accessFlags := 25, nameIndex := 316, descriptorIndex := 194, attributes := #[] }, { accessFlags := 25, nameIndex := 318, descriptorIndex := 194, attributes := #[] }, { accessFlags := 26, nameIndex := 320, descriptorIndex := 321, attributes := #[] }])
  fields := #[{ name := "MIN_VALUE", type := .int, accessFlags := 25, slot := 0, constantValue := 0 }, { name := "MAX_VALUE", type := .int, accessFlags := 25, slot := 1, constantValue := 0 }, { name := "TYPE", type := (.object "java/lang/Class"), accessFlags := 25, slot := 2, constantValue := 0 }, { name := "digits", type := (.array .char), accessFlags := 24, slot := 3, constantValue := 0 }, { name := "DigitTens", type := (.array .byte), accessFlags := 24, slot := 4, constantValue := 0 }, { name := "DigitOnes", type := (.array .byte), accessFlags := 24, slot := 5, constantValue := 0 }, { name := "value", type := .int, accessFlags := 18, slot := 0, constantValue := 0 }, { name := "SIZE", type := .int, accessFlags := 25, slot := 6, constantValue := 0 }, { name := "BYTES", type := .int, accessFlags := 25, slot := 7, constantValue := 0 }, { name := "serialVersionUID", type := .long, accessFlags := 26, slot := 8, constantValue := 0 }]
  methods := #[k8m0]
  instanceTypes := #[.int]
  staticTypes := #[.int, .int, (.object "java/lang/Class"), (.array .char), (.array .byte), (.array .byte), .int, .int, .long]
  resolved := Array.replicate 453 none
  statics := none }

def pool9 : Array CpInfo := pool [(2, .class_ 4), (1, u "java/lang/Object"), (0, u "<init>"), (0, u "()V"), (0, .class_ 8), (0, u "java/lang/Integer"), (7, .class_ 18), (1, u "java/lang/Integer$IntegerCache"), (0, u "$assertionsDisabled"), (0, u "Z"), (26, u "high"), (0, u "I"), (8, u "archivedCache"), (0, u "[Ljava/lang/Integer;"), (12, u "cache"), (0, u "low")] 27

def k9m0 : Method := { name := "<init>", desc := "()V", sig := { parameters := [], returnType := none }, accessFlags := 2, code := none }
/-- java/lang/Integer$IntegerCache -/
def k9 : Class := { plain "java/lang/Integer$IntegerCache" (some 0) with
  accessFlags := 48
  interfaces := #[]
  cf := some (fileOf pool9 16 #[.nestHost 7] #[{ accessFlags := 2, nameIndex := 5, descriptorIndex := 6, attributes := #[] }] 48 2 #[] #[{ accessFlags := 24, nameIndex := 72, descriptorIndex := 48, attributes := #[] }, { accessFlags := 24, nameIndex := 47, descriptorIndex := 48, attributes := #[] }, { accessFlags := 24, nameIndex := 71, descriptorIndex := 58, attributes := #[] }, { accessFlags := 8, nameIndex := 57, descriptorIndex := 58, attributes := #[] }, { accessFlags := 4120, nameIndex := 19, descriptorIndex := 20, attributes := #[] }])
  fields := #[{ name := "low", type := .int, accessFlags := 24, slot := 0, constantValue := 0 }, { name := "high", type := .int, accessFlags := 24, slot := 1, constantValue := 0 }, { name := "cache", type := (.array (.object "java/lang/Integer")), accessFlags := 24, slot := 2, constantValue := 0 }, { name := "archivedCache", type := (.array (.object "java/lang/Integer")), accessFlags := 8, slot := 3, constantValue := 0 }, { name := "$assertionsDisabled", type := .boolean, accessFlags := 4120, slot := 4, constantValue := 0 }]
  methods := #[k9m0]
  instanceTypes := #[]
  staticTypes := #[.int, .int, (.array (.object "java/lang/Integer")), (.array (.object "java/lang/Integer")), .boolean]
  resolved := Array.replicate 100 none
  statics := some 0 }

def pool10 : Array CpInfo := pool [(2, .class_ 4), (1, u "java/lang/Object"), (0, u "<init>"), (0, u "()V"), (7, .class_ 16), (1, u "java/util/Arrays"), (57, .class_ 76), (1, u "java/util/Arrays$NaturalOrder"), (9, .methodref 2 87), (0, .nameAndType 88 89), (0, u "getClass"), (0, u "()Ljava/lang/Class;"), (20, .class_ 111), (0, u "[Ljava/lang/Object;"), (1, .class_ 115), (1, u "java/util/Arrays$LegacyMergeSort"), (1, u "Z"), (32, .methodref 151 152), (0, .class_ 153), (0, .nameAndType 154 155), (0, u "java/lang/System"), (0, u "arraycopy"), (0, u "(Ljava/lang/Object;ILjava/lang/Object;II)V"), (144, .methodref 14 301), (0, .nameAndType 302 303), (0, u "copyOf"), (0, u "([Ljava/lang/Object;ILjava/lang/Class;)[Ljava/lang/Object;"), (0, .methodref 305 306), (0, .class_ 307), (0, .nameAndType 308 309), (0, u "java/lang/Math"), (0, u "min"), (0, u "(II)I"), (65, .class_ 376), (0, u "java/util/Arrays$ArrayList"), (68, u "$assertionsDisabled"), (269, u "MIN_ARRAY_SORT_GRAN"), (0, u "I"), (2, u "INSERTIONSORT_THRESHOLD"), (140, u "([Ljava/lang/Object;I)[Ljava/lang/Object;"), (10, u "([II)[I"), (103, .class_ 976), (0, u "java/util/Arrays$ArrayItr")] 52

def k10m0 : Method := { name := "<init>", desc := "()V", sig := { parameters := [], returnType := none }, accessFlags := 2, code := none }
def k10c1 : Code := { maxStack := 3, maxLocals := 2, code := jdk_65_method_119_code, exceptionTable := #[], attributes := #[] }
def k10m1 : Method := { name := "copyOf", desc := "([Ljava/lang/Object;I)[Ljava/lang/Object;", sig := { parameters := [(.array (.object "java/lang/Object")), .int], returnType := some (.array (.object "java/lang/Object")) }, accessFlags := 9, code := some k10c1 }
def k10c2 : Code := { maxStack := 6, maxLocals := 4, code := jdk_65_method_120_code, exceptionTable := #[], attributes := #[] }
def k10m2 : Method := { name := "copyOf", desc := "([Ljava/lang/Object;ILjava/lang/Class;)[Ljava/lang/Object;", sig := { parameters := [(.array (.object "java/lang/Object")), .int, (.object "java/lang/Class")], returnType := some (.array (.object "java/lang/Object")) }, accessFlags := 9, code := some k10c2 }
def k10c3 : Code := { maxStack := 6, maxLocals := 3, code := jdk_65_method_123_code, exceptionTable := #[], attributes := #[] }
def k10m3 : Method := { name := "copyOf", desc := "([II)[I", sig := { parameters := [(.array .int), .int], returnType := some (.array .int) }, accessFlags := 9, code := some k10c3 }
/-- java/util/Arrays -/
def k10 : Class := { plain "java/util/Arrays" (some 0) with
  accessFlags := 49
  interfaces := #[]
  cf := some (fileOf pool10 14 #[.nestMembers #[975, 375, 113, 74]] #[{ accessFlags := 2, nameIndex := 5, descriptorIndex := 6, attributes := #[] }, { accessFlags := 9, nameIndex := 302, descriptorIndex := 860, attributes := #[] }, { accessFlags := 9, nameIndex := 302, descriptorIndex := 303, attributes := #[] }, { accessFlags := 9, nameIndex := 302, descriptorIndex := 871, attributes := #[] }] 49 2 #[] #[{ accessFlags := 26, nameIndex := 715, descriptorIndex := 716, attributes := #[] }, { accessFlags := 26, nameIndex := 719, descriptorIndex := 716, attributes := #[] }, { accessFlags := 4120, nameIndex := 445, descriptorIndex := 117, attributes := #[] }])
  fields := #[{ name := "MIN_ARRAY_SORT_GRAN", type := .int, accessFlags := 26, slot := 0, constantValue := 0 }, { name := "INSERTIONSORT_THRESHOLD", type := .int, accessFlags := 26, slot := 1, constantValue := 0 }, { name := "$assertionsDisabled", type := .boolean, accessFlags := 4120, slot := 2, constantValue := 0 }]
  methods := #[k10m0, k10m1, k10m2, k10m3]
  instanceTypes := #[]
  staticTypes := #[.int, .int, .boolean]
  resolved := Array.replicate 1029 none
  statics := none }

def pool11 : Array CpInfo := pool [(1, .class_ 2), (0, u "java/lang/Math"), (1, .class_ 6), (1, u "java/lang/Object"), (0, u "<init>"), (0, u "()V"), (89, .class_ 100), (1, u "java/lang/Math$RandomNumberGeneratorHolder"), (71, u "negativeZeroFloatBits"), (0, u "J"), (2, u "negativeZeroDoubleBits"), (24, u "min"), (43, u "$assertionsDisabled"), (0, u "Z"), (88, u "(II)I"), (2, u "twoToTheDoubleScaleDown"), (0, u "D"), (4, u "twoToTheDoubleScaleUp"), (9, u "E"), (3, u "PI"), (2, u "TAU"), (2, u "DEGREES_TO_RADIANS"), (0, u "RADIANS_TO_DEGREES")] 94

def k11m0 : Method := { name := "<init>", desc := "()V", sig := { parameters := [], returnType := none }, accessFlags := 2, code := none }
def k11c1 : Code := { maxStack := 2, maxLocals := 2, code := jdk_29_method_69_code, exceptionTable := #[], attributes := #[] }
def k11m1 : Method := { name := "min", desc := "(II)I", sig := { parameters := [.int, .int], returnType := some .int }, accessFlags := 9, code := some k11c1 }
/-- java/lang/Math -/
def k11 : Class := { plain "java/lang/Math" (some 0) with
  accessFlags := 49
  interfaces := #[]
  cf := some (fileOf pool11 1 #[.nestMembers #[98]] #[{ accessFlags := 2, nameIndex := 7, descriptorIndex := 8, attributes := #[] }, { accessFlags := 9, nameIndex := 201, descriptorIndex := 335, attributes := #[] }] 49 4 #[] #[{ accessFlags := 25, nameIndex := 354, descriptorIndex := 339, attributes := #[] }, { accessFlags := 25, nameIndex := 358, descriptorIndex := 339, attributes := #[] }, { accessFlags := 25, nameIndex := 361, descriptorIndex := 339, attributes := #[] }, { accessFlags := 26, nameIndex := 364, descriptorIndex := 339, attributes := #[] }, { accessFlags := 26, nameIndex := 365, descriptorIndex := 339, attributes := #[] }, { accessFlags := 26, nameIndex := 172, descriptorIndex := 173, attributes := #[] }, { accessFlags := 26, nameIndex := 176, descriptorIndex := 173, attributes := #[] }, { accessFlags := 8, nameIndex := 344, descriptorIndex := 339, attributes := #[] }, { accessFlags := 8, nameIndex := 338, descriptorIndex := 339, attributes := #[] }, { accessFlags := 4120, nameIndex := 245, descriptorIndex := 246, attributes := #[] }])
  fields := #[{ name := "E", type := .double, accessFlags := 25, slot := 0, constantValue := 0 }, { name := "PI", type := .double, accessFlags := 25, slot := 1, constantValue := 0 }, { name := "TAU", type := .double, accessFlags := 25, slot := 2, constantValue := 0 }, { name := "DEGREES_TO_RADIANS", type := .double, accessFlags := 26, slot := 3, constantValue := 0 }, { name := "RADIANS_TO_DEGREES", type := .double, accessFlags := 26, slot := 4, constantValue := 0 }, { name := "negativeZeroFloatBits", type := .long, accessFlags := 26, slot := 5, constantValue := 0 }, { name := "negativeZeroDoubleBits", type := .long, accessFlags := 26, slot := 6, constantValue := 0 }, { name := "twoToTheDoubleScaleUp", type := .double, accessFlags := 8, slot := 7, constantValue := 0 }, { name := "twoToTheDoubleScaleDown", type := .double, accessFlags := 8, slot := 8, constantValue := 0 }, { name := "$assertionsDisabled", type := .boolean, accessFlags := 4120, slot := 9, constantValue := 0 }]
  methods := #[k11m0, k11m1]
  instanceTypes := #[]
  staticTypes := #[.double, .double, .double, .double, .double, .long, .long, .double, .double, .boolean]
  resolved := Array.replicate 460 none
  statics := none }

def pool12 : Array CpInfo := pool [(2, .class_ 4), (1, u "java/lang/Object"), (0, u "<init>"), (0, u "()V"), (1, .class_ 10), (1, u "java/lang/System"), (0, u "allowSecurityManager"), (0, u "I"), (16, u "cons"), (0, u "Ljava/io/Console;"), (77, .class_ 110), (1, u "java/lang/System$CallersHolder"), (43, u "initialErrStream"), (0, u "Ljava/io/PrintStream;"), (19, u "security"), (0, u "Ljava/lang/SecurityManager;"), (31, .class_ 209), (0, u "java/lang/System$1"), (7, u "props"), (0, u "Ljava/util/Properties;"), (2, u "lineSeparator"), (0, u "Ljava/lang/String;"), (96, .class_ 321), (1, u "java/lang/System$LoggerFinder"), (5, .class_ 328), (0, u "java/lang/System$Logger"), (67, u "err"), (2, u "out"), (91, u "notSupportedJnuEncoding"), (15, u "in"), (17, u "initialIn"), (0, u "Ljava/io/InputStream;"), (35, u "bootLayer"), (0, u "Ljava/lang/ModuleLayer;"), (99, .class_ 664), (0, u "java/lang/System$2"), (9, u "NEVER"), (2, u "MAYBE"), (49, u "arraycopy"), (0, u "(Ljava/lang/Object;ILjava/lang/Object;II)V"), (72, .class_ 802), (0, u "java/lang/System$Logger$Level")] 31

def k12m0 : Method := { name := "<init>", desc := "()V", sig := { parameters := [], returnType := none }, accessFlags := 2, code := none }
def k12m1 : Method := { name := "arraycopy", desc := "(Ljava/lang/Object;ILjava/lang/Object;II)V", sig := { parameters := [(.object "java/lang/Object"), .int, (.object "java/lang/Object"), .int, .int], returnType := none }, accessFlags := 265, code := none }
/-- java/lang/System -/
def k12 : Class := { plain "java/lang/System" (some 0) with
  accessFlags := 49
  interfaces := #[]
  cf := some (fileOf pool12 8 #[.nestMembers #[319, 327, 801, 108, 663, 208]] #[{ accessFlags := 2, nameIndex := 5, descriptorIndex := 6, attributes := #[] }, { accessFlags := 265, nameIndex := 727, descriptorIndex := 728, attributes := #[] }] 49 2 #[] #[{ accessFlags := 25, nameIndex := 507, descriptorIndex := 526, attributes := #[] }, { accessFlags := 25, nameIndex := 399, descriptorIndex := 155, attributes := #[] }, { accessFlags := 25, nameIndex := 396, descriptorIndex := 155, attributes := #[] }, { accessFlags := 10, nameIndex := 525, descriptorIndex := 526, attributes := #[] }, { accessFlags := 26, nameIndex := 674, descriptorIndex := 12, attributes := #[] }, { accessFlags := 26, nameIndex := 677, descriptorIndex := 12, attributes := #[] }, { accessFlags := 10, nameIndex := 11, descriptorIndex := 12, attributes := #[] }, { accessFlags := 74, nameIndex := 175, descriptorIndex := 176, attributes := #[] }, { accessFlags := 10, nameIndex := 491, descriptorIndex := 222, attributes := #[] }, { accessFlags := 74, nameIndex := 29, descriptorIndex := 30, attributes := #[] }, { accessFlags := 74, nameIndex := 154, descriptorIndex := 155, attributes := #[] }, { accessFlags := 10, nameIndex := 217, descriptorIndex := 218, attributes := #[] }, { accessFlags := 10, nameIndex := 221, descriptorIndex := 222, attributes := #[] }, { accessFlags := 8, nameIndex := 562, descriptorIndex := 563, attributes := #[] }])
  fields := #[{ name := "in", type := (.object "java/io/InputStream"), accessFlags := 25, slot := 0, constantValue := 0 }, { name := "out", type := (.object "java/io/PrintStream"), accessFlags := 25, slot := 1, constantValue := 0 }, { name := "err", type := (.object "java/io/PrintStream"), accessFlags := 25, slot := 2, constantValue := 0 }, { name := "initialIn", type := (.object "java/io/InputStream"), accessFlags := 10, slot := 3, constantValue := 0 }, { name := "NEVER", type := .int, accessFlags := 26, slot := 4, constantValue := 0 }, { name := "MAYBE", type := .int, accessFlags := 26, slot := 5, constantValue := 0 }, { name := "allowSecurityManager", type := .int, accessFlags := 10, slot := 6, constantValue := 0 }, { name := "security", type := (.object "java/lang/SecurityManager"), accessFlags := 74, slot := 7, constantValue := 0 }, { name := "notSupportedJnuEncoding", type := (.object "java/lang/String"), accessFlags := 10, slot := 8, constantValue := 0 }, { name := "cons", type := (.object "java/io/Console"), accessFlags := 74, slot := 9, constantValue := 0 }, { name := "initialErrStream", type := (.object "java/io/PrintStream"), accessFlags := 74, slot := 10, constantValue := 0 }, { name := "props", type := (.object "java/util/Properties"), accessFlags := 10, slot := 11, constantValue := 0 }, { name := "lineSeparator", type := (.object "java/lang/String"), accessFlags := 10, slot := 12, constantValue := 0 }, { name := "bootLayer", type := (.object "java/lang/ModuleLayer"), accessFlags := 8, slot := 13, constantValue := 0 }]
  methods := #[k12m0, k12m1]
  instanceTypes := #[]
  staticTypes := #[(.object "java/io/InputStream"), (.object "java/io/PrintStream"), (.object "java/io/PrintStream"), (.object "java/io/InputStream"), .int, .int, .int, (.object "java/lang/SecurityManager"), (.object "java/lang/String"), (.object "java/io/Console"), (.object "java/io/PrintStream"), (.object "java/util/Properties"), (.object "java/lang/String"), (.object "java/lang/ModuleLayer")]
  resolved := Array.replicate 834 none
  statics := none }

def pool13 : Array CpInfo := pool [(1, .class_ 2), (0, u "java/lang/Class"), (0, .class_ 4), (0, u "java/lang/Object")] 0

/-- java/lang/Class -/
def k13 : Class := { plain "java/lang/Class" (some 0) with
  accessFlags := 49
  interfaces := #[]
  cf := some (fileOf pool13 1 #[] #[] 49 3 #[] #[])
  fields := #[]
  methods := #[]
  instanceTypes := #[]
  staticTypes := #[]
  resolved := Array.replicate 5 none
  statics := none }

def pool14 : Array CpInfo := pool [(1, u "java/lang/Cloneable"), (0, .class_ 1), (0, u "java/lang/Object"), (0, .class_ 3)] 3

/-- java/lang/Cloneable -/
def k14 : Class := { plain "java/lang/Cloneable" (some 0) with
  accessFlags := 1537
  interfaces := #[]
  cf := some (fileOf pool14 2 #[] #[] 1537 4 #[] #[])
  fields := #[]
  methods := #[]
  instanceTypes := #[]
  staticTypes := #[]
  resolved := Array.replicate 8 none
  statics := none }

/-- the primitive byte -/
def k15 : Class := { plain "byte" none with kind := .primitive 'B', accessFlags := 0x411 }
/-- [B -/
def k16 : Class := { plain "[B" (some 0) with kind := .array 15 .byte, interfaces := #[14, 3], accessFlags := 1041 }

/-- the primitive int -/
def k17 : Class := { plain "int" none with kind := .primitive 'I', accessFlags := 0x411 }
/-- [I -/
def k18 : Class := { plain "[I" (some 0) with kind := .array 17 .int, interfaces := #[14, 3], accessFlags := 1041 }

/-- [Ljava/lang/Integer; -/
def k19 : Class := { plain "[Ljava/lang/Integer;" (some 0) with kind := .array 8 (.object "java/lang/Integer"), interfaces := #[14, 3], accessFlags := 1041 }

/-- [Ljava/lang/Object; -/
def k20 : Class := { plain "[Ljava/lang/Object;" (some 0) with kind := .array 0 (.object "java/lang/Object"), interfaces := #[14, 3], accessFlags := 1041, mirror := some 1 }

def heap : Heap := #[{ cls := 9, slots := #[.int 0, .int 127, .ref 2, .null, .int 0], vm := .statics 9 },
  { cls := 13, slots := #[], vm := .mirror 20 },
  { cls := 19, slots := #[.ref 3, .ref 4, .ref 5, .ref 6, .ref 7, .ref 8, .ref 9, .ref 10, .ref 11, .ref 12, .ref 13, .ref 14, .ref 15, .ref 16, .ref 17, .ref 18, .ref 19, .ref 20, .ref 21, .ref 22, .ref 23, .ref 24, .ref 25, .ref 26, .ref 27, .ref 28, .ref 29, .ref 30, .ref 31, .ref 32, .ref 33, .ref 34, .ref 35, .ref 36, .ref 37, .ref 38, .ref 39, .ref 40, .ref 41, .ref 42, .ref 43, .ref 44, .ref 45, .ref 46, .ref 47, .ref 48, .ref 49, .ref 50, .ref 51, .ref 52, .ref 53, .ref 54, .ref 55, .ref 56, .ref 57, .ref 58, .ref 59, .ref 60, .ref 61, .ref 62, .ref 63, .ref 64, .ref 65, .ref 66, .ref 67, .ref 68, .ref 69, .ref 70, .ref 71, .ref 72, .ref 73, .ref 74, .ref 75, .ref 76, .ref 77, .ref 78, .ref 79, .ref 80, .ref 81, .ref 82, .ref 83, .ref 84, .ref 85, .ref 86, .ref 87, .ref 88, .ref 89, .ref 90, .ref 91, .ref 92, .ref 93, .ref 94, .ref 95, .ref 96, .ref 97, .ref 98, .ref 99, .ref 100, .ref 101, .ref 102, .ref 103, .ref 104, .ref 105, .ref 106, .ref 107, .ref 108, .ref 109, .ref 110, .ref 111, .ref 112, .ref 113, .ref 114, .ref 115, .ref 116, .ref 117, .ref 118, .ref 119, .ref 120, .ref 121, .ref 122, .ref 123, .ref 124, .ref 125, .ref 126, .ref 127, .ref 128, .ref 129, .ref 130, .ref 131, .ref 132, .ref 133, .ref 134, .ref 135, .ref 136, .ref 137, .ref 138, .ref 139, .ref 140, .ref 141, .ref 142, .ref 143, .ref 144, .ref 145, .ref 146, .ref 147, .ref 148, .ref 149, .ref 150, .ref 151, .ref 152, .ref 153, .ref 154, .ref 155, .ref 156, .ref 157, .ref 158, .ref 159, .ref 160, .ref 161, .ref 162, .ref 163, .ref 164, .ref 165, .ref 166, .ref 167, .ref 168, .ref 169, .ref 170, .ref 171, .ref 172, .ref 173, .ref 174, .ref 175, .ref 176, .ref 177, .ref 178, .ref 179, .ref 180, .ref 181, .ref 182, .ref 183, .ref 184, .ref 185, .ref 186, .ref 187, .ref 188, .ref 189, .ref 190, .ref 191, .ref 192, .ref 193, .ref 194, .ref 195, .ref 196, .ref 197, .ref 198, .ref 199, .ref 200, .ref 201, .ref 202, .ref 203, .ref 204, .ref 205, .ref 206, .ref 207, .ref 208, .ref 209, .ref 210, .ref 211, .ref 212, .ref 213, .ref 214, .ref 215, .ref 216, .ref 217, .ref 218, .ref 219, .ref 220, .ref 221, .ref 222, .ref 223, .ref 224, .ref 225, .ref 226, .ref 227, .ref 228, .ref 229, .ref 230, .ref 231, .ref 232, .ref 233, .ref 234, .ref 235, .ref 236, .ref 237, .ref 238, .ref 239, .ref 240, .ref 241, .ref 242, .ref 243, .ref 244, .ref 245, .ref 246, .ref 247, .ref 248, .ref 249, .ref 250, .ref 251, .ref 252, .ref 253, .ref 254, .ref 255, .ref 256, .ref 257, .ref 258], vm := .none },
  { cls := 8, slots := #[.int (-128)], vm := .none },
  { cls := 8, slots := #[.int (-127)], vm := .none },
  { cls := 8, slots := #[.int (-126)], vm := .none },
  { cls := 8, slots := #[.int (-125)], vm := .none },
  { cls := 8, slots := #[.int (-124)], vm := .none },
  { cls := 8, slots := #[.int (-123)], vm := .none },
  { cls := 8, slots := #[.int (-122)], vm := .none },
  { cls := 8, slots := #[.int (-121)], vm := .none },
  { cls := 8, slots := #[.int (-120)], vm := .none },
  { cls := 8, slots := #[.int (-119)], vm := .none },
  { cls := 8, slots := #[.int (-118)], vm := .none },
  { cls := 8, slots := #[.int (-117)], vm := .none },
  { cls := 8, slots := #[.int (-116)], vm := .none },
  { cls := 8, slots := #[.int (-115)], vm := .none },
  { cls := 8, slots := #[.int (-114)], vm := .none },
  { cls := 8, slots := #[.int (-113)], vm := .none },
  { cls := 8, slots := #[.int (-112)], vm := .none },
  { cls := 8, slots := #[.int (-111)], vm := .none },
  { cls := 8, slots := #[.int (-110)], vm := .none },
  { cls := 8, slots := #[.int (-109)], vm := .none },
  { cls := 8, slots := #[.int (-108)], vm := .none },
  { cls := 8, slots := #[.int (-107)], vm := .none },
  { cls := 8, slots := #[.int (-106)], vm := .none },
  { cls := 8, slots := #[.int (-105)], vm := .none },
  { cls := 8, slots := #[.int (-104)], vm := .none },
  { cls := 8, slots := #[.int (-103)], vm := .none },
  { cls := 8, slots := #[.int (-102)], vm := .none },
  { cls := 8, slots := #[.int (-101)], vm := .none },
  { cls := 8, slots := #[.int (-100)], vm := .none },
  { cls := 8, slots := #[.int (-99)], vm := .none },
  { cls := 8, slots := #[.int (-98)], vm := .none },
  { cls := 8, slots := #[.int (-97)], vm := .none },
  { cls := 8, slots := #[.int (-96)], vm := .none },
  { cls := 8, slots := #[.int (-95)], vm := .none },
  { cls := 8, slots := #[.int (-94)], vm := .none },
  { cls := 8, slots := #[.int (-93)], vm := .none },
  { cls := 8, slots := #[.int (-92)], vm := .none },
  { cls := 8, slots := #[.int (-91)], vm := .none },
  { cls := 8, slots := #[.int (-90)], vm := .none },
  { cls := 8, slots := #[.int (-89)], vm := .none },
  { cls := 8, slots := #[.int (-88)], vm := .none },
  { cls := 8, slots := #[.int (-87)], vm := .none },
  { cls := 8, slots := #[.int (-86)], vm := .none },
  { cls := 8, slots := #[.int (-85)], vm := .none },
  { cls := 8, slots := #[.int (-84)], vm := .none },
  { cls := 8, slots := #[.int (-83)], vm := .none },
  { cls := 8, slots := #[.int (-82)], vm := .none },
  { cls := 8, slots := #[.int (-81)], vm := .none },
  { cls := 8, slots := #[.int (-80)], vm := .none },
  { cls := 8, slots := #[.int (-79)], vm := .none },
  { cls := 8, slots := #[.int (-78)], vm := .none },
  { cls := 8, slots := #[.int (-77)], vm := .none },
  { cls := 8, slots := #[.int (-76)], vm := .none },
  { cls := 8, slots := #[.int (-75)], vm := .none },
  { cls := 8, slots := #[.int (-74)], vm := .none },
  { cls := 8, slots := #[.int (-73)], vm := .none },
  { cls := 8, slots := #[.int (-72)], vm := .none },
  { cls := 8, slots := #[.int (-71)], vm := .none },
  { cls := 8, slots := #[.int (-70)], vm := .none },
  { cls := 8, slots := #[.int (-69)], vm := .none },
  { cls := 8, slots := #[.int (-68)], vm := .none },
  { cls := 8, slots := #[.int (-67)], vm := .none },
  { cls := 8, slots := #[.int (-66)], vm := .none },
  { cls := 8, slots := #[.int (-65)], vm := .none },
  { cls := 8, slots := #[.int (-64)], vm := .none },
  { cls := 8, slots := #[.int (-63)], vm := .none },
  { cls := 8, slots := #[.int (-62)], vm := .none },
  { cls := 8, slots := #[.int (-61)], vm := .none },
  { cls := 8, slots := #[.int (-60)], vm := .none },
  { cls := 8, slots := #[.int (-59)], vm := .none },
  { cls := 8, slots := #[.int (-58)], vm := .none },
  { cls := 8, slots := #[.int (-57)], vm := .none },
  { cls := 8, slots := #[.int (-56)], vm := .none },
  { cls := 8, slots := #[.int (-55)], vm := .none },
  { cls := 8, slots := #[.int (-54)], vm := .none },
  { cls := 8, slots := #[.int (-53)], vm := .none },
  { cls := 8, slots := #[.int (-52)], vm := .none },
  { cls := 8, slots := #[.int (-51)], vm := .none },
  { cls := 8, slots := #[.int (-50)], vm := .none },
  { cls := 8, slots := #[.int (-49)], vm := .none },
  { cls := 8, slots := #[.int (-48)], vm := .none },
  { cls := 8, slots := #[.int (-47)], vm := .none },
  { cls := 8, slots := #[.int (-46)], vm := .none },
  { cls := 8, slots := #[.int (-45)], vm := .none },
  { cls := 8, slots := #[.int (-44)], vm := .none },
  { cls := 8, slots := #[.int (-43)], vm := .none },
  { cls := 8, slots := #[.int (-42)], vm := .none },
  { cls := 8, slots := #[.int (-41)], vm := .none },
  { cls := 8, slots := #[.int (-40)], vm := .none },
  { cls := 8, slots := #[.int (-39)], vm := .none },
  { cls := 8, slots := #[.int (-38)], vm := .none },
  { cls := 8, slots := #[.int (-37)], vm := .none },
  { cls := 8, slots := #[.int (-36)], vm := .none },
  { cls := 8, slots := #[.int (-35)], vm := .none },
  { cls := 8, slots := #[.int (-34)], vm := .none },
  { cls := 8, slots := #[.int (-33)], vm := .none },
  { cls := 8, slots := #[.int (-32)], vm := .none },
  { cls := 8, slots := #[.int (-31)], vm := .none },
  { cls := 8, slots := #[.int (-30)], vm := .none },
  { cls := 8, slots := #[.int (-29)], vm := .none },
  { cls := 8, slots := #[.int (-28)], vm := .none },
  { cls := 8, slots := #[.int (-27)], vm := .none },
  { cls := 8, slots := #[.int (-26)], vm := .none },
  { cls := 8, slots := #[.int (-25)], vm := .none },
  { cls := 8, slots := #[.int (-24)], vm := .none },
  { cls := 8, slots := #[.int (-23)], vm := .none },
  { cls := 8, slots := #[.int (-22)], vm := .none },
  { cls := 8, slots := #[.int (-21)], vm := .none },
  { cls := 8, slots := #[.int (-20)], vm := .none },
  { cls := 8, slots := #[.int (-19)], vm := .none },
  { cls := 8, slots := #[.int (-18)], vm := .none },
  { cls := 8, slots := #[.int (-17)], vm := .none },
  { cls := 8, slots := #[.int (-16)], vm := .none },
  { cls := 8, slots := #[.int (-15)], vm := .none },
  { cls := 8, slots := #[.int (-14)], vm := .none },
  { cls := 8, slots := #[.int (-13)], vm := .none },
  { cls := 8, slots := #[.int (-12)], vm := .none },
  { cls := 8, slots := #[.int (-11)], vm := .none },
  { cls := 8, slots := #[.int (-10)], vm := .none },
  { cls := 8, slots := #[.int (-9)], vm := .none },
  { cls := 8, slots := #[.int (-8)], vm := .none },
  { cls := 8, slots := #[.int (-7)], vm := .none },
  { cls := 8, slots := #[.int (-6)], vm := .none },
  { cls := 8, slots := #[.int (-5)], vm := .none },
  { cls := 8, slots := #[.int (-4)], vm := .none },
  { cls := 8, slots := #[.int (-3)], vm := .none },
  { cls := 8, slots := #[.int (-2)], vm := .none },
  { cls := 8, slots := #[.int (-1)], vm := .none },
  { cls := 8, slots := #[.int (0)], vm := .none },
  { cls := 8, slots := #[.int (1)], vm := .none },
  { cls := 8, slots := #[.int (2)], vm := .none },
  { cls := 8, slots := #[.int (3)], vm := .none },
  { cls := 8, slots := #[.int (4)], vm := .none },
  { cls := 8, slots := #[.int (5)], vm := .none },
  { cls := 8, slots := #[.int (6)], vm := .none },
  { cls := 8, slots := #[.int (7)], vm := .none },
  { cls := 8, slots := #[.int (8)], vm := .none },
  { cls := 8, slots := #[.int (9)], vm := .none },
  { cls := 8, slots := #[.int (10)], vm := .none },
  { cls := 8, slots := #[.int (11)], vm := .none },
  { cls := 8, slots := #[.int (12)], vm := .none },
  { cls := 8, slots := #[.int (13)], vm := .none },
  { cls := 8, slots := #[.int (14)], vm := .none },
  { cls := 8, slots := #[.int (15)], vm := .none },
  { cls := 8, slots := #[.int (16)], vm := .none },
  { cls := 8, slots := #[.int (17)], vm := .none },
  { cls := 8, slots := #[.int (18)], vm := .none },
  { cls := 8, slots := #[.int (19)], vm := .none },
  { cls := 8, slots := #[.int (20)], vm := .none },
  { cls := 8, slots := #[.int (21)], vm := .none },
  { cls := 8, slots := #[.int (22)], vm := .none },
  { cls := 8, slots := #[.int (23)], vm := .none },
  { cls := 8, slots := #[.int (24)], vm := .none },
  { cls := 8, slots := #[.int (25)], vm := .none },
  { cls := 8, slots := #[.int (26)], vm := .none },
  { cls := 8, slots := #[.int (27)], vm := .none },
  { cls := 8, slots := #[.int (28)], vm := .none },
  { cls := 8, slots := #[.int (29)], vm := .none },
  { cls := 8, slots := #[.int (30)], vm := .none },
  { cls := 8, slots := #[.int (31)], vm := .none },
  { cls := 8, slots := #[.int (32)], vm := .none },
  { cls := 8, slots := #[.int (33)], vm := .none },
  { cls := 8, slots := #[.int (34)], vm := .none },
  { cls := 8, slots := #[.int (35)], vm := .none },
  { cls := 8, slots := #[.int (36)], vm := .none },
  { cls := 8, slots := #[.int (37)], vm := .none },
  { cls := 8, slots := #[.int (38)], vm := .none },
  { cls := 8, slots := #[.int (39)], vm := .none },
  { cls := 8, slots := #[.int (40)], vm := .none },
  { cls := 8, slots := #[.int (41)], vm := .none },
  { cls := 8, slots := #[.int (42)], vm := .none },
  { cls := 8, slots := #[.int (43)], vm := .none },
  { cls := 8, slots := #[.int (44)], vm := .none },
  { cls := 8, slots := #[.int (45)], vm := .none },
  { cls := 8, slots := #[.int (46)], vm := .none },
  { cls := 8, slots := #[.int (47)], vm := .none },
  { cls := 8, slots := #[.int (48)], vm := .none },
  { cls := 8, slots := #[.int (49)], vm := .none },
  { cls := 8, slots := #[.int (50)], vm := .none },
  { cls := 8, slots := #[.int (51)], vm := .none },
  { cls := 8, slots := #[.int (52)], vm := .none },
  { cls := 8, slots := #[.int (53)], vm := .none },
  { cls := 8, slots := #[.int (54)], vm := .none },
  { cls := 8, slots := #[.int (55)], vm := .none },
  { cls := 8, slots := #[.int (56)], vm := .none },
  { cls := 8, slots := #[.int (57)], vm := .none },
  { cls := 8, slots := #[.int (58)], vm := .none },
  { cls := 8, slots := #[.int (59)], vm := .none },
  { cls := 8, slots := #[.int (60)], vm := .none },
  { cls := 8, slots := #[.int (61)], vm := .none },
  { cls := 8, slots := #[.int (62)], vm := .none },
  { cls := 8, slots := #[.int (63)], vm := .none },
  { cls := 8, slots := #[.int (64)], vm := .none },
  { cls := 8, slots := #[.int (65)], vm := .none },
  { cls := 8, slots := #[.int (66)], vm := .none },
  { cls := 8, slots := #[.int (67)], vm := .none },
  { cls := 8, slots := #[.int (68)], vm := .none },
  { cls := 8, slots := #[.int (69)], vm := .none },
  { cls := 8, slots := #[.int (70)], vm := .none },
  { cls := 8, slots := #[.int (71)], vm := .none },
  { cls := 8, slots := #[.int (72)], vm := .none },
  { cls := 8, slots := #[.int (73)], vm := .none },
  { cls := 8, slots := #[.int (74)], vm := .none },
  { cls := 8, slots := #[.int (75)], vm := .none },
  { cls := 8, slots := #[.int (76)], vm := .none },
  { cls := 8, slots := #[.int (77)], vm := .none },
  { cls := 8, slots := #[.int (78)], vm := .none },
  { cls := 8, slots := #[.int (79)], vm := .none },
  { cls := 8, slots := #[.int (80)], vm := .none },
  { cls := 8, slots := #[.int (81)], vm := .none },
  { cls := 8, slots := #[.int (82)], vm := .none },
  { cls := 8, slots := #[.int (83)], vm := .none },
  { cls := 8, slots := #[.int (84)], vm := .none },
  { cls := 8, slots := #[.int (85)], vm := .none },
  { cls := 8, slots := #[.int (86)], vm := .none },
  { cls := 8, slots := #[.int (87)], vm := .none },
  { cls := 8, slots := #[.int (88)], vm := .none },
  { cls := 8, slots := #[.int (89)], vm := .none },
  { cls := 8, slots := #[.int (90)], vm := .none },
  { cls := 8, slots := #[.int (91)], vm := .none },
  { cls := 8, slots := #[.int (92)], vm := .none },
  { cls := 8, slots := #[.int (93)], vm := .none },
  { cls := 8, slots := #[.int (94)], vm := .none },
  { cls := 8, slots := #[.int (95)], vm := .none },
  { cls := 8, slots := #[.int (96)], vm := .none },
  { cls := 8, slots := #[.int (97)], vm := .none },
  { cls := 8, slots := #[.int (98)], vm := .none },
  { cls := 8, slots := #[.int (99)], vm := .none },
  { cls := 8, slots := #[.int (100)], vm := .none },
  { cls := 8, slots := #[.int (101)], vm := .none },
  { cls := 8, slots := #[.int (102)], vm := .none },
  { cls := 8, slots := #[.int (103)], vm := .none },
  { cls := 8, slots := #[.int (104)], vm := .none },
  { cls := 8, slots := #[.int (105)], vm := .none },
  { cls := 8, slots := #[.int (106)], vm := .none },
  { cls := 8, slots := #[.int (107)], vm := .none },
  { cls := 8, slots := #[.int (108)], vm := .none },
  { cls := 8, slots := #[.int (109)], vm := .none },
  { cls := 8, slots := #[.int (110)], vm := .none },
  { cls := 8, slots := #[.int (111)], vm := .none },
  { cls := 8, slots := #[.int (112)], vm := .none },
  { cls := 8, slots := #[.int (113)], vm := .none },
  { cls := 8, slots := #[.int (114)], vm := .none },
  { cls := 8, slots := #[.int (115)], vm := .none },
  { cls := 8, slots := #[.int (116)], vm := .none },
  { cls := 8, slots := #[.int (117)], vm := .none },
  { cls := 8, slots := #[.int (118)], vm := .none },
  { cls := 8, slots := #[.int (119)], vm := .none },
  { cls := 8, slots := #[.int (120)], vm := .none },
  { cls := 8, slots := #[.int (121)], vm := .none },
  { cls := 8, slots := #[.int (122)], vm := .none },
  { cls := 8, slots := #[.int (123)], vm := .none },
  { cls := 8, slots := #[.int (124)], vm := .none },
  { cls := 8, slots := #[.int (125)], vm := .none },
  { cls := 8, slots := #[.int (126)], vm := .none },
  { cls := 8, slots := #[.int (127)], vm := .none }]
def classes : Array Class := #[k0, k1, k2, k3, k4, k5, k6, k7, k8, k9, k10, k11, k12, k13, k14, k15, k16, k17, k18, k19, k20]
def interned : List (Array UInt16 × Addr) := []
def slotsUsed : Nat := 517
def theMethod : MethodId := ⟨1, 1⟩
def args0 : Array Value := #[.int 5, .int 7, .int 9, .int 3, .int 2, .int 1]
def aboutOver (below : List Frame) : State where
  vm := { classes := classes, interned := interned.toArray }
  heap := heap
  slotsUsed := slotsUsed
  threads := #[{ frames := .invoking theMethod args0 :: below }]
def below0 : List Frame := [.native { method := ⟨0, 0⟩, args := #[] }]
def about1 : State := aboutOver below0
def p0 : Program := .bare "" "" ""
def e0 : Env := launch0.env 0 0 0
theorem w_frames : about1.frames = Frame.invoking theMethod args0 :: below0 := rfl
set_option maxRecDepth 65536 in
theorem w_args : argsFit about1.vm theMethod args0 = true := by decide +kernel
set_option maxRecDepth 65536 in
theorem w_heap : heapFits about1 = true := by decide +kernel
set_option maxRecDepth 65536 in
theorem w_runnable : about1.curStatus? = some .runnable := by decide +kernel
set_option maxRecDepth 65536 in
theorem w_alone : about1.alone = true := by decide +kernel
set_option maxRecDepth 65536 in
theorem w_named : about1.methodNamed? x = some theMethod := by decide +kernel
set_option maxRecDepth 65536 in
theorem w_hears : about1.hears theMethod below0 = true := by decide +kernel
set_option maxRecDepth 65536 in
theorem w_ripe : about1.ripe theMethod args0 below0 = true := by decide +kernel
theorem w_running : about1.status = .running := rfl
set_option maxRecDepth 65536 in
theorem w_room : about1.hasRoom e0.platform room_1 = true :=
  launch0.hasRoom_least _ room_1 (by decide +kernel) (by decide +kernel) (by decide +kernel) (by decide +kernel) (by decide +kernel) (by decide +kernel)
theorem allAtoms_all (ts : List Jvm.Cond) (a : Array Jvm.Value) (st : Jvm.State) : (allAtoms ts).before a st = ts.all (fun c => c.before a st) := by
  induction ts with
  | nil => rfl
  | cons c t ih =>
    show (Jvm.Cond.and c (allAtoms t)).before a st = _
    rw [Jvm.Cond.before_and, ih, List.all_cons]
def words1 : List Jvm.Cond := Jvm.Cond.code x code maxLocals ret :: tables_1
/-- a 'code' word, met by the world's own term for the bytes: nothing is compared byte by byte -/
theorem code_word {y : MethodName} {bytes : ByteArray} {mx : Nat} {rt : Option FieldType} {a : Array Value} {s : State} {m : MethodId} {meth : Method} {c : Code} (h1 : s.methodNamed? y = some m) (h2 : s.vm.method? m = some meth) (h3 : meth.code = some c) (h4 : c.code = bytes)
    (h5 : (c.maxLocals == mx && c.exceptionTable.isEmpty && decide (c.maxStack ≤ mostOperands) && decide (meth.sig.returnType = rt) && !meth.locks && decide (parseMethodDescriptor y.desc = some meth.sig)) = true) : (Jvm.Cond.code y bytes mx rt).before a s = true := by
  simp only [Bool.and_eq_true, beq_iff_eq, Bool.not_eq_true', decide_eq_true_eq] at h5
  obtain ⟨⟨⟨⟨⟨g1, g2⟩, g3⟩, g4⟩, g5⟩, g6⟩ := h5
  simp [Cond.before, Cond.holds, Cond.value, h1, h2, h3, h4, g1, g2, g3, g4, g5, g6]
def isCode : Jvm.Cond → Bool
  | .code _ _ _ _ => true
  | _ => false
theorem all_split {L : List Jvm.Cond} {P : Jvm.Cond → Bool} (h1 : L.all (fun c => isCode c || P c) = true) (h2 : ∀ c ∈ L.filter isCode, P c = true) : L.all P = true := by
  refine List.all_eq_true.mpr fun c hc => ?_
  have h := List.all_eq_true.mp h1 c hc
  rcases Bool.eq_false_or_eq_true (isCode c) with hi | hi
  · exact h2 c (List.mem_filter.mpr ⟨hc, hi⟩)
  · simpa [hi] using h
set_option maxRecDepth 65536 in
theorem w_c0 : (Jvm.Cond.code x code maxLocals ret).before args0 about1 = true := code_word (m := ⟨1, 1⟩) (meth := k1m1) (c := k1c1) (by decide +kernel) rfl rfl rfl (by decide +kernel)
set_option maxRecDepth 65536 in
theorem w_c1 : (Jvm.Cond.code ({ cls := "java/lang/Integer", name := "valueOf", desc := "(I)Ljava/lang/Integer;" } : Jvm.MethodName) jdk_33_method_22_code (1 : Nat) (Option.some (Jvm.ClassFile.FieldType.object "java/lang/Integer"))).before args0 about1 = true := code_word (m := ⟨8, 0⟩) (meth := k8m0) (c := k8c0) (by decide +kernel) rfl rfl rfl (by decide +kernel)
set_option maxRecDepth 65536 in
theorem w_c2 : (Jvm.Cond.code ({ cls := "com/example/tercet/tercet/core/Pages", name := "<init>", desc := "(Ljava/lang/Object;II)V" } : Jvm.MethodName) prog_34_method_1_code (4 : Nat) (Option.none : Option Jvm.ClassFile.FieldType)).before args0 about1 = true := code_word (m := ⟨2, 0⟩) (meth := k2m0) (c := k2c0) (by decide +kernel) rfl rfl rfl (by decide +kernel)
set_option maxRecDepth 65536 in
theorem w_c3 : (Jvm.Cond.code ({ cls := "java/lang/Object", name := "<init>", desc := "()V" } : Jvm.MethodName) object_method_1_code (1 : Nat) (Option.none : Option Jvm.ClassFile.FieldType)).before args0 about1 = true := code_word (m := ⟨0, 0⟩) (meth := k0m0) (c := k0c0) (by decide +kernel) rfl rfl rfl (by decide +kernel)
set_option maxRecDepth 65536 in
theorem w_c4 : (Jvm.Cond.code ({ cls := "com/example/tercet/tercet/core/Pages", name := "turn", desc := "(ILjava/lang/Object;)V" } : Jvm.MethodName) prog_34_method_4_code (3 : Nat) (Option.none : Option Jvm.ClassFile.FieldType)).before args0 about1 = true := code_word (m := ⟨2, 1⟩) (meth := k2m1) (c := k2c1) (by decide +kernel) rfl rfl rfl (by decide +kernel)
set_option maxRecDepth 65536 in
theorem w_c5 : (Jvm.Cond.code ({ cls := "java/util/Arrays", name := "copyOf", desc := "([Ljava/lang/Object;I)[Ljava/lang/Object;" } : Jvm.MethodName) jdk_65_method_119_code (2 : Nat) (Option.some (Jvm.ClassFile.FieldType.array (Jvm.ClassFile.FieldType.object "java/lang/Object")))).before args0 about1 = true := code_word (m := ⟨10, 1⟩) (meth := k10m1) (c := k10c1) (by decide +kernel) rfl rfl rfl (by decide +kernel)
set_option maxRecDepth 65536 in
theorem w_c6 : (Jvm.Cond.code ({ cls := "java/util/Arrays", name := "copyOf", desc := "([Ljava/lang/Object;ILjava/lang/Class;)[Ljava/lang/Object;" } : Jvm.MethodName) jdk_65_method_120_code (4 : Nat) (Option.some (Jvm.ClassFile.FieldType.array (Jvm.ClassFile.FieldType.object "java/lang/Object")))).before args0 about1 = true := code_word (m := ⟨10, 2⟩) (meth := k10m2) (c := k10c2) (by decide +kernel) rfl rfl rfl (by decide +kernel)
set_option maxRecDepth 65536 in
theorem w_c7 : (Jvm.Cond.code ({ cls := "java/lang/Math", name := "min", desc := "(II)I" } : Jvm.MethodName) jdk_29_method_69_code (2 : Nat) (Option.some Jvm.ClassFile.FieldType.int)).before args0 about1 = true := code_word (m := ⟨11, 1⟩) (meth := k11m1) (c := k11c1) (by decide +kernel) rfl rfl rfl (by decide +kernel)
set_option maxRecDepth 65536 in
theorem w_c8 : (Jvm.Cond.code ({ cls := "java/util/Arrays", name := "copyOf", desc := "([II)[I" } : Jvm.MethodName) jdk_65_method_123_code (3 : Nat) (Option.some (Jvm.ClassFile.FieldType.array Jvm.ClassFile.FieldType.int))).before args0 about1 = true := code_word (m := ⟨10, 3⟩) (meth := k10m3) (c := k10c3) (by decide +kernel) rfl rfl rfl (by decide +kernel)
set_option maxRecDepth 65536 in
theorem w_c9 : (Jvm.Cond.code ({ cls := "com/example/tercet/tercet/core/Pages", name := "startsPage", desc := "(II)Z" } : Jvm.MethodName) prog_34_method_10_code (3 : Nat) (Option.some Jvm.ClassFile.FieldType.boolean)).before args0 about1 = true := code_word (m := ⟨2, 2⟩) (meth := k2m2) (c := k2c2) (by decide +kernel) rfl rfl rfl (by decide +kernel)
def codes1 : List Jvm.Cond := [Jvm.Cond.code x code maxLocals ret, Jvm.Cond.code ({ cls := "java/lang/Integer", name := "valueOf", desc := "(I)Ljava/lang/Integer;" } : Jvm.MethodName) jdk_33_method_22_code (1 : Nat) (Option.some (Jvm.ClassFile.FieldType.object "java/lang/Integer")), Jvm.Cond.code ({ cls := "com/example/tercet/tercet/core/Pages", name := "<init>", desc := "(Ljava/lang/Object;II)V" } : Jvm.MethodName) prog_34_method_1_code (4 : Nat) (Option.none : Option Jvm.ClassFile.FieldType), Jvm.Cond.code ({ cls := "java/lang/Object", name := "<init>", desc := "()V" } : Jvm.MethodName) object_method_1_code (1 : Nat) (Option.none : Option Jvm.ClassFile.FieldType), Jvm.Cond.code ({ cls := "com/example/tercet/tercet/core/Pages", name := "turn", desc := "(ILjava/lang/Object;)V" } : Jvm.MethodName) prog_34_method_4_code (3 : Nat) (Option.none : Option Jvm.ClassFile.FieldType), Jvm.Cond.code ({ cls := "java/util/Arrays", name := "copyOf", desc := "([Ljava/lang/Object;I)[Ljava/lang/Object;" } : Jvm.MethodName) jdk_65_method_119_code (2 : Nat) (Option.some (Jvm.ClassFile.FieldType.array (Jvm.ClassFile.FieldType.object "java/lang/Object"))), Jvm.Cond.code ({ cls := "java/util/Arrays", name := "copyOf", desc := "([Ljava/lang/Object;ILjava/lang/Class;)[Ljava/lang/Object;" } : Jvm.MethodName) jdk_65_method_120_code (4 : Nat) (Option.some (Jvm.ClassFile.FieldType.array (Jvm.ClassFile.FieldType.object "java/lang/Object"))), Jvm.Cond.code ({ cls := "java/lang/Math", name := "min", desc := "(II)I" } : Jvm.MethodName) jdk_29_method_69_code (2 : Nat) (Option.some Jvm.ClassFile.FieldType.int), Jvm.Cond.code ({ cls := "java/util/Arrays", name := "copyOf", desc := "([II)[I" } : Jvm.MethodName) jdk_65_method_123_code (3 : Nat) (Option.some (Jvm.ClassFile.FieldType.array Jvm.ClassFile.FieldType.int)), Jvm.Cond.code ({ cls := "com/example/tercet/tercet/core/Pages", name := "startsPage", desc := "(II)Z" } : Jvm.MethodName) prog_34_method_10_code (3 : Nat) (Option.some Jvm.ClassFile.FieldType.boolean)]
set_option maxRecDepth 65536 in
theorem codes_eq : words1.filter isCode = codes1 := rfl
theorem w_codes : ∀ c ∈ words1.filter isCode, c.before args0 about1 = true := by
  rw [codes_eq]
  intro c hc
  simp only [codes1, List.mem_cons, List.not_mem_nil, or_false] at hc
  rcases hc with rfl | rfl | rfl | rfl | rfl | rfl | rfl | rfl | rfl | rfl
  · exact w_c0
  · exact w_c1
  · exact w_c2
  · exact w_c3
  · exact w_c4
  · exact w_c5
  · exact w_c6
  · exact w_c7
  · exact w_c8
  · exact w_c9
set_option maxRecDepth 65536 in
theorem w_t1 : (words1.take 24).all (fun c => isCode c || c.before args0 about1) = true := by decide +kernel
set_option maxRecDepth 65536 in
theorem w_t2 : ((words1.drop 24).take 24).all (fun c => isCode c || c.before args0 about1) = true := by decide +kernel
set_option maxRecDepth 65536 in
theorem w_t3 : (((words1.drop 24).drop 24).take 24).all (fun c => isCode c || c.before args0 about1) = true := by decide +kernel
set_option maxRecDepth 65536 in
theorem w_t4 : (((words1.drop 24).drop 24).drop 24).all (fun c => isCode c || c.before args0 about1) = true := by decide +kernel
theorem w_tables : (allAtoms (Jvm.Cond.code x code maxLocals ret :: tables_1)).before args0 about1 = true := by
  rw [allAtoms_all]
  show words1.all (fun c => c.before args0 about1) = true
  refine all_split ?_ w_codes
  rw [← List.take_append_drop 24 words1, List.all_append, w_t1, ← List.take_append_drop 24 (words1.drop 24), List.all_append, w_t2, ← List.take_append_drop 24 ((words1.drop 24).drop 24), List.all_append, w_t3, w_t4]
  rfl
set_option maxRecDepth 65536 in
theorem w_rest : rest_1_c.before args0 about1 = true := by decide +kernel
set_option maxRecDepth 65536 in
theorem w_case : (Jvm.Cond.and given_1 narrow_1).before args0 about1 = true := by decide +kernel
theorem w_applies : (headSpec (Jvm.Cond.code x code maxLocals ret :: tables_1) room_1).applies x e0.platform about1 = true :=
  (Spec.applies_iff w_frames).mpr ⟨w_running, w_runnable, w_alone, w_named, w_hears, w_ripe, w_room, w_tables⟩
set_option maxRecDepth 65536 in
theorem atStart : AtStart classFile x code maxLocals ret World_1 tables_1 room_1 Calls_1 rest_1 Pre_1 launch0 p0 e0 about1 theMethod args0 below0 :=
  ⟨lists_1, trivial, launch0.admits_env _ _ _, launch0.least_env, fairChoices_fair.cas, fairChoices_fair.clock, w_frames, w_args, w_heap, w_applies, ⟨⟨20, k20, 1, by decide +kernel, rfl, rfl, _, rfl, rfl⟩, trivial⟩, w_rest, w_case⟩
end start1
theorem witness_1 : WitnessClaimed_1 := ⟨start1.p0, start1.e0, start1.about1, start1.theMethod, start1.args0, start1.below0, start1.atStart⟩
end Jvm.Pilot.@@N@@
