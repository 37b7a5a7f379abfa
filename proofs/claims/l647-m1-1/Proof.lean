import JvmDerived
import JvmDerived.Pilot.@@N@@Statement
import JvmDerived.Pilot.@@N@@Code
set_option linter.unusedVariables false
set_option linter.unusedSimpArgs false
namespace Jvm.Pilot.@@N@@
open Jvm Jvm.ClassFile Sem Op Lib Jvm.Free Jvm.Stand Jvm.LawKit Jvm.RoadKit Bundle Jvm.Pilot.@@N@@.Jvm.D
section OwnKit
variable {p : Program} {l : Launch} {e : Env} {R : Room} {s : State} {m : MethodId} {args : Array Value} {below : List Frame} {meth : Method} {c : Code} {T : State} {locs : List Loc} {cells slots : Nat}
theorem own_retI (X : Stand p l e R s m args below meth c T locs cells slots) (hx : p.tables.exec = Jvm.exec) {pc : Nat} {Ls : Array Slot} {z : Int32} {rest : List Value} (hret : meth.sig.returnType = some .int) (hd : decode c.code pc = .ok (.ireturn, 1)) {fs : List Frame}
    (hl : ∀ (f : JFrame) (acts : List Action), f.method = m → f.locked = none → f.entered = [] → (doReturn e (T.setTop f) acts (some (.int z))).1 = T.setFrames fs) : Steps p.tables e below (T.setTop (mkF m pc Ls (.int z :: rest))) (T.setFrames fs) := by
  have hm' : T.vm.method? m = some meth := X.method'
  have hn : narrow .int (.int z) = .int z := rfl
  show Steps p.tables e below (T.setTop { method := m, pc := pc, locals := Ls, stack := _ :: rest, locked := none }) _
  jvm_step X.here [X.here.top, hx, hd, hm', hret, hn]
  first | (intro acts; rw [hl _ acts rfl rfl rfl]) | rw [hl _ _ rfl rfl rfl]
  exact Steps.refl _
theorem own_retJ (X : Stand p l e R s m args below meth c T locs cells slots) (hx : p.tables.exec = Jvm.exec) {pc : Nat} {Ls : Array Slot} {z : Int64} {rest : List Value} (hret : meth.sig.returnType = some .long) (hd : decode c.code pc = .ok (.lreturn, 1)) {fs : List Frame}
    (hl : ∀ (f : JFrame) (acts : List Action), f.method = m → f.locked = none → f.entered = [] → (doReturn e (T.setTop f) acts (some (.long z))).1 = T.setFrames fs) : Steps p.tables e below (T.setTop (mkF m pc Ls (.long z :: rest))) (T.setFrames fs) := by
  have hm' : T.vm.method? m = some meth := X.method'
  have hn : narrow .long (.long z) = .long z := rfl
  show Steps p.tables e below (T.setTop { method := m, pc := pc, locals := Ls, stack := _ :: rest, locked := none }) _
  jvm_step X.here [X.here.top, hx, hd, hm', hret, hn]
  first | (intro acts; rw [hl _ acts rfl rfl rfl]) | rw [hl _ _ rfl rfl rfl]
  exact Steps.refl _
theorem own_retA (X : Stand p l e R s m args below meth c T locs cells slots) (hx : p.tables.exec = Jvm.exec) {pc : Nat} {Ls : Array Slot} {w : Value} {t : FieldType} {rest : List Value} (hret : meth.sig.returnType = some t) (ht : t.isReference = true) (hw : w.isRef = true) (hd : decode c.code pc = .ok (.areturn, 1)) {fs : List Frame}
    (hl : ∀ (f : JFrame) (acts : List Action), f.method = m → f.locked = none → f.entered = [] → (doReturn e (T.setTop f) acts (some w)).1 = T.setFrames fs) : Steps p.tables e below (T.setTop (mkF m pc Ls (w :: rest))) (T.setFrames fs) :=
  retOut X hx hret (by cases t <;> first | (cases ht; done) | (cases w <;> first | rfl | (cases hw; done))) (Or.inr (Or.inr (Or.inr (Or.inr ⟨rfl, ht, hw⟩)))) hd hl
/-- the run from S ends, returned, as Q says -/
def OwnR (p : Program) (e : Env) (below : List Frame) (s : State) (Q : Option Value → Heap → List Loc → Prop) (kc ks : Nat) (S : State) : Prop :=
  ∃ s₂ o, Steps p.tables e below S s₂ ∧ s₂.status = .running ∧ Ended s₂ below o ∧ ∃ v L, o = .returned v ∧ Q v s₂.heap L ∧ FrameEnd s o s₂ L kc ks
theorem OwnR.of {Q : Option Value → Heap → List Loc → Prop} {kc ks : Nat} {S S' : State} (k : ∀ t, Steps p.tables e below S' t → Steps p.tables e below S t) (h : OwnR p e below s Q kc ks S') : OwnR p e below s Q kc ks S := by
  obtain ⟨a, o, h1, h2⟩ := h
  exact ⟨a, o, k a h1, h2⟩
theorem own_leafI (X : Stand p l e R s m args below meth c T locs cells slots) (hx : p.tables.exec = Jvm.exec) (hlk : meth.locks = false) (hret : meth.sig.returnType = some .int) {Q : Option Value → Heap → List Loc → Prop} {kc ks pc : Nat} {Ls : Array Slot} {z : Int32} {rest : List Value} (hd : decode c.code pc = .ok (.ireturn, 1)) (hk : cells ≤ kc) (hs : slots ≤ ks) (hQ : Q (some (.int z)) T.heap locs) :
    OwnR p e below s Q kc ks (T.setTop (mkF m pc Ls (.int z :: rest))) := by
  obtain ⟨fs, hr, hrun, hended, hW, hsame⟩ := X.leave (v := some (.int z)) (fun h => by rw [hret] at h; cases h) hlk
  exact ⟨_, _, own_retI X hx hret hd hr, hrun, hended, _, _, rfl, hQ, ⟨_, rfl⟩, hW, hsame.mono hk hs⟩
theorem own_leafN (X : Stand p l e R s m args below meth c T locs cells slots) (hx : p.tables.exec = Jvm.exec) (hlk : meth.locks = false) {t : FieldType} (hret : meth.sig.returnType = some t) (ht : t = .boolean ∨ t = .byte ∨ t = .char ∨ t = .short) {Q : Option Value → Heap → List Loc → Prop} {kc ks pc : Nat} {Ls : Array Slot} {z z' : Int32} {rest : List Value} (hd : decode c.code pc = .ok (.ireturn, 1)) (hz : nar t z = z') (hk : cells ≤ kc) (hs : slots ≤ ks) (hQ : Q (some (.int z')) T.heap locs) :
    OwnR p e below s Q kc ks (T.setTop (mkF m pc Ls (.int z :: rest))) := by
  subst hz
  obtain ⟨fs, hr, hrun, hended, hW, hsame⟩ := X.leave (v := some (.int (nar t z))) (fun h => by rw [hret] at h; cases h) hlk
  exact ⟨_, _, retN X hx hret ht hd hr, hrun, hended, _, _, rfl, hQ, ⟨_, rfl⟩, hW, hsame.mono hk hs⟩
theorem own_leafJ (X : Stand p l e R s m args below meth c T locs cells slots) (hx : p.tables.exec = Jvm.exec) (hlk : meth.locks = false) (hret : meth.sig.returnType = some .long) {Q : Option Value → Heap → List Loc → Prop} {kc ks pc : Nat} {Ls : Array Slot} {z : Int64} {rest : List Value} (hd : decode c.code pc = .ok (.lreturn, 1)) (hk : cells ≤ kc) (hs : slots ≤ ks) (hQ : Q (some (.long z)) T.heap locs) :
    OwnR p e below s Q kc ks (T.setTop (mkF m pc Ls (.long z :: rest))) := by
  obtain ⟨fs, hr, hrun, hended, hW, hsame⟩ := X.leave (v := some (.long z)) (fun h => by rw [hret] at h; cases h) hlk
  exact ⟨_, _, own_retJ X hx hret hd hr, hrun, hended, _, _, rfl, hQ, ⟨_, rfl⟩, hW, hsame.mono hk hs⟩
theorem own_leafA (X : Stand p l e R s m args below meth c T locs cells slots) (hx : p.tables.exec = Jvm.exec) (hlk : meth.locks = false) {t : FieldType} (hret : meth.sig.returnType = some t) (ht : t.isReference = true) {Q : Option Value → Heap → List Loc → Prop} {kc ks pc : Nat} {Ls : Array Slot} {w : Value} (hw : w.isRef = true) {rest : List Value} (hd : decode c.code pc = .ok (.areturn, 1)) (hk : cells ≤ kc) (hs : slots ≤ ks) (hQ : Q (some w) T.heap locs) :
    OwnR p e below s Q kc ks (T.setTop (mkF m pc Ls (w :: rest))) := by
  obtain ⟨fs, hr, hrun, hended, hW, hsame⟩ := X.leave (v := some w) (fun h => by rw [hret] at h; cases h) hlk
  exact ⟨_, _, own_retA X hx hret ht hw hd hr, hrun, hended, _, _, rfl, hQ, ⟨_, rfl⟩, hW, hsame.mono hk hs⟩
theorem own_leafD (X : Stand p l e R s m args below meth c T locs cells slots) (hx : p.tables.exec = Jvm.exec) (hlk : meth.locks = false) (hret : meth.sig.returnType = some .double) {Q : Option Value → Heap → List Loc → Prop} {kc ks pc : Nat} {Ls : Array Slot} {z : UInt64} {rest : List Value} (hd : decode c.code pc = .ok (.dreturn, 1)) (hk : cells ≤ kc) (hs : slots ≤ ks) (hQ : Q (some (.double z)) T.heap locs) :
    OwnR p e below s Q kc ks (T.setTop (mkF m pc Ls (.double z :: rest))) := by
  obtain ⟨fs, hr, hrun, hended, hW, hsame⟩ := X.leave (v := some (.double z)) (fun h => by rw [hret] at h; cases h) hlk
  exact ⟨_, _, retOut X hx hret rfl (Or.inr (Or.inr (Or.inl ⟨rfl, rfl, z, rfl⟩))) hd hr, hrun, hended, _, _, rfl, hQ, ⟨_, rfl⟩, hW, hsame.mono hk hs⟩
theorem own_leafV (X : Stand p l e R s m args below meth c T locs cells slots) (hx : p.tables.exec = Jvm.exec) (hlk : meth.locks = false) (hret : meth.sig.returnType = none) {Q : Option Value → Heap → List Loc → Prop} {kc ks pc : Nat} {Ls : Array Slot} (hd : decode c.code pc = .ok (.return_, 1)) (hk : cells ≤ kc) (hs : slots ≤ ks) (hQ : Q none T.heap locs) :
    OwnR p e below s Q kc ks (T.setTop (mkF m pc Ls [])) := by
  obtain ⟨fs, hr, hrun, hended, hW, hsame⟩ := X.leave (v := none) (fun _ => rfl) hlk
  exact ⟨_, _, X.returnOut hx hret hd hr, hrun, hended, _, _, rfl, hQ, ⟨_, rfl⟩, hW, hsame.mono hk hs⟩
theorem own_sta {Z : State} {h h' : Heap} {C n d : String} {v : Value} (F : Sta Z h C n d v) (K : Keep h h' []) : Sta Z h' C n d v := by
  obtain ⟨cf, i, k, f, st, cell, h1, h2, h3, h4, h5, r⟩ := F
  exact ⟨cf, i, k, f, st, cell, h1, h2, h3, h4, K.2.1 _ _ h5 nin0, r⟩
theorem own_arr {Z : State} {h h' : Heap} {a : Addr} {c : Cell} {ty : FieldType} {ws : List Addr} (A : Arr Z h a c ty) (K : Keep h h' ws) (q : a ∉ ws) : Arr Z h' a c ty := ⟨K.2.1 _ _ A.1 q, A.2⟩
theorem own_lclt (a b : Int64) : lcmpW a b < 0 ↔ a < b := by
  obtain ⟨h1, h2, h3⟩ := c_lcmp a b
  have e1 := @Int64.lt_iff_toInt_lt a b
  have e2 := @Int32.lt_iff_toInt_lt (lcmpW a b) 0
  have e0 : (0 : Int32).toInt = 0 := by decide
  rw [e1, e2, e0]; omega
theorem own_lcgt (a b : Int64) : 0 < lcmpW a b ↔ b < a := by
  obtain ⟨h1, h2, h3⟩ := c_lcmp a b
  have e1 := @Int64.lt_iff_toInt_lt b a
  have e2 := @Int32.lt_iff_toInt_lt 0 (lcmpW a b)
  have e0 : (0 : Int32).toInt = 0 := by decide
  rw [e1, e2, e0]; omega
theorem own_lceq (a b : Int64) : lcmpW a b = 0 ↔ a = b := by
  obtain ⟨h1, h2, h3⟩ := c_lcmp a b
  have e0 : (0 : Int32).toInt = 0 := by decide
  rw [← Int64.toInt_inj, ← Int32.toInt_inj, e0]; omega
end OwnKit
theorem own_mod (x y : Int32) (hy : 0 < y.toInt) : 0 ≤ ((x &&& 2147483647) % y).toInt ∧ ((x &&& 2147483647) % y).toInt < y.toInt := by
  have h := (c_and x 2147483647 (by decide)).1
  have q := (c_iremV (x &&& 2147483647) y).1 h hy
  exact ⟨q.1, q.2.1⟩
theorem own_eqi {args : Array Value} {Z : State} {t : Jvm.Term} {k : Int32} (h : (Jvm.Cond.eq t (Jvm.Term.int k)).value args Z none Z [] = some true) : t.eval args Z none [] Z = some (.int k) := by
  cases ht : t.eval args Z none [] Z with
  | none => simp [Jvm.Cond.value, ht] at h
  | some v => cases v <;> simp [Jvm.Cond.value, ht, Jvm.Term.eval] at h ⊢ <;> first | exact h | exact h.symm
theorem own_eql {args : Array Value} {Z : State} {t : Jvm.Term} {k : Int64} (h : (Jvm.Cond.eq t (Jvm.Term.long k)).value args Z none Z [] = some true) : t.eval args Z none [] Z = some (.long k) := by
  cases ht : t.eval args Z none [] Z with
  | none => simp [Jvm.Cond.value, ht] at h
  | some v => cases v <;> simp [Jvm.Cond.value, ht, Jvm.Term.eval] at h ⊢ <;> first | exact h | exact h.symm
/-- a row of the relation is a mask below 8 -/
def own_els (m : Nat) : List Nat := (List.range 3).filter fun j => m.testBit j
def own_inc (pl : List Int32) (x : Nat) : List Int32 := pl.set x (pl.getD x 0 + 1)
def own_dec (pl : List Int32) (x : Nat) : List Int32 := pl.set x (pl.getD x 0 - 1)
def own_f1 (M : Nat → Nat) : List Nat → List Int32 → List Int32
  | [], pl => pl
  | el :: xs, pl => own_f1 M xs ((own_els (M el)).foldl own_inc pl)
def own_put (o : List Nat) (r x : Nat) : Option (List Nat × Nat) := if r < o.length then some (o.set r x, r + 1) else none
def own_f2 (pl : List Int32) : List Nat → List Nat → Nat → Option (List Nat × Nat)
  | [], o, r => some (o, r)
  | el :: xs, o, r => if pl.getD el 0 = 0 then (match own_put o r el with | some (o', r') => own_f2 pl xs o' r' | none => none) else own_f2 pl xs o r
def own_in3 : List Nat → List Int32 → List Nat → Nat → Option (List Int32 × List Nat × Nat)
  | [], pl, o, r => some (pl, o, r)
  | x :: xs, pl, o, r => if (own_dec pl x).getD x 0 = 0 then (match own_put o r x with | some (o', r') => own_in3 xs (own_dec pl x) o' r' | none => none) else own_in3 xs (own_dec pl x) o r
def own_out3 (M : Nat → Nat) : Nat → Nat → List Int32 → List Nat → Nat → Option (List Int32 × List Nat × Nat)
  | 0, _, _, _, _ => none
  | f + 1, next, pl, o, r => if next < r then (if next < o.length ∧ o.getD next 0 < o.length then (match own_in3 (own_els (M (o.getD next 0))) pl o r with | some (pl', o', r') => own_out3 M f (next + 1) pl' o' r' | none => none) else none) else some (pl, o, r)
def own_f4 (pl : List Int32) : List Nat → List Nat → Nat → Option (List Nat × Nat)
  | [], o, r => some (o, r)
  | el :: xs, o, r => if 0 < pl.getD el 0 then (match own_put o r el with | some (o', r') => own_f4 pl xs o' r' | none => none) else own_f4 pl xs o r
def own_topo (n : Nat) (M : Nat → Nat) : Option (List Nat) :=
  let pl := own_f1 M (List.range n) (List.replicate n 0)
  match own_f2 pl (List.range n) (List.replicate n 0) 0 with
  | none => none
  | some (o, r) => match own_out3 M 5 0 pl o r with
    | none => none
    | some (pl, o, r) => match own_f4 pl (List.range n) o r with
      | none => none
      | some (o, _) => some o
def own_bi (b : Bool) : Int32 := if b then 1 else 0
theorem own_bi0 (b : Bool) : (own_bi b = 0) = (b = false) := by cases b <;> simp [own_bi]
/-- the value at a place of the order -/
def own_at (r : List Nat) (k : Nat) : Int32 := Int32.ofNat (r.getD k 0)
def own_pos (n : Nat) (r : List Nat) (v : Nat) : Int32 := if 0 < n ∧ own_at r 0 = Int32.ofNat v then 0 else if 1 < n ∧ own_at r 1 = Int32.ofNat v then 1 else if 2 < n ∧ own_at r 2 = Int32.ofNat v then 2 else -1
def own_e (M : Nat → Nat) (i j : Nat) : Bool := (M i).testBit j
def own_path2 (M : Nat → Nat) (i j : Nat) : Bool := (own_e M i 0 && own_e M 0 j) || (own_e M i 1 && own_e M 1 j) || (own_e M i 2 && own_e M 2 j)
def own_path3 (M : Nat → Nat) (i j : Nat) : Bool := (own_path2 M i 0 && own_e M 0 j) || (own_path2 M i 1 && own_e M 1 j) || (own_path2 M i 2 && own_e M 2 j)
def own_reach1 (M : Nat → Nat) (i j : Nat) : Bool := own_e M i j || own_path2 M i j || own_path3 M i j
def own_fromC (M : Nat → Nat) (c x : Nat) : Bool := own_reach1 M c c && (c == x || own_reach1 M c x)
def own_inB (M : Nat → Nat) (x : Nat) : Bool := own_fromC M 0 x || own_fromC M 1 x || own_fromC M 2 x
def own_pairOk (M : Nat → Nat) (r : List Nat) (n i j : Nat) : Bool :=
  if n ≤ i ∨ n ≤ j then true
  else if !own_inB M i && own_inB M j then decide (own_pos n r i < own_pos n r j)
  else if own_inB M i && own_inB M j && decide (i < j) then decide (own_pos n r i < own_pos n r j)
  else if !own_inB M i && !own_inB M j && own_e M i j then decide (own_pos n r i < own_pos n r j)
  else true
def own_check (n : Nat) (M : Nat → Nat) : Bool := match own_topo n M with
  | none => false
  | some r => (r.length == n) && decide (0 ≤ own_pos n r 0) && (decide (n ≤ 1) || decide (0 ≤ own_pos n r 1)) && (decide (n ≤ 2) || decide (0 ≤ own_pos n r 2)) &&
    own_pairOk M r n 0 1 && own_pairOk M r n 1 0 && own_pairOk M r n 0 2 && own_pairOk M r n 2 0 && own_pairOk M r n 1 2 && own_pairOk M r n 2 1
def own_M (a b c : Nat) : Nat → Nat
  | 0 => a
  | 1 => b
  | 2 => c
  | _ => 0
theorem own_all1 : (List.range 2).all (fun a => own_check 1 (own_M a 0 0)) = true := by decide +kernel
theorem own_all2 : (List.range 4).all (fun a => (List.range 4).all fun b => own_check 2 (own_M a b 0)) = true := by decide +kernel
theorem own_all3 : (List.range 8).all (fun a => (List.range 8).all fun b => (List.range 8).all fun c => own_check 3 (own_M a b c)) = true := by decide +kernel

def own_sz (m : Nat) : Nat := (own_els m).length
def own_cnt (m t : Nat) : Nat := ((own_els m).filter (· < t)).length
/-- what Arrays.binarySearch answers on the row of the mask m -/
def own_bs (m t : Nat) : Int32 := if m.testBit t then Int32.ofNat (own_cnt m t) else -(Int32.ofNat (own_cnt m t) + 1)
def own_or (m t : Nat) : Nat := m ||| (1 <<< t)
def own_upd (M : Nat → Nat) (i t : Nat) : Nat → Nat := fun x => if x = i then own_or (M i) t else M x
def own_max (a b : Int64) : Int64 := if a < b then b else a
def own_min (a b : Int64) : Int64 := if b < a then b else a
def own_imin (a b : Int32) : Int32 := if b < a then b else a
def own_ins (m t j : Nat) : Nat := if j = own_cnt m t then t else if own_cnt m t + 1 ≤ j ∧ j < own_cnt m t + 1 + (own_sz m - own_cnt m t) then (own_els m).getD (j - 1) 0 else (own_els m).getD j 0
theorem own_bs_neg : ∀ m, m < 8 → ∀ t, t < 3 → m.testBit t = false → own_bs m t < 0 ∧ (-(own_bs m t)) - 1 = Int32.ofNat (own_cnt m t) ∧ own_cnt m t ≤ own_sz m ∧ own_sz (own_or m t) = own_sz m + 1 := by decide +kernel
theorem own_bs_pos : ∀ m, m < 8 → ∀ t, t < 3 → m.testBit t = true → ¬ own_bs m t < 0 ∧ own_or m t = m := by decide +kernel
theorem own_ins_eq : ∀ m, m < 8 → ∀ t, t < 3 → m.testBit t = false → ∀ j, j < 3 → own_ins m t j = (own_els (own_or m t)).getD j 0 := by decide +kernel
theorem own_sz_lt : ∀ n, n < 4 → ∀ m, m < 2 ^ n → ∀ t, t < n → m.testBit t = false → own_sz m < n := by decide +kernel
theorem own_or_lt : ∀ n, n < 4 → ∀ m, m < 2 ^ n → ∀ t, t < n → own_or m t < 2 ^ n := by decide +kernel
theorem own_el_lt : ∀ n, n < 4 → ∀ m, m < 2 ^ n → ∀ j, j < own_sz m → (own_els m).getD j 0 < n := by decide +kernel
theorem own_or_bit : ∀ m, m < 8 → ∀ t, t < 3 → ∀ j, j < 3 → (own_or m t).testBit j = (m.testBit j || j == t) := by decide +kernel
theorem own_sz3 : ∀ m, m < 8 → own_sz m < 4 := by decide +kernel
theorem own_cap : ∀ n, n < 4 → 0 < n → (own_min (own_max 4 0) (Int32.ofNat n).toInt64).toInt32 = Int32.ofNat n := by decide +kernel
theorem own_p8 {n m : Nat} (hn : n < 4) (h : m < 2 ^ n) : m < 8 := by
  have : 2 ^ n ≤ 2 ^ 3 := Nat.pow_le_pow_right (by decide) (by omega)
  omega
theorem own_subn : ∀ m, m < 8 → ∀ t, t < 3 → Int32.ofNat (own_sz m) - Int32.ofNat (own_cnt m t) = Int32.ofNat (own_sz m - own_cnt m t) ∨ own_sz m < own_cnt m t := by decide +kernel
theorem own_e_upd {M : Nat → Nat} {i t : Nat} (hm : M i < 8) (ht : t < 3) (i' j : Nat) (hj : j < 3) : own_e (own_upd M i t) i' j = if i' = i ∧ j = t then true else own_e M i' j := by
  unfold own_e own_upd
  by_cases e1 : i' = i
  · subst e1
    rw [if_pos rfl, own_or_bit _ hm _ ht _ hj]
    by_cases e2 : j = t
    · simp [e2]
    · simp [e2]
  · simp [e1]
theorem own_upd_same {M : Nat → Nat} {i t : Nat} (hm : M i < 8) (ht : t < 3) (hb : (M i).testBit t = true) : own_upd M i t = M := by
  funext x
  unfold own_upd
  by_cases e : x = i
  · subst e; simp [(own_bs_pos _ hm _ ht hb).2]
  · simp [e]
-- the loops
theorem own_drop {l : List Nat} {j : Nat} (h : j < l.length) : l.drop j = l.getD j 0 :: l.drop (j + 1) := by
  rw [List.drop_eq_getElem_cons h]
  simp [List.getD_eq_getElem?_getD, h]
theorem own_incL (q : List Int32) (x : Nat) : (own_inc q x).length = q.length := by simp [own_inc]
theorem own_decL (q : List Int32) (x : Nat) : (own_dec q x).length = q.length := by simp [own_dec]
theorem own_setD {q : List Int32} {x : Nat} {v : Int32} (hx : x < q.length) (i : Nat) : (q.set x v).getD i 0 = if i = x then v else q.getD i 0 := by
  by_cases e : i = x
  · subst e; simp [List.getD_eq_getElem?_getD, hx]
  · simp [List.getD_eq_getElem?_getD, List.getElem?_set_ne (Ne.symm e), e]
theorem own_setN {q : List Nat} {x v : Nat} (hx : x < q.length) (i : Nat) : (q.set x v).getD i 0 = if i = x then v else q.getD i 0 := by
  by_cases e : i = x
  · subst e; simp [List.getD_eq_getElem?_getD, hx]
  · simp [List.getD_eq_getElem?_getD, List.getElem?_set_ne (Ne.symm e), e]
theorem own_f1S {M : Nat → Nat} {i d : Nat} {pl P : List Int32} (h : own_f1 M (List.range' i (d + 1)) pl = P) : own_f1 M (List.range' (i + 1) d) ((own_els (M i)).foldl own_inc pl) = P := h
theorem own_foldS {l : List Nat} {j : Nat} {q Q : List Int32} (hj : j < l.length) (h : (l.drop j).foldl own_inc q = Q) : (l.drop (j + 1)).foldl own_inc (own_inc q (l.getD j 0)) = Q := by
  rw [own_drop hj] at h; exact h
theorem own_foldE {l : List Nat} {q Q : List Int32} (h : (l.drop l.length).foldl own_inc q = Q) : q = Q := by
  rw [List.drop_length] at h; exact h
theorem own_putS {o o' : List Nat} {r x r' : Nat} (h : own_put o r x = some (o', r')) : r < o.length ∧ o' = o.set r x ∧ r' = r + 1 := by
  unfold own_put at h
  by_cases q : r < o.length
  · rw [if_pos q] at h; cases h; exact ⟨q, rfl, rfl⟩
  · rw [if_neg q] at h; cases h
theorem own_f2Y {pl : List Int32} {i d r : Nat} {o : List Nat} {z : List Nat × Nat} (h : own_f2 pl (List.range' i (d + 1)) o r = some z) (q : pl.getD i 0 = 0) : r < o.length ∧ own_f2 pl (List.range' (i + 1) d) (o.set r i) (r + 1) = some z := by
  have h2 : own_f2 pl (i :: List.range' (i + 1) d) o r = some z := h
  unfold own_f2 at h2
  rw [if_pos q] at h2
  split at h2
  · rename_i e; obtain ⟨a, b, c⟩ := own_putS e; subst b; subst c; exact ⟨a, h2⟩
  · cases h2
theorem own_f2N {pl : List Int32} {i d r : Nat} {o : List Nat} {z : List Nat × Nat} (h : own_f2 pl (List.range' i (d + 1)) o r = some z) (q : ¬ pl.getD i 0 = 0) : own_f2 pl (List.range' (i + 1) d) o r = some z := by
  have h2 : own_f2 pl (i :: List.range' (i + 1) d) o r = some z := h
  unfold own_f2 at h2
  rw [if_neg q] at h2; exact h2
theorem own_f4Y {pl : List Int32} {i d r : Nat} {o : List Nat} {z : List Nat × Nat} (h : own_f4 pl (List.range' i (d + 1)) o r = some z) (q : 0 < pl.getD i 0) : r < o.length ∧ own_f4 pl (List.range' (i + 1) d) (o.set r i) (r + 1) = some z := by
  have h2 : own_f4 pl (i :: List.range' (i + 1) d) o r = some z := h
  unfold own_f4 at h2
  rw [if_pos q] at h2
  split at h2
  · rename_i e; obtain ⟨a, b, c⟩ := own_putS e; subst b; subst c; exact ⟨a, h2⟩
  · cases h2
theorem own_f4N {pl : List Int32} {i d r : Nat} {o : List Nat} {z : List Nat × Nat} (h : own_f4 pl (List.range' i (d + 1)) o r = some z) (q : ¬ 0 < pl.getD i 0) : own_f4 pl (List.range' (i + 1) d) o r = some z := by
  have h2 : own_f4 pl (i :: List.range' (i + 1) d) o r = some z := h
  unfold own_f4 at h2
  rw [if_neg q] at h2; exact h2
theorem own_in3Y {l : List Nat} {j r : Nat} {pl : List Int32} {o : List Nat} {z : List Int32 × List Nat × Nat} (hj : j < l.length) (h : own_in3 (l.drop j) pl o r = some z) (q : (own_dec pl (l.getD j 0)).getD (l.getD j 0) 0 = 0) : r < o.length ∧ own_in3 (l.drop (j + 1)) (own_dec pl (l.getD j 0)) (o.set r (l.getD j 0)) (r + 1) = some z := by
  rw [own_drop hj] at h
  unfold own_in3 at h
  rw [if_pos q] at h
  split at h
  · rename_i e; obtain ⟨a, b, c⟩ := own_putS e; subst b; subst c; exact ⟨a, h⟩
  · cases h
theorem own_in3N {l : List Nat} {j r : Nat} {pl : List Int32} {o : List Nat} {z : List Int32 × List Nat × Nat} (hj : j < l.length) (h : own_in3 (l.drop j) pl o r = some z) (q : ¬ (own_dec pl (l.getD j 0)).getD (l.getD j 0) 0 = 0) : own_in3 (l.drop (j + 1)) (own_dec pl (l.getD j 0)) o r = some z := by
  rw [own_drop hj] at h
  unfold own_in3 at h
  rw [if_neg q] at h; exact h
theorem own_in3E {l : List Nat} {r : Nat} {pl : List Int32} {o : List Nat} {z : List Int32 × List Nat × Nat} (h : own_in3 (l.drop l.length) pl o r = some z) : z = (pl, o, r) := by
  rw [List.drop_length] at h; unfold own_in3 at h; cases h; rfl
theorem own_out3Y {M : Nat → Nat} {f nx r : Nat} {pl : List Int32} {o : List Nat} {z : List Int32 × List Nat × Nat} (h : own_out3 M (f + 1) nx pl o r = some z) (q : nx < r) : nx < o.length ∧ o.getD nx 0 < o.length ∧ ∃ P' O' r', own_in3 ((own_els (M (o.getD nx 0))).drop 0) pl o r = some (P', O', r') ∧ own_out3 M f (nx + 1) P' O' r' = some z := by
  unfold own_out3 at h
  rw [if_pos q] at h
  split at h
  · rename_i w
    split at h
    · rename_i e; exact ⟨w.1, w.2, _, _, _, e, h⟩
    · cases h
  · cases h
theorem own_out3N {M : Nat → Nat} {f nx r : Nat} {pl : List Int32} {o : List Nat} {z : List Int32 × List Nat × Nat} (h : own_out3 M (f + 1) nx pl o r = some z) (q : ¬ nx < r) : z = (pl, o, r) := by
  unfold own_out3 at h
  rw [if_neg q] at h; cases h; rfl
theorem own_topoS {n : Nat} {M : Nat → Nat} {res : List Nat} (h : own_topo n M = some res) : ∃ P O2 r2 P3 O3 r3 r4, own_f1 M (List.range' 0 n) (List.replicate n 0) = P ∧ own_f2 P (List.range' 0 n) (List.replicate n 0) 0 = some (O2, r2) ∧ own_out3 M 5 0 P O2 r2 = some (P3, O3, r3) ∧ own_f4 P3 (List.range' 0 n) O3 r3 = some (res, r4) := by
  unfold own_topo at h
  rw [← List.range_eq_range']
  dsimp only at h
  split at h
  · cases h
  · rename_i o r e2
    split at h
    · cases h
    · rename_i pl o' r' e3
      split at h
      · cases h
      · rename_i o4 r4 e4
        cases h
        exact ⟨_, _, _, _, _, _, _, rfl, e2, e3, e4⟩
theorem own_M_eq {M : Nat → Nat} (h : ∀ i, 3 ≤ i → M i = 0) : M = own_M (M 0) (M 1) (M 2) := by
  funext x
  match x with
  | 0 => rfl
  | 1 => rfl
  | 2 => rfl
  | k + 3 => exact h _ (by omega)
theorem own_ok1 {M : Nat → Nat} (h : ∀ i, M i < 2 ^ 1) (z : ∀ i, 1 ≤ i → M i = 0) : own_check 1 M = true := by
  rw [own_M_eq fun i hi => z i (by omega), z 1 (by decide), z 2 (by decide)]
  exact List.all_eq_true.mp own_all1 _ (List.mem_range.mpr (h 0))
theorem own_ok2 {M : Nat → Nat} (h : ∀ i, M i < 2 ^ 2) (z : ∀ i, 2 ≤ i → M i = 0) : own_check 2 M = true := by
  rw [own_M_eq fun i hi => z i (by omega), z 2 (by decide)]
  exact List.all_eq_true.mp (List.all_eq_true.mp own_all2 _ (List.mem_range.mpr (h 0))) _ (List.mem_range.mpr (h 1))
theorem own_ok3 {M : Nat → Nat} (h : ∀ i, M i < 2 ^ 3) (z : ∀ i, 3 ≤ i → M i = 0) : own_check 3 M = true := by
  rw [own_M_eq fun i hi => z i (by omega)]
  exact List.all_eq_true.mp (List.all_eq_true.mp (List.all_eq_true.mp own_all3 _ (List.mem_range.mpr (h 0))) _ (List.mem_range.mpr (h 1))) _ (List.mem_range.mpr (h 2))
/-- what the check says -/
theorem own_checkS {n : Nat} {M : Nat → Nat} (h : own_check n M = true) : ∃ r, own_topo n M = some r ∧ ¬ own_pos n r 0 < 0 ∧ (1 < n → ¬ own_pos n r 1 < 0) ∧ (2 < n → ¬ own_pos n r 2 < 0) ∧
    own_pairOk M r n 0 1 = true ∧ own_pairOk M r n 1 0 = true ∧ own_pairOk M r n 0 2 = true ∧ own_pairOk M r n 2 0 = true ∧ own_pairOk M r n 1 2 = true ∧ own_pairOk M r n 2 1 = true := by
  unfold own_check at h
  split at h
  · cases h
  · rename_i r e
    simp only [Bool.and_eq_true, Bool.or_eq_true, decide_eq_true_eq] at h
    obtain ⟨⟨⟨⟨⟨⟨⟨⟨⟨h0, h1⟩, h2⟩, h3⟩, h4⟩, h5⟩, h6⟩, h7⟩, h8⟩, h9⟩ := h
    exact ⟨r, e, Int32.not_lt.mpr h1, fun q => Int32.not_lt.mpr (h2.resolve_left (by omega)), fun q => Int32.not_lt.mpr (h3.resolve_left (by omega)), h4, h5, h6, h7, h8, h9⟩
/-- an index of the mask's kind: a remainder by n -/
theorem own_remn {n : Nat} (hn : 0 < n) (hn4 : n < 4) (x : Int32) (h : 0 ≤ x) : ∃ k, k < n ∧ x % Int32.ofNat n = Int32.ofNat k := by
  have e : (Int32.ofNat n).toInt = n := Int32.toInt_ofNat_of_lt (by simp; omega)
  have h' : 0 ≤ x.toInt := by simpa using Int32.le_iff_toInt_le.mp h
  have e2 : (x % Int32.ofNat n).toInt = x.toInt.tmod n := by rw [Int32.toInt_mod, e]
  have e3 : x.toInt.tmod n = x.toInt % n := Int.tmod_eq_emod_of_nonneg h'
  have b1 : 0 ≤ x.toInt % n := Int.emod_nonneg _ (by omega)
  have b2 : x.toInt % n < n := Int.emod_lt_of_pos _ (by omega)
  refine ⟨(x.toInt % n).toNat, by omega, ?_⟩
  rw [← Int32.toInt_inj, e2, e3, Int32.toInt_ofNat_of_lt (by simp; omega)]
  omega
theorem own_and_nn (x y : Int32) (h : y.toBitVec.msb = false) : 0 ≤ x &&& y := by
  rw [Int32.le_iff_toInt_le]
  have e : (x &&& y).toBitVec = x.toBitVec &&& y.toBitVec := rfl
  have m : (x &&& y).toBitVec.msb = false := by rw [e, BitVec.msb_and, h, Bool.and_false]
  show (0 : Int32).toInt ≤ (x &&& y).toBitVec.toInt
  rw [BitVec.toInt_eq_toNat_of_msb m]
  show (0 : Int) ≤ _
  omega
theorem own_fromto {n : Nat} (hn : 0 < n) (hn4 : n < 4) (x : Int32) : ∃ k, k < n ∧ (x &&& (255 : Int32)) % Int32.ofNat n = Int32.ofNat k := own_remn hn hn4 _ (own_and_nn _ _ (by decide))
theorem own_three (x : Int32) : ((1 : Int32) + ((x &&& (2147483647 : Int32)) % (3 : Int32))) = 1 ∨ ((1 : Int32) + ((x &&& (2147483647 : Int32)) % (3 : Int32))) = 2 ∨ ((1 : Int32) + ((x &&& (2147483647 : Int32)) % (3 : Int32))) = 3 := by
  obtain ⟨k, hk, e⟩ := own_remn (n := 3) (by decide) (by decide) (x &&& (2147483647 : Int32)) (own_and_nn _ _ (by decide))
  have e' : (x &&& (2147483647 : Int32)) % (3 : Int32) = Int32.ofNat k := e
  rw [e']
  match k, hk with
  | 0, _ => exact Or.inl rfl
  | 1, _ => exact Or.inr (Or.inl rfl)
  | 2, _ => exact Or.inr (Or.inr rfl)
theorem own_m8 {m : Nat} (h : m < 8) : m = 0 ∨ m = 1 ∨ m = 2 ∨ m = 3 ∨ m = 4 ∨ m = 5 ∨ m = 6 ∨ m = 7 := by omega
theorem own_t3 {t : Nat} (h : t < 3) : t = 0 ∨ t = 1 ∨ t = 2 := by omega
theorem own_splice {α : Type} (f : Nat → α) (d : α) {n i ct j : Nat} (hb : i + 1 + ct ≤ n) (hj : j < n) : (((List.range n).map f).take (i + 1) ++ (List.range ct).map (fun x => f (i + x)) ++ ((List.range n).map f).drop (i + 1 + ct)).getD j d = if i + 1 ≤ j ∧ j < i + 1 + ct then f (j - 1) else f j := by
  rw [List.getD_eq_getElem?_getD]
  have l1 : (((List.range n).map f).take (i + 1)).length = i + 1 := by simp; omega
  have l2 : ((List.range ct).map (fun x => f (i + x))).length = ct := by simp
  by_cases c1 : j < i + 1
  · rw [if_neg (by omega), List.append_assoc, List.getElem?_append_left (by omega), List.getElem?_take_of_lt c1]
    simp [hj]
  · by_cases c2 : j < i + 1 + ct
    · rw [if_pos ⟨by omega, c2⟩, List.append_assoc, List.getElem?_append_right (by omega), l1, List.getElem?_append_left (by omega)]
      have : j - (i + 1) < ct := by omega
      simp [this]
      congr 1; omega
    · rw [if_neg (by omega), List.getElem?_append_right (by rw [List.length_append]; omega), List.length_append, l1, l2, List.getElem?_drop]
      have : i + 1 + ct + (j - (i + 1 + ct)) = j := by omega
      rw [this]; simp [hj]
theorem own_rep {α : Type} (n : Nat) (v : α) (i : Nat) : (List.replicate n v).getD i v = v := by
  rw [List.getD_eq_getElem?_getD, List.getElem?_replicate]; split <;> rfl
/-- the loop of Arrays.binarySearch0 -/
def own_bsl (mk ti : Nat) : Nat → Nat → Nat → Int32
  | 0, _, _ => 0
  | f + 1, lo, up => if lo < up then (if (own_els mk).getD ((lo + up - 1) / 2) 0 < ti then own_bsl mk ti f ((lo + up - 1) / 2 + 1) up else if ti < (own_els mk).getD ((lo + up - 1) / 2) 0 then own_bsl mk ti f lo ((lo + up - 1) / 2) else Int32.ofNat ((lo + up - 1) / 2)) else -(Int32.ofNat lo + 1)
theorem own_bsl_eq : ∀ mk, mk < 8 → ∀ ti, ti < 3 → own_bsl mk ti 4 0 (own_sz mk) = own_bs mk ti := by decide +kernel
theorem own_b1 : ∀ up, up < 4 → ∀ lo, lo < up → ¬ (Int32.ofNat up - (1 : Int32) < Int32.ofNat lo) := by decide +kernel
theorem own_b2 : ∀ up, up < 4 → ∀ lo, lo < 4 → ¬ lo < up → Int32.ofNat up - (1 : Int32) < Int32.ofNat lo := by decide +kernel
theorem own_b3 : ∀ up, up < 4 → ∀ lo, lo < up → (((Int32.ofNat lo) + ((Int32.ofNat up) - (1 : Int32))).toUInt32 >>> ((1 : Int32) &&& 31).toUInt32).toInt32 = Int32.ofNat ((lo + up - 1) / 2) := by decide +kernel
theorem own_el3 : ∀ m, m < 8 → ∀ j, j < 4 → (own_els m).getD j 0 < 3 := by decide +kernel
theorem own_mid {lo up : Nat} (h : lo < up) (hu : up < 4) : (lo + up - 1) / 2 < up ∧ (lo + up - 1) / 2 < 4 := by omega
theorem own_mu1 {lo up f : Nat} (h : lo < up) (hf : up - lo < f + 1) : up - ((lo + up - 1) / 2 + 1) < f ∧ (lo + up - 1) / 2 - lo < f ∧ (lo + up - 1) / 2 + 1 ≤ up := by omega
theorem own_bslL {mk ti f lo up : Nat} {R : Int32} (h : own_bsl mk ti (f + 1) lo up = R) (q : lo < up) (v : (own_els mk).getD ((lo + up - 1) / 2) 0 < ti) : own_bsl mk ti f ((lo + up - 1) / 2 + 1) up = R := by
  unfold own_bsl at h; rw [if_pos q, if_pos v] at h; exact h
theorem own_bslG {mk ti f lo up : Nat} {R : Int32} (h : own_bsl mk ti (f + 1) lo up = R) (q : lo < up) (v : ¬ (own_els mk).getD ((lo + up - 1) / 2) 0 < ti) (w : ti < (own_els mk).getD ((lo + up - 1) / 2) 0) : own_bsl mk ti f lo ((lo + up - 1) / 2) = R := by
  unfold own_bsl at h; rw [if_pos q, if_neg v, if_pos w] at h; exact h
theorem own_bslE {mk ti f lo up : Nat} {R : Int32} (h : own_bsl mk ti (f + 1) lo up = R) (q : lo < up) (v : ¬ (own_els mk).getD ((lo + up - 1) / 2) 0 < ti) (w : ¬ ti < (own_els mk).getD ((lo + up - 1) / 2) 0) : Int32.ofNat ((lo + up - 1) / 2) = R := by
  unfold own_bsl at h; rw [if_pos q, if_neg v, if_neg w] at h; exact h
theorem own_bslN {mk ti f lo up : Nat} {R : Int32} (h : own_bsl mk ti (f + 1) lo up = R) (q : ¬ lo < up) : -(Int32.ofNat lo + (1 : Int32)) = R := by
  unfold own_bsl at h; rw [if_neg q] at h; exact h

/-- an array by a function of its places -/
def OwnF (Z : State) (h : Heap) (a : Addr) (k : ClassId) (ty : FieldType) (n : Nat) (f : Nat → Value) : Prop := ∃ c : Cell, Arr Z h a c ty ∧ c.cls = k ∧ c.slots.size = n ∧ ∀ i, i < n → c.slots[i]? = some (f i)
section OwnArrays
variable {Z : State} {h h' : Heap} {a b : Addr} {k : ClassId} {ty : FieldType} {n : Nat} {f : Nat → Value}
theorem OwnF.lt (F : OwnF Z h a k ty n f) : a < h.size := by obtain ⟨c, A, -⟩ := F; exact A.lt
theorem OwnF.ext (F : OwnF Z h a k ty n f) (E : Ext h h') : OwnF Z h' a k ty n f := by obtain ⟨c, A, r⟩ := F; exact ⟨c, A.ext E, r⟩
theorem OwnF.other {sl : Nat} {v : Value} (F : OwnF Z h a k ty n f) (W : Wr h h' b sl v) (q : a ≠ b) : OwnF Z h' a k ty n f := by obtain ⟨c, A, r⟩ := F; exact ⟨c, A.other W q, r⟩
theorem OwnF.set {j : Nat} {v : Value} (F : OwnF Z h a k ty n f) (W : Wr h h' a j v) : OwnF Z h' a k ty n (fun i => if i = j then v else f i) := by
  obtain ⟨c, A, q1, q2, q3⟩ := F
  refine ⟨c.setSlot j v, A.same W, q1, by rw [sz_set]; exact q2, fun i hi => ?_⟩
  have e : (c.setSlot j v).slots = c.slots.setIfInBounds j v := rfl
  by_cases e1 : i = j
  · subst e1
    simp only [e, if_true]
    rw [Array.getElem?_setIfInBounds_self_of_lt (by omega)]
  · simp only [e, e1, if_false]
    rw [Array.getElem?_setIfInBounds_ne (Ne.symm e1)]
    exact q3 i hi
theorem OwnF.new {z : Int32} (A : Arr Z h a (newA k ty z) ty) (hz : z.toNatClampNeg = n) : OwnF Z h a k ty n (fun _ => defaultValue ty) :=
  ⟨_, A, rfl, by rw [sz_new, hz], fun i hi => by simp [newA, hz, hi]⟩
theorem OwnF.congr {f' : Nat → Value} (F : OwnF Z h a k ty n f) (q : ∀ i, i < n → f i = f' i) : OwnF Z h a k ty n f' := by
  obtain ⟨c, A, q1, q2, q3⟩ := F
  exact ⟨c, A, q1, q2, fun i hi => by rw [q3 i hi, q i hi]⟩
end OwnArrays
section OwnArraySteps
variable {p : Program} {l : Launch} {e : Env} {R : Room} {s : State} {m : MethodId} {args : Array Value} {below : List Frame} {meth : Method} {c : Code} {T : State} {locs : List Loc} {cells slots : Nat} {Z : State} {h : Heap} {a : Addr} {k : ClassId} {n : Nat} {f : Nat → Value}
theorem own_in {cl : Cell} {j : Int32} {jn : Nat} (hs : cl.slots.size = n) (hj : j.toNatClampNeg = jn) (h0 : ¬ j < 0) (hn : jn < n) : ¬ (j < 0 ∨ cl.slots.size ≤ j.toNatClampNeg) := by
  intro q; rcases q with q | q
  · exact h0 q
  · omega
theorem own_laload (X : Stand p l e R s m args below meth c T locs cells slots) (hx : p.tables.exec = Jvm.exec) (hZ : Z.Warmed39 s.vm) (eT : T.heap = h) (F : OwnF Z h a k .long n f) {j : Int32} {jn : Nat} (hj : j.toNatClampNeg = jn) (h0 : ¬ j < 0) (hn : jn < n) {v : Value} (hv : f jn = v)
    {g : JFrame} (hg : g.method = m) {rest : List Value} (hs : g.stack = .int j :: .ref a :: rest) (hd : decode c.code g.pc = .ok (.laload, 1)) (target : State)
    (hr : Steps p.tables e below (T.setTop { g with pc := g.pc + 1, stack := v :: rest }) target) : Steps p.tables e below (T.setTop g) target := by
  obtain ⟨cl, A, q1, q2, q3⟩ := F
  exact X.laload hx (by rw [eT]; exact A.1) (State.isArrayOf_alike hZ.alike A.2.1) A.2.2 (own_in q2 hj h0 hn) (by rw [hj, q3 jn hn, hv]) hg hs hd target hr
theorem own_aaload {ty : FieldType} (hty : ty.isReference = true) (X : Stand p l e R s m args below meth c T locs cells slots) (hx : p.tables.exec = Jvm.exec) (hZ : Z.Warmed39 s.vm) (eT : T.heap = h) (F : OwnF Z h a k ty n f) {j : Int32} {jn : Nat} (hj : j.toNatClampNeg = jn) (h0 : ¬ j < 0) (hn : jn < n) {v : Value} (hv : f jn = v)
    {g : JFrame} (hg : g.method = m) {rest : List Value} (hs : g.stack = .int j :: .ref a :: rest) (hd : decode c.code g.pc = .ok (.aaload, 1)) (target : State)
    (hr : Steps p.tables e below (T.setTop { g with pc := g.pc + 1, stack := v :: rest }) target) : Steps p.tables e below (T.setTop g) target := by
  obtain ⟨cl, A, q1, q2, q3⟩ := F
  exact X.aaload hx (by rw [eT]; exact A.1) (State.isArrayOf_alike hZ.alike A.2.1) hty A.2.2 (own_in q2 hj h0 hn) (by rw [hj, q3 jn hn, hv]) hg hs hd target hr
theorem own_alen {ty : FieldType} (X : Stand p l e R s m args below meth c T locs cells slots) (hx : p.tables.exec = Jvm.exec) (hZ : Z.Warmed39 s.vm) (eT : T.heap = h) (F : OwnF Z h a k ty n f) {z : Int32} (hz : z.toNatClampNeg = n) (h0 : ¬ z < 0)
    {g : JFrame} (hg : g.method = m) {rest : List Value} (hs : g.stack = .ref a :: rest) (hd : decode c.code g.pc = .ok (.arraylength, 1)) (target : State)
    (hr : Steps p.tables e below (T.setTop { g with pc := g.pc + 1, stack := .int z :: rest }) target) : Steps p.tables e below (T.setTop g) target := by
  obtain ⟨cl, A, q1, q2, q3⟩ := F
  exact X.arraylength hx (by rw [eT]; exact A.1) (State.isArrayOf_alike hZ.alike A.2.1) hg hs hd target (by rw [len_of (q2.trans hz.symm) h0]; exact hr)
theorem own_lastore (X : Stand p l e R s m args below meth c T locs cells slots) (hx : p.tables.exec = Jvm.exec) (hZ : Z.Warmed39 s.vm) (eT : T.heap = h) (F : OwnF Z h a k .long n f) {j : Int32} {x : Int64} {jn : Nat} (hj : j.toNatClampNeg = jn) (h0 : ¬ j < 0) (hn : jn < n)
    {g : JFrame} (hg : g.method = m) {rest : List Value} (hs : g.stack = .long x :: .int j :: .ref a :: rest) (hd : decode c.code g.pc = .ok (.lastore, 1)) :
    ∃ T' h', Stand p l e R s m args below meth c T' (locs ++ [⟨a, jn⟩]) cells slots ∧ T'.heap = h' ∧ Wr h h' a jn (.long x) ∧ ∀ target, Steps p.tables e below (T'.setTop { g with pc := g.pc + 1, stack := rest }) target → Steps p.tables e below (T.setTop g) target := by
  obtain ⟨cl, A, q1, q2, q3⟩ := F
  subst hj
  exact stJ X hx hZ eT A (own_in q2 rfl h0 hn) hg hs hd
theorem own_aastore {ty : FieldType} (hty : ty.isReference = true) (X : Stand p l e R s m args below meth c T locs cells slots) (hx : p.tables.exec = Jvm.exec) (hZ : Z.Warmed39 s.vm) (eT : T.heap = h) (F : OwnF Z h a k ty n f) {j : Int32} {jn : Nat} (hj : j.toNatClampNeg = jn) (h0 : ¬ j < 0) (hn : jn < n) {y : Addr} {t0 : FieldType} {C : String} (O : OvrA Z k t0 C) (I : Ins Z h y C true)
    {g : JFrame} (hg : g.method = m) {rest : List Value} (hs : g.stack = .ref y :: .int j :: .ref a :: rest) (hd : decode c.code g.pc = .ok (.aastore, 1)) :
    ∃ T' h', Stand p l e R s m args below meth c T' (locs ++ [⟨a, jn⟩]) cells slots ∧ T'.heap = h' ∧ Wr h h' a jn (.ref y) ∧ ∀ target, Steps p.tables e below (T'.setTop { g with pc := g.pc + 1, stack := rest }) target → Steps p.tables e below (T.setTop g) target := by
  obtain ⟨cl, A, q1, q2, q3⟩ := F
  subst hj
  exact stR X hx hZ eT A (own_in q2 rfl h0 hn) hty (Sto.ofVA A q1 O I) hg hs hd
end OwnArraySteps
section OwnArraySteps2
variable {p : Program} {l : Launch} {e : Env} {R : Room} {s : State} {m : MethodId} {args : Array Value} {below : List Frame} {meth : Method} {c : Code} {T : State} {locs : List Loc} {cells slots : Nat} {Z : State} {h : Heap} {a : Addr} {k : ClassId} {n : Nat} {f : Nat → Value}
theorem own_iaload (X : Stand p l e R s m args below meth c T locs cells slots) (hx : p.tables.exec = Jvm.exec) (hZ : Z.Warmed39 s.vm) (eT : T.heap = h) (F : OwnF Z h a k .int n f) {j : Int32} {jn : Nat} (hj : j.toNatClampNeg = jn) (h0 : ¬ j < 0) (hn : jn < n) {v : Value} (hv : f jn = v)
    {g : JFrame} (hg : g.method = m) {rest : List Value} (hs : g.stack = .int j :: .ref a :: rest) (hd : decode c.code g.pc = .ok (.iaload, 1)) (target : State)
    (hr : Steps p.tables e below (T.setTop { g with pc := g.pc + 1, stack := v :: rest }) target) : Steps p.tables e below (T.setTop g) target := by
  obtain ⟨cl, A, q1, q2, q3⟩ := F
  exact X.iaload hx (by rw [eT]; exact A.1) (State.isArrayOf_alike hZ.alike A.2.1) A.2.2 (own_in q2 hj h0 hn) (by rw [hj, q3 jn hn, hv]) hg hs hd target hr
theorem own_zaload (X : Stand p l e R s m args below meth c T locs cells slots) (hx : p.tables.exec = Jvm.exec) (hZ : Z.Warmed39 s.vm) (eT : T.heap = h) (F : OwnF Z h a k .boolean n f) {j : Int32} {jn : Nat} (hj : j.toNatClampNeg = jn) (h0 : ¬ j < 0) (hn : jn < n) {v : Value} (hv : f jn = v)
    {g : JFrame} (hg : g.method = m) {rest : List Value} (hs : g.stack = .int j :: .ref a :: rest) (hd : decode c.code g.pc = .ok (.baload, 1)) (target : State)
    (hr : Steps p.tables e below (T.setTop { g with pc := g.pc + 1, stack := v :: rest }) target) : Steps p.tables e below (T.setTop g) target := by
  obtain ⟨cl, A, q1, q2, q3⟩ := F
  exact X.baloadBooleans hx (by rw [eT]; exact A.1) (State.isArrayOf_alike hZ.alike A.2.1) A.2.2 (own_in q2 hj h0 hn) (by rw [hj, q3 jn hn, hv]) hg hs hd target hr
theorem own_iastore (X : Stand p l e R s m args below meth c T locs cells slots) (hx : p.tables.exec = Jvm.exec) (hZ : Z.Warmed39 s.vm) (eT : T.heap = h) (F : OwnF Z h a k .int n f) {j x : Int32} {jn : Nat} (hj : j.toNatClampNeg = jn) (h0 : ¬ j < 0) (hn : jn < n)
    {g : JFrame} (hg : g.method = m) {rest : List Value} (hs : g.stack = .int x :: .int j :: .ref a :: rest) (hd : decode c.code g.pc = .ok (.iastore, 1)) :
    ∃ T' h', Stand p l e R s m args below meth c T' (locs ++ [⟨a, jn⟩]) cells slots ∧ T'.heap = h' ∧ Wr h h' a jn (.int x) ∧ ∀ target, Steps p.tables e below (T'.setTop { g with pc := g.pc + 1, stack := rest }) target → Steps p.tables e below (T.setTop g) target := by
  obtain ⟨cl, A, q1, q2, q3⟩ := F
  subst hj
  exact stI X hx hZ eT A (own_in q2 rfl h0 hn) hg hs hd
theorem own_zastore (X : Stand p l e R s m args below meth c T locs cells slots) (hx : p.tables.exec = Jvm.exec) (hZ : Z.Warmed39 s.vm) (eT : T.heap = h) (F : OwnF Z h a k .boolean n f) {j x : Int32} {jn : Nat} (hj : j.toNatClampNeg = jn) (h0 : ¬ j < 0) (hn : jn < n)
    {g : JFrame} (hg : g.method = m) {rest : List Value} (hs : g.stack = .int x :: .int j :: .ref a :: rest) (hd : decode c.code g.pc = .ok (.bastore, 1)) :
    ∃ T' h', Stand p l e R s m args below meth c T' (locs ++ [⟨a, jn⟩]) cells slots ∧ T'.heap = h' ∧ Wr h h' a jn (.int (nar .boolean x)) ∧ ∀ target, Steps p.tables e below (T'.setTop { g with pc := g.pc + 1, stack := rest }) target → Steps p.tables e below (T.setTop g) target := by
  obtain ⟨cl, A, q1, q2, q3⟩ := F
  subst hj
  exact stZ X hx hZ eT A (own_in q2 rfl h0 hn) hg hs hd
end OwnArraySteps2
/-- the matrix e: three rows of three booleans -/
def OwnE (Z : State) (h : Heap) (e : Addr) (kE : ClassId) (D : Nat → Addr) (kD : Nat → ClassId) (M : Nat → Nat) : Prop :=
  OwnF Z h e kE (.array .boolean) 3 (fun i => .ref (D i)) ∧ ∀ i, i < 3 → OwnF Z h (D i) (kD i) .boolean 3 (fun j => .int (own_bi (own_e M i j)))
theorem own_succ (n : Nat) : Int32.ofNat n + 1 = Int32.ofNat (n + 1) := by
  rw [Int32.ofNat_add]; rfl
theorem own_clamp {n : Nat} (h : n < 2147483648) : (Int32.ofNat n).toNatClampNeg = n := Int32.toNatClampNeg_ofNat_of_lt (by simpa using h)
theorem own_ofn {n : Nat} (h : n < 2147483648) : (Int32.ofNat n).toInt = n := Int32.toInt_ofNat_of_lt (by simpa using h)
theorem own_nneg {n : Nat} (h : n < 2147483648) : ¬ Int32.ofNat n < 0 := fun q => by
  have e := Int32.lt_iff_toInt_lt.mp q
  rw [own_ofn h, show (0 : Int32).toInt = 0 from rfl] at e; omega
theorem own_ltn {n k : Nat} (h : n < 2147483648) (hk : k < 2147483648) : (Int32.ofNat n < Int32.ofNat k) ↔ n < k := by
  rw [Int32.lt_iff_toInt_lt, own_ofn h, own_ofn hk]; omega
theorem own_eqn {n k : Nat} (h : n < 2147483648) (hk : k < 2147483648) : (Int32.ofNat n = Int32.ofNat k) ↔ n = k := by
  rw [← Int32.toInt_inj, own_ofn h, own_ofn hk]; omega
theorem own_c3 {n : Nat} (h : n < 3) : (Int32.ofNat n).toNatClampNeg = n := own_clamp (by omega)
theorem own_n3 {n : Nat} (h : n < 3) : ¬ Int32.ofNat n < 0 := own_nneg (by omega)

theorem own_cN {i n : Nat} (h : i < n) (hn : n < 4) : (Int32.ofNat i).toNatClampNeg = i := own_clamp (by omega)
theorem own_nN {i n : Nat} (h : i < n) (hn : n < 4) : ¬ Int32.ofNat i < 0 := own_nneg (by omega)
theorem own_c4 {n : Nat} (hn : n < 4) : (Int32.ofNat n).toNatClampNeg = n := own_clamp (by omega)
theorem own_n4 {n : Nat} (hn : n < 4) : ¬ Int32.ofNat n < 0 := own_nneg (by omega)
theorem own_cap3 {n : Nat} (hn : n < 4) : (Int32.ofNat n).toNatClampNeg ≤ 3 := by rw [own_c4 hn]; omega
theorem own_ge4 {a b : Nat} (h : b ≤ a) (ha : a < 4) : ¬ Int32.ofNat a < Int32.ofNat b := fun q => by have := (own_ltn (by omega) (by omega)).mp q; omega
theorem own_lt4 {a b : Nat} (h : a < b) (hb : b < 4) : Int32.ofNat a < Int32.ofNat b := (own_ltn (by omega) (by omega)).mpr h
theorem own_ne4 {a b : Nat} (h : a ≠ b) (ha : a < 4) (hb : b < 4) : ¬ Int32.ofNat a = Int32.ofNat b := fun q => h ((own_eqn (by omega) (by omega)).mp q)
theorem own_nz4 {n : Nat} (h : 0 < n) (hn : n < 4) : ¬ Int32.ofNat n = (0 : Int32) := own_ne4 (b := 0) (by omega) hn (by decide)
theorem own_lt3 {t n : Nat} (h : t < n) (hn : n < 4) : t < 3 := by omega
def own_rowv (m k : Nat) : Value := .int (Int32.ofNat ((own_els m).getD k 0))
theorem own_row0 (j : Nat) : own_rowv 0 j = .int 0 := by
  have : own_els 0 = [] := by decide
  unfold own_rowv; rw [this]; rfl
theorem own_ins_row {m t n : Nat} (hm : m < 8) (ht : t < 3) (hn : n < 4) (hb : m.testBit t = false) (j : Nat) (hj : j < n) : (if j = own_cnt m t then Value.int (Int32.ofNat t) else if own_cnt m t + 1 ≤ j ∧ j < own_cnt m t + 1 + (own_sz m - own_cnt m t) then own_rowv m (j - 1) else own_rowv m j) = own_rowv (own_or m t) j := by
  unfold own_rowv
  rw [← own_ins_eq m hm t ht hb j (by omega)]
  unfold own_ins
  split
  · rfl
  · split <;> rfl
theorem own_cb {a b n : Nat} (h : a ≤ b) (h2 : b < n) : a + 1 + (b - a) ≤ n := by omega
theorem own_cl {a b n : Nat} (h : a ≤ b) (h2 : b < n) : a < n := by omega
section OwnArrays2
variable {Z : State} {h h' : Heap} {a b : Addr} {k : ClassId} {ty : FieldType} {n : Nat} {f : Nat → Value} {ws : List Addr}
theorem OwnF.keep (F : OwnF Z h a k ty n f) (K : Keep h h' ws) (q : a ∉ ws) : OwnF Z h' a k ty n f := by
  obtain ⟨c, A, r⟩ := F; exact ⟨c, own_arr A K q, r⟩
theorem OwnF.ofArv {z : Int32} {vs : List Value} {dv : Value} (F : Arv Z h a k ty z vs dv) (hz : z.toNatClampNeg = n) : OwnF Z h a k ty n (fun i => vs.getD i dv) := by
  obtain ⟨c, A, q1, q2, q3, H, G⟩ := F
  exact ⟨c, A, q1, q2.trans hz, fun i hi => H i (by rw [q2, hz]; exact hi)⟩
theorem OwnF.arv (F : OwnF Z h a k .int n f) (hn : n < 2147483648) (hf : ∀ i, i < n → ∃ x, f i = .int x) : Arv Z h a k .int (Int32.ofNat n) ((List.range n).map f) (.int 0) := by
  obtain ⟨c, A, q1, q2, q3⟩ := F
  have e : ∀ i, i < n → ((List.range n).map f).getD i (.int 0) = f i := fun i hi => by simp [List.getD_eq_getElem?_getD, hi]
  refine ⟨c, A, q1, q2.trans (own_clamp hn).symm, own_nneg hn, fun i hi => ?_, fun i hi => ?_⟩
  · rw [q2] at hi; rw [e i hi]; exact q3 i hi
  · rw [q2] at hi; rw [e i hi]; obtain ⟨x, hx⟩ := hf i hi; rw [hx]; rfl
theorem OwnF.arv0 (F : OwnF Z h a k .int 0 f) : Arv Z h a k .int (0 : Int32) [] (.int (0 : Int32)) := F.arv (by decide) fun i hi => absurd hi (Nat.not_lt_zero _)
end OwnArrays2
section OwnCopy
variable {p : Program} {l : Launch} {e : Env} {R : Room} {s : State} {m : MethodId} {args : Array Value} {below : List Frame} {meth : Method} {c : Code} {T : State} {locs : List Loc} {cells slots : Nat} {Z : State} {h : Heap} {a : Addr} {k : ClassId} {n : Nat} {f : Nat → Value}
theorem own_copy (X : Stand p l e R s m args below meth c T locs cells slots) (hx : p.tables.exec = Jvm.exec) (hZ : Z.Warmed39 s.vm) {a0 : Array Value} {own : String} {index : Nat} (hown : s.vm.findClass own = some m.cls)
    (w1 : (Cond.methodLink own index Jvm.Stand.acN).before a0 Z = true) (w2 : (Cond.native Jvm.Stand.acN).before a0 Z = true) (w3 : (Cond.static Jvm.Stand.acN).before a0 Z = true) (w4 : (Cond.initialized "java/lang/System").before a0 Z = true) (eT : T.heap = h)
    (F : OwnF Z h a k .int n f) (hn : n < 4) (hf : ∀ i, i < n → ∃ x, f i = .int x) {i ct : Nat} (hb : i + 1 + ct ≤ n) {n0 : Nat} (N : Fr n0 locs) (ge : n0 ≤ a)
    {g : JFrame} (hg : g.method = m) (hsize : g.locals.size = c.maxLocals) {rest : List Value} (hs : g.stack = .int (Int32.ofNat ct) :: .int (Int32.ofNat (i + 1)) :: .ref a :: .int (Int32.ofNat i) :: .ref a :: rest) (hd : decode c.code g.pc = .ok (.invokestatic index, 3))
    (hfr : 1 ≤ R.frames) {W : Nat} (hW : 2 * g.monitorRoom + (rest.map fun v => v.category).sum ≤ W) (hlo : W + (nativeFrameWords "java/lang/System" "arraycopy" 5 + 11) ≤ R.locals) :
    ∃ T' h' L, Stand p l e R s m args below meth c T' L cells slots ∧ T'.heap = h' ∧ Fr n0 L ∧ Keep h h' [a] ∧ OwnF Z h' a k .int n (fun j => if i + 1 ≤ j ∧ j < i + 1 + ct then f (j - 1) else f j) ∧
      ∀ target, Steps p.tables e below (T'.setTop { g with pc := g.pc + 3, stack := rest }) target → Steps p.tables e below (T.setTop g) target := by
  have A := F.arv (by omega) hf
  have c1 : (Int32.ofNat i).toNatClampNeg = i := own_clamp (by omega)
  have c2 : (Int32.ofNat (i + 1)).toNatClampNeg = i + 1 := own_clamp (by omega)
  have c3 : (Int32.ofNat ct).toNatClampNeg = ct := own_clamp (by omega)
  have c4 : (Int32.ofNat n).toNatClampNeg = n := own_clamp (by omega)
  obtain ⟨T', h', L, X', e', N', K', V', st⟩ := cpA X hx hZ hown w1 w2 w3 w4 eT A A (Or.inl ⟨rfl, rfl⟩) (us := (List.range ct).map fun j => f (i + j)) (own_nneg (by omega)) (own_nneg (by omega)) (own_nneg (by omega)) (by rw [c1, c3, c4]; omega) (by rw [c2, c3, c4]; omega)
    (by rw [c1, c3]; exact List.map_congr_left fun j hj => by have := List.mem_range.mp hj; have q : i + j < n := by omega
                                                              simp [List.getD_eq_getElem?_getD, q]) (by rw [c2, c3]; simp; omega) N ge hg hsize hs hd hfr hW hlo
  refine ⟨T', h', L, X', e', N', K', (OwnF.ofArv V' c4).congr fun j hj => ?_, st⟩
  rw [c2, c3]
  exact own_splice f _ hb hj
end OwnCopy
/-- where the cells of a law stand: the start's empty row, the matrix, the relation and its arrays -/
def OwnO (n0 em ea : Nat) (D : Nat → Nat) (rel ro rz : Nat) : Prop := em < n0 ∧ n0 ≤ ea ∧ ea < rel ∧ (∀ i, i < 3 → ea < D i ∧ D i < rel) ∧ (∀ i j, i < 3 → j < 3 → D i = D j → i = j) ∧ rel < ro ∧ ro < rz
def OwnOr (n0 em rel ro rz : Nat) : Prop := em < n0 ∧ n0 ≤ rel ∧ rel < ro ∧ ro < rz
theorem OwnO.r {n0 em ea rel ro rz : Nat} {D : Nat → Nat} (O : OwnO n0 em ea D rel ro rz) : OwnOr n0 em rel ro rz := by
  obtain ⟨h1, h2, h3, -, -, h6, h7⟩ := O
  exact ⟨h1, by omega, h6, h7⟩
theorem own_nin1 {x a : Nat} (h : x ≠ a) : (x : Addr) ∉ ([a] : List Addr) := ninS h nin0
theorem own_nin4 {x a b c d : Nat} (h : x ≠ a ∧ x ≠ b ∧ x ≠ c ∧ x ≠ d) : (x : Addr) ∉ ([a, b, c, d] : List Addr) := ninS h.1 (ninS h.2.1 (ninS h.2.2.1 (ninS h.2.2.2 nin0)))
def own_bw (rz b : Nat) : Nat := if rz < b then b else rz
theorem own_bw_ge (rz b : Nat) : rz ≤ own_bw rz b := by
  unfold own_bw; split
  · omega
  · exact Nat.le_refl _
/-- the relation's arrays: rows at ro, their sizes at rz, row i at B i, its elements the mask M i -/
def OwnRel (Z : State) (h : Heap) (em ro rz : Nat) (kW kS : ClassId) (n : Nat) (M : Nat → Nat) (B : Nat → Nat) : Prop :=
  OwnF Z h ro kW (.array .int) n (fun i => .ref (B i)) ∧ OwnF Z h rz kS .int n (fun i => .int (Int32.ofNat (own_sz (M i)))) ∧
  (∀ i, i < n → ∃ kb Lb, OwnF Z h (B i) kb .int Lb (own_rowv (M i)) ∧ own_sz (M i) ≤ Lb ∧ ((B i = em ∧ Lb = 0 ∧ M i = 0) ∨ (Lb = n ∧ rz < B i))) ∧
  ∀ i j, i < n → j < n → rz < B i → B i = B j → i = j
section OwnRelation
variable {Z : State} {h h' : Heap} {em rel ro rz ea : Nat} {kW kS kE : ClassId} {n n0 : Nat} {M : Nat → Nat} {B : Nat → Nat} {D : Nat → Nat} {kD : Nat → ClassId} {ws : List Addr}
theorem OwnRel.keep (H : OwnRel Z h em ro rz kW kS n M B) (K : Keep h h' ws) (q1 : ro ∉ ws) (q2 : rz ∉ ws) (q3 : ∀ i, i < n → B i ∉ ws) : OwnRel Z h' em ro rz kW kS n M B := by
  obtain ⟨h1, h2, h3, h4⟩ := H
  refine ⟨h1.keep K q1, h2.keep K q2, fun i hi => ?_, h4⟩
  obtain ⟨kb, Lb, F, r⟩ := h3 i hi
  exact ⟨kb, Lb, F.keep K (q3 i hi), r⟩
theorem OwnRel.keep0 (H : OwnRel Z h em ro rz kW kS n M B) (K : Keep h h' []) : OwnRel Z h' em ro rz kW kS n M B := H.keep K nin0 nin0 fun _ _ => nin0
theorem OwnRel.row (H : OwnRel Z h em ro rz kW kS n M B) {i : Nat} (hi : i < n) : ∃ kb Lb, OwnF Z h (B i) kb .int Lb (own_rowv (M i)) ∧ own_sz (M i) ≤ Lb := by
  obtain ⟨kb, Lb, F, q, -⟩ := H.2.2.1 i hi; exact ⟨kb, Lb, F, q⟩
theorem OwnRel.start {f : Nat → Value} (FW : OwnF Z h ro kW (.array .int) n (fun _ => .ref em)) (FS : OwnF Z h rz kS .int n (fun _ => .int (0 : Int32))) (FE : OwnF Z h em kE .int 0 f) (q : ¬ rz < em) : OwnRel Z h em ro rz kW kS n (fun _ => 0) (fun _ => em) := by
  have z : own_sz 0 = 0 := by decide
  refine ⟨FW, FS.congr fun i _ => ?_, fun i _ => ⟨kE, 0, FE.congr fun i hi => absurd hi (Nat.not_lt_zero i), ?_, Or.inl ⟨rfl, rfl, rfl⟩⟩, fun _ _ _ _ r => absurd r q⟩
  · show Value.int 0 = Value.int (Int32.ofNat (own_sz 0)); rw [z]; rfl
  · show own_sz 0 ≤ 0; rw [z]; exact Nat.le_refl 0
theorem OwnRel.upd {fi ti bw b2 : Nat} {kb : ClassId} (H : OwnRel Z h em ro rz kW kS n M B) (O : OwnOr n0 em rel ro rz) (hf : fi < n) (K : Keep h h' [rel, ro, rz, bw]) (hbw : bw = own_bw rz (B fi))
    (FW : OwnF Z h' ro kW (.array .int) n (fun i => if i = fi then .ref b2 else .ref (B i)))
    (FS : OwnF Z h' rz kS .int n (fun i => if i = fi then .int (Int32.ofNat (own_sz (M fi) + 1)) else .int (Int32.ofNat (own_sz (M i)))))
    (FB : OwnF Z h' b2 kb .int n (own_rowv (own_or (M fi) ti))) (hs : own_sz (own_or (M fi) ti) = own_sz (M fi) + 1) (hle : own_sz (M fi) < n) (hb2 : rz < b2) (hfr : b2 = B fi ∨ h.size ≤ b2) :
    OwnRel Z h' em ro rz kW kS n (own_upd M fi ti) (fun i => if i = fi then b2 else B i) := by
  obtain ⟨o1, o2, o3, o4⟩ := O
  obtain ⟨h1, h2, h3, h4⟩ := H
  have old : ∀ j, j < n → j ≠ fi → rz < B j → B j ≠ b2 := fun j hj ne hr q => by
    rcases hfr with r | r
    · exact ne (h4 j fi hj hf hr (q.trans r))
    · obtain ⟨kb', Lb, F, -⟩ := h3 j hj
      have q2 : (B j : Nat) < h.size := F.lt
      have q3 : (B j : Nat) = b2 := q
      have r' : h.size ≤ (b2 : Nat) := r
      omega
  refine ⟨FW.congr fun i _ => ?_, FS.congr fun i _ => ?_, fun i hi => ?_, fun i j hi hj hr he => ?_⟩
  · dsimp only; split <;> rfl
  · dsimp only [own_upd]
    by_cases q : i = fi
    · subst q; simp only [if_true]; rw [hs]
    · simp only [q, if_false]
  · by_cases q : i = fi
    · subst q
      refine ⟨kb, n, ?_, ?_, Or.inr ⟨rfl, ?_⟩⟩
      · simp only [own_upd, if_true]; exact FB
      · simp only [own_upd, if_true]; rw [hs]; exact hle
      · simp only [if_true]; exact hb2
    · simp only [own_upd, q, if_false]
      obtain ⟨kb', Lb, F, r1, r2⟩ := h3 i hi
      refine ⟨kb', Lb, F.keep K ?_, r1, r2⟩
      have g := own_bw_ge rz (B fi)
      rw [← hbw] at g
      rcases r2 with ⟨r2, -, -⟩ | ⟨-, r2⟩
      · exact own_nin4 (by omega)
      · have nb : B i ≠ bw := fun z => by
          unfold own_bw at hbw
          split at hbw
          · exact q (h4 i fi hi hf r2 (z.trans hbw))
          · omega
        exact own_nin4 ⟨by omega, by omega, by omega, nb⟩
  · by_cases q1 : i = fi <;> by_cases q2 : j = fi
    · rw [q1, q2]
    · simp only [q1, q2, if_true, if_false] at hr he
      exact absurd he.symm (old j hj q2 (he ▸ hr))
    · simp only [q1, q2, if_true, if_false] at hr he
      exact absurd he (old i hi q1 hr)
    · simp only [q1, q2, if_false] at hr he
      exact h4 i j hi hj hr he
theorem OwnRel.wrD {fi sl : Nat} {v : Value} (H : OwnRel Z h em ro rz kW kS n M B) (O : OwnO n0 em ea D rel ro rz) (hf : fi < 3) (W : Wr h h' (D fi) sl v) : OwnRel Z h' em ro rz kW kS n M B := by
  obtain ⟨o1, o2, o3, o4, o5, o6, o7⟩ := O
  have d := o4 fi hf
  refine H.keep (Keep.of_wr W) (own_nin1 (by omega)) (own_nin1 (by omega)) fun i hi => ?_
  obtain ⟨kb, Lb, F, r1, r2⟩ := H.2.2.1 i hi
  rcases r2 with ⟨r2, -, -⟩ | ⟨-, r2⟩
  · exact own_nin1 (by omega)
  · exact own_nin1 (by omega)
theorem OwnE.keep (E : OwnE Z h ea kE D kD M) (K : Keep h h' ws) (q1 : ea ∉ ws) (q2 : ∀ i, i < 3 → D i ∉ ws) : OwnE Z h' ea kE D kD M :=
  ⟨E.1.keep K q1, fun i hi => (E.2 i hi).keep K (q2 i hi)⟩
theorem OwnE.keepA {bw : Nat} (E : OwnE Z h ea kE D kD M) (O : OwnO n0 em ea D rel ro rz) (K : Keep h h' [rel, ro, rz, bw]) (hb : rz ≤ bw) : OwnE Z h' ea kE D kD M := by
  obtain ⟨o1, o2, o3, o4, o5, o6, o7⟩ := O
  refine E.keep K (own_nin4 (by omega)) fun i hi => ?_
  have d := o4 i hi
  exact own_nin4 (by omega)
theorem OwnE.set {fi ti : Nat} (E : OwnE Z h ea kE D kD M) (O : OwnO n0 em ea D rel ro rz) (hf : fi < 3) (ht : ti < 3) (hm : M fi < 8) (W : Wr h h' (D fi) ti (.int (nar .boolean 1))) : OwnE Z h' ea kE D kD (own_upd M fi ti) := by
  obtain ⟨o1, o2, o3, o4, o5, o6, o7⟩ := O
  refine ⟨E.1.other W (Nat.ne_of_lt (o4 fi hf).1), fun i hi => ?_⟩
  by_cases q : i = fi
  · subst q
    refine ((E.2 i hi).set W).congr fun j hj => ?_
    rw [own_e_upd hm ht i j hj]
    by_cases q2 : j = ti
    · simp only [q2, if_true, and_self]; rfl
    · simp only [q2, and_false, if_false]
  · refine ((E.2 i hi).other W fun z => q (o5 i fi hi hf z)).congr fun j hj => ?_
    rw [own_e_upd hm ht i j hj]
    simp only [q, false_and, if_false]
theorem OwnE.start {xs : List Addr} {comp : ClassId} {a : Nat} (hxs : xs = (List.range 3).map fun j => a + 1 + j) (A : Arv Z h a kE (.array .boolean) (3 : Int32) (xs.map .ref) .null) (I : ∀ (j : Nat) (x : Addr), xs[j]? = some x → Arr Z h x (newA comp .boolean (3 : Int32)) .boolean ∧ Exa Z h x "[Z") : OwnE Z h a kE (fun j => a + 1 + j) (fun _ => comp) (fun _ => 0) := by
  subst hxs
  refine ⟨(OwnF.ofArv A rfl).congr fun i hi => ?_, fun i hi => ?_⟩
  · have hi' : i < 3 := hi
    simp [List.getD_eq_getElem?_getD, hi']
  · obtain ⟨A', -⟩ := I i (a + 1 + i) (by simp [hi])
    refine (OwnF.new A' rfl).congr fun j hj => ?_
    have : own_e (fun _ => 0) i j = false := by simp [own_e]
    rw [this]; rfl
end OwnRelation
theorem own_upd_lt {n : Nat} (hn : n < 4) {M : Nat → Nat} (h : ∀ i, M i < 2 ^ n) {fi ti : Nat} (ht : ti < n) (i : Nat) : own_upd M fi ti i < 2 ^ n := by
  unfold own_upd; split
  · exact own_or_lt n hn _ (h fi) _ ht
  · exact h i
theorem own_upd_z {n : Nat} {M : Nat → Nat} (h : ∀ i, n ≤ i → M i = 0) {fi ti : Nat} (hf : fi < n) (i : Nat) (hi : n ≤ i) : own_upd M fi ti i = 0 := by
  unfold own_upd; rw [if_neg (by omega)]; exact h i hi

theorem pn_com_example_fast_taxonomy_fasttaxonomy_taxonomy_RelationTopologicalOrderPinLaw : plainName "com/example/fast_taxonomy/fasttaxonomy/taxonomy/RelationTopologicalOrderPinLaw" = true := by first | (simp [plainName, overriddenIn]; done) | decide +kernel
theorem ef_rmPath2 (m : MethodId) (x0 : Addr) : entryFrame m #[(.ref x0), (.int (Int32.ofNat i)), (.int (Int32.ofNat j))] 3 = mkF m 0 #[.val (.ref x0), .val (.int (Int32.ofNat i)), .val (.int (Int32.ofNat j))] [] := by first | (simp [entryFrame, mkF, argsToLocals, Value.category]; done) | rfl
theorem d11_0 : decode method_5_code 0 = .ok (.aload_n 0, 1) := by decide +kernel
theorem d11_1 : decode method_5_code 1 = .ok (.iload_n 1, 1) := by decide +kernel
theorem d11_2 : decode method_5_code 2 = .ok (.aaload, 1) := by decide +kernel
theorem d11_3 : decode method_5_code 3 = .ok (.iconst 0, 1) := by decide +kernel
theorem d11_4 : decode method_5_code 4 = .ok (.baload, 1) := by decide +kernel
theorem d11_5 : decode method_5_code 5 = .ok (.ifCond .eq 11, 3) := by decide +kernel
theorem d11_16 : decode method_5_code 16 = .ok (.aload_n 0, 1) := by decide +kernel
theorem d11_17 : decode method_5_code 17 = .ok (.iload_n 1, 1) := by decide +kernel
theorem d11_18 : decode method_5_code 18 = .ok (.aaload, 1) := by decide +kernel
theorem d11_19 : decode method_5_code 19 = .ok (.iconst 1, 1) := by decide +kernel
theorem d11_20 : decode method_5_code 20 = .ok (.baload, 1) := by decide +kernel
theorem d11_21 : decode method_5_code 21 = .ok (.ifCond .eq 11, 3) := by decide +kernel
theorem d11_32 : decode method_5_code 32 = .ok (.aload_n 0, 1) := by decide +kernel
theorem d11_33 : decode method_5_code 33 = .ok (.iload_n 1, 1) := by decide +kernel
theorem d11_34 : decode method_5_code 34 = .ok (.aaload, 1) := by decide +kernel
theorem d11_35 : decode method_5_code 35 = .ok (.iconst 2, 1) := by decide +kernel
theorem d11_36 : decode method_5_code 36 = .ok (.baload, 1) := by decide +kernel
theorem d11_37 : decode method_5_code 37 = .ok (.ifCond .eq 15, 3) := by decide +kernel
theorem d11_52 : decode method_5_code 52 = .ok (.iconst 0, 1) := by decide +kernel
theorem d11_53 : decode method_5_code 53 = .ok (.ireturn, 1) := by decide +kernel
theorem d11_40 : decode method_5_code 40 = .ok (.aload_n 0, 1) := by decide +kernel
theorem d11_41 : decode method_5_code 41 = .ok (.iconst 2, 1) := by decide +kernel
theorem d11_42 : decode method_5_code 42 = .ok (.aaload, 1) := by decide +kernel
theorem d11_43 : decode method_5_code 43 = .ok (.iload_n 2, 1) := by decide +kernel
theorem d11_44 : decode method_5_code 44 = .ok (.baload, 1) := by decide +kernel
theorem d11_45 : decode method_5_code 45 = .ok (.ifCond .eq 7, 3) := by decide +kernel
theorem d11_48 : decode method_5_code 48 = .ok (.iconst 1, 1) := by decide +kernel
theorem d11_49 : decode method_5_code 49 = .ok (.goto 4, 3) := by decide +kernel
theorem d11_24 : decode method_5_code 24 = .ok (.aload_n 0, 1) := by decide +kernel
theorem d11_25 : decode method_5_code 25 = .ok (.iconst 1, 1) := by decide +kernel
theorem d11_26 : decode method_5_code 26 = .ok (.aaload, 1) := by decide +kernel
theorem d11_27 : decode method_5_code 27 = .ok (.iload_n 2, 1) := by decide +kernel
theorem d11_28 : decode method_5_code 28 = .ok (.baload, 1) := by decide +kernel
theorem d11_29 : decode method_5_code 29 = .ok (.ifCond .ne 19, 3) := by decide +kernel
theorem d11_8 : decode method_5_code 8 = .ok (.aload_n 0, 1) := by decide +kernel
theorem d11_9 : decode method_5_code 9 = .ok (.iconst 0, 1) := by decide +kernel
theorem d11_10 : decode method_5_code 10 = .ok (.aaload, 1) := by decide +kernel
theorem d11_11 : decode method_5_code 11 = .ok (.iload_n 2, 1) := by decide +kernel
theorem d11_12 : decode method_5_code 12 = .ok (.baload, 1) := by decide +kernel
theorem d11_13 : decode method_5_code 13 = .ok (.ifCond .ne 35, 3) := by decide +kernel
def QPath2 (Z : State) (M : Nat → Nat) (i : Nat) (j : Nat) (h0 : Heap) (n0 : Nat) (v : Option Value) (h : Heap) (L : List Loc) : Prop := v = some (.int (own_bi (own_path2 M i j))) ∧ Fr n0 L ∧ h = h0
set_option maxRecDepth 65536 in
set_option maxHeartbeats 40000000 in
theorem rmPath2 (l : Launch) (Z : State) (a0 : Array Value) (hw : ∀ d ∈ tables_1, d.before a0 Z = true) (ws : List Jvm.Cond) (ea : Addr) (kE : ClassId) (D : Nat → Addr) (kD : Nat → ClassId) (M : Nat → Nat) (i j : Nat) (h0 : Heap) (n0 : Nat) (Z0 : n0 ≤ h0.size) (EE : OwnE Z h0 ea kE D kD M) (hi : i < 3) (hj : j < 3) :
    MetFree l (⟨"com/example/fast_taxonomy/fasttaxonomy/taxonomy/RelationTopologicalOrderPinLaw", "path2", "([[ZII)Z"⟩ : MethodName) (head1 (Jvm.Cond.code (⟨"com/example/fast_taxonomy/fasttaxonomy/taxonomy/RelationTopologicalOrderPinLaw", "path2", "([[ZII)Z"⟩ : MethodName) method_5_code 3 (some .boolean) :: ws) ({ frames := 0, cells := 0, slots := 0, locals := 0 } : Room)) (fun a U => a = #[(.ref ea), (.int (Int32.ofNat i)), (.int (Int32.ofNat j))] ∧ Z.Warmed39 U.vm ∧ U.heap = h0) (fun _ _ _ _ _ => True) (fun _ U o U' => ∃ v L, o = .returned v ∧ QPath2 Z M i j h0 n0 v U'.heap L ∧ FrameEnd U o U' L ({ frames := 0, cells := 0, slots := 0, locals := 0 } : Room).cells ({ frames := 0, cells := 0, slots := 0, locals := 0 } : Room).slots) := by
  refine MetFree.of_bodySF (plainFor_of_name pn_com_example_fast_taxonomy_fasttaxonomy_taxonomy_RelationTopologicalOrderPinLaw) hisR ?_
  intro p e s m args below meth c s₁ Bd hml0 hP hK
  obtain ⟨rfl, hZ, hh⟩ := hP
  have hx := Bd.exec
  have hby := Bd.bytes
  have hlk := BodyLoose.notSynchronized Bd
  have hml : c.maxLocals = 3 := hml0
  have hown : s.vm.findClass "com/example/fast_taxonomy/fasttaxonomy/taxonomy/RelationTopologicalOrderPinLaw" = some m.cls := findClass_of_methodNamed Bd.named
  have hnm := (name_of_methodNamed Bd.named Bd.method).1
  have X0 : Stand p l e ({ frames := 0, cells := 0, slots := 0, locals := 0 } : Room) s m #[(.ref ea), (.int (Int32.ofNat i)), (.int (Int32.ofNat j))] below meth c s₁ [] 0 0 := Stand.of_body Bd
  have e0 : s₁.heap = h0 := by rw [← hh, Bd.state]; rfl
  have N0 := Fr.nil n0
  refine OwnR.of (s := s) (Q := QPath2 Z M i j h0 n0) (fun t k => castTop (ef_rmPath2 m ea) k) ?_
  show OwnR _ _ _ _ _ _ _ (s₁.setTop (mkF m 0 #[.val (.ref ea), .val (.int (Int32.ofNat i)), .val (.int (Int32.ofNat j))] []))
  refine OwnR.of (fun _ hr => XS.aloadN X0.here hx rfl (hb hby d11_0) rfl rfl hr) ?_
  show OwnR _ _ _ _ _ _ _ (s₁.setTop (mkF m 1 #[.val (.ref ea), .val (.int (Int32.ofNat i)), .val (.int (Int32.ofNat j))] [(.ref ea)]))
  refine OwnR.of (fun _ hr => XS.iloadN X0.here hx rfl (hb hby d11_1) rfl hr) ?_
  show OwnR _ _ _ _ _ _ _ (s₁.setTop (mkF m 2 #[.val (.ref ea), .val (.int (Int32.ofNat i)), .val (.int (Int32.ofNat j))] [(.int (Int32.ofNat i)), (.ref ea)]))
  refine OwnR.of (own_aaload rfl X0 hx hZ e0 EE.1 (own_c3 hi) (own_n3 hi) hi (v := .ref (D i)) rfl (g := (mkF m 2 #[.val (.ref ea), .val (.int (Int32.ofNat i)), .val (.int (Int32.ofNat j))] [(.int (Int32.ofNat i)), (.ref ea)])) rfl rfl (hb hby d11_2)) ?_
  show OwnR _ _ _ _ _ _ _ (s₁.setTop (mkF m 3 #[.val (.ref ea), .val (.int (Int32.ofNat i)), .val (.int (Int32.ofNat j))] [(.ref (D i))]))
  refine OwnR.of (fun _ hr => XS.iconst X0.here hx rfl (hb hby d11_3) hr) ?_
  show OwnR _ _ _ _ _ _ _ (s₁.setTop (mkF m 4 #[.val (.ref ea), .val (.int (Int32.ofNat i)), .val (.int (Int32.ofNat j))] [(.int (0 : Int32)), (.ref (D i))]))
  refine OwnR.of (own_zaload X0 hx hZ e0 (EE.2 i hi) (by decide) (by decide) (by decide) (v := .int (own_bi (own_e M i 0))) rfl (g := (mkF m 4 #[.val (.ref ea), .val (.int (Int32.ofNat i)), .val (.int (Int32.ofNat j))] [(.int (0 : Int32)), (.ref (D i))])) rfl rfl (hb hby d11_4)) ?_
  show OwnR _ _ _ _ _ _ _ (s₁.setTop (mkF m 5 #[.val (.ref ea), .val (.int (Int32.ofNat i)), .val (.int (Int32.ofNat j))] [(.int (own_bi (own_e M i 0)))]))
  by_cases hc5_1 : (own_bi (own_e M i 0)) = (0 : Int32)
  · skip
    refine OwnR.of (fun _ hr => XS.ifYes X0.here hx rfl (pc0 := 5) (pc' := 16) rfl (hb hby d11_5) rfl ((if0 _ _).trans (teq hc5_1).1) (by decide) (by decide) hr) ?_
    show OwnR _ _ _ _ _ _ _ (s₁.setTop (mkF m 16 #[.val (.ref ea), .val (.int (Int32.ofNat i)), .val (.int (Int32.ofNat j))] []))
    refine OwnR.of (fun _ hr => XS.aloadN X0.here hx rfl (hb hby d11_16) rfl rfl hr) ?_
    show OwnR _ _ _ _ _ _ _ (s₁.setTop (mkF m 17 #[.val (.ref ea), .val (.int (Int32.ofNat i)), .val (.int (Int32.ofNat j))] [(.ref ea)]))
    refine OwnR.of (fun _ hr => XS.iloadN X0.here hx rfl (hb hby d11_17) rfl hr) ?_
    show OwnR _ _ _ _ _ _ _ (s₁.setTop (mkF m 18 #[.val (.ref ea), .val (.int (Int32.ofNat i)), .val (.int (Int32.ofNat j))] [(.int (Int32.ofNat i)), (.ref ea)]))
    refine OwnR.of (own_aaload rfl X0 hx hZ e0 EE.1 (own_c3 hi) (own_n3 hi) hi (v := .ref (D i)) rfl (g := (mkF m 18 #[.val (.ref ea), .val (.int (Int32.ofNat i)), .val (.int (Int32.ofNat j))] [(.int (Int32.ofNat i)), (.ref ea)])) rfl rfl (hb hby d11_18)) ?_
    show OwnR _ _ _ _ _ _ _ (s₁.setTop (mkF m 19 #[.val (.ref ea), .val (.int (Int32.ofNat i)), .val (.int (Int32.ofNat j))] [(.ref (D i))]))
    refine OwnR.of (fun _ hr => XS.iconst X0.here hx rfl (hb hby d11_19) hr) ?_
    show OwnR _ _ _ _ _ _ _ (s₁.setTop (mkF m 20 #[.val (.ref ea), .val (.int (Int32.ofNat i)), .val (.int (Int32.ofNat j))] [(.int (1 : Int32)), (.ref (D i))]))
    refine OwnR.of (own_zaload X0 hx hZ e0 (EE.2 i hi) (by decide) (by decide) (by decide) (v := .int (own_bi (own_e M i 1))) rfl (g := (mkF m 20 #[.val (.ref ea), .val (.int (Int32.ofNat i)), .val (.int (Int32.ofNat j))] [(.int (1 : Int32)), (.ref (D i))])) rfl rfl (hb hby d11_20)) ?_
    show OwnR _ _ _ _ _ _ _ (s₁.setTop (mkF m 21 #[.val (.ref ea), .val (.int (Int32.ofNat i)), .val (.int (Int32.ofNat j))] [(.int (own_bi (own_e M i 1)))]))
    by_cases hc21_2 : (own_bi (own_e M i 1)) = (0 : Int32)
    · skip
      refine OwnR.of (fun _ hr => XS.ifYes X0.here hx rfl (pc0 := 21) (pc' := 32) rfl (hb hby d11_21) rfl ((if0 _ _).trans (teq hc21_2).1) (by decide) (by decide) hr) ?_
      show OwnR _ _ _ _ _ _ _ (s₁.setTop (mkF m 32 #[.val (.ref ea), .val (.int (Int32.ofNat i)), .val (.int (Int32.ofNat j))] []))
      refine OwnR.of (fun _ hr => XS.aloadN X0.here hx rfl (hb hby d11_32) rfl rfl hr) ?_
      show OwnR _ _ _ _ _ _ _ (s₁.setTop (mkF m 33 #[.val (.ref ea), .val (.int (Int32.ofNat i)), .val (.int (Int32.ofNat j))] [(.ref ea)]))
      refine OwnR.of (fun _ hr => XS.iloadN X0.here hx rfl (hb hby d11_33) rfl hr) ?_
      show OwnR _ _ _ _ _ _ _ (s₁.setTop (mkF m 34 #[.val (.ref ea), .val (.int (Int32.ofNat i)), .val (.int (Int32.ofNat j))] [(.int (Int32.ofNat i)), (.ref ea)]))
      refine OwnR.of (own_aaload rfl X0 hx hZ e0 EE.1 (own_c3 hi) (own_n3 hi) hi (v := .ref (D i)) rfl (g := (mkF m 34 #[.val (.ref ea), .val (.int (Int32.ofNat i)), .val (.int (Int32.ofNat j))] [(.int (Int32.ofNat i)), (.ref ea)])) rfl rfl (hb hby d11_34)) ?_
      show OwnR _ _ _ _ _ _ _ (s₁.setTop (mkF m 35 #[.val (.ref ea), .val (.int (Int32.ofNat i)), .val (.int (Int32.ofNat j))] [(.ref (D i))]))
      refine OwnR.of (fun _ hr => XS.iconst X0.here hx rfl (hb hby d11_35) hr) ?_
      show OwnR _ _ _ _ _ _ _ (s₁.setTop (mkF m 36 #[.val (.ref ea), .val (.int (Int32.ofNat i)), .val (.int (Int32.ofNat j))] [(.int (2 : Int32)), (.ref (D i))]))
      refine OwnR.of (own_zaload X0 hx hZ e0 (EE.2 i hi) (by decide) (by decide) (by decide) (v := .int (own_bi (own_e M i 2))) rfl (g := (mkF m 36 #[.val (.ref ea), .val (.int (Int32.ofNat i)), .val (.int (Int32.ofNat j))] [(.int (2 : Int32)), (.ref (D i))])) rfl rfl (hb hby d11_36)) ?_
      show OwnR _ _ _ _ _ _ _ (s₁.setTop (mkF m 37 #[.val (.ref ea), .val (.int (Int32.ofNat i)), .val (.int (Int32.ofNat j))] [(.int (own_bi (own_e M i 2)))]))
      by_cases hc37_3 : (own_bi (own_e M i 2)) = (0 : Int32)
      · skip
        refine OwnR.of (fun _ hr => XS.ifYes X0.here hx rfl (pc0 := 37) (pc' := 52) rfl (hb hby d11_37) rfl ((if0 _ _).trans (teq hc37_3).1) (by decide) (by decide) hr) ?_
        show OwnR _ _ _ _ _ _ _ (s₁.setTop (mkF m 52 #[.val (.ref ea), .val (.int (Int32.ofNat i)), .val (.int (Int32.ofNat j))] []))
        refine OwnR.of (fun _ hr => XS.iconst X0.here hx rfl (hb hby d11_52) hr) ?_
        show OwnR _ _ _ _ _ _ _ (s₁.setTop (mkF m 53 #[.val (.ref ea), .val (.int (Int32.ofNat i)), .val (.int (Int32.ofNat j))] [(.int (0 : Int32))]))
        refine own_leafN X0 hx hlk (t := .boolean) Bd.returns (by simp) (hb hby d11_53) (z' := (0 : Int32)) rfl (by decide) (by decide) ?_
        show QPath2 Z M i j h0 n0 _ s₁.heap _
        rw [show s₁.heap = h0 from e0]
        refine ⟨?_, N0, rfl⟩
        show (some (.int (0 : Int32)) : Option Value) = some (.int (own_bi (own_path2 M i j)))
        simp only [own_bi0, Bool.not_eq_false] at hc5_1 hc21_2 hc37_3
        simp [own_path2, own_bi, hc5_1, hc21_2, hc37_3]
      · skip
        refine OwnR.of (fun _ hr => XS.ifNo X0.here hx rfl (hb hby d11_37) rfl ((if0 _ _).trans (feq hc37_3).1) hr) ?_
        show OwnR _ _ _ _ _ _ _ (s₁.setTop (mkF m 40 #[.val (.ref ea), .val (.int (Int32.ofNat i)), .val (.int (Int32.ofNat j))] []))
        refine OwnR.of (fun _ hr => XS.aloadN X0.here hx rfl (hb hby d11_40) rfl rfl hr) ?_
        show OwnR _ _ _ _ _ _ _ (s₁.setTop (mkF m 41 #[.val (.ref ea), .val (.int (Int32.ofNat i)), .val (.int (Int32.ofNat j))] [(.ref ea)]))
        refine OwnR.of (fun _ hr => XS.iconst X0.here hx rfl (hb hby d11_41) hr) ?_
        show OwnR _ _ _ _ _ _ _ (s₁.setTop (mkF m 42 #[.val (.ref ea), .val (.int (Int32.ofNat i)), .val (.int (Int32.ofNat j))] [(.int (2 : Int32)), (.ref ea)]))
        refine OwnR.of (own_aaload rfl X0 hx hZ e0 EE.1 (by decide) (by decide) (by decide) (v := .ref (D 2)) rfl (g := (mkF m 42 #[.val (.ref ea), .val (.int (Int32.ofNat i)), .val (.int (Int32.ofNat j))] [(.int (2 : Int32)), (.ref ea)])) rfl rfl (hb hby d11_42)) ?_
        show OwnR _ _ _ _ _ _ _ (s₁.setTop (mkF m 43 #[.val (.ref ea), .val (.int (Int32.ofNat i)), .val (.int (Int32.ofNat j))] [(.ref (D 2))]))
        refine OwnR.of (fun _ hr => XS.iloadN X0.here hx rfl (hb hby d11_43) rfl hr) ?_
        show OwnR _ _ _ _ _ _ _ (s₁.setTop (mkF m 44 #[.val (.ref ea), .val (.int (Int32.ofNat i)), .val (.int (Int32.ofNat j))] [(.int (Int32.ofNat j)), (.ref (D 2))]))
        refine OwnR.of (own_zaload X0 hx hZ e0 (EE.2 2 (by decide)) (own_c3 hj) (own_n3 hj) hj (v := .int (own_bi (own_e M 2 j))) rfl (g := (mkF m 44 #[.val (.ref ea), .val (.int (Int32.ofNat i)), .val (.int (Int32.ofNat j))] [(.int (Int32.ofNat j)), (.ref (D 2))])) rfl rfl (hb hby d11_44)) ?_
        show OwnR _ _ _ _ _ _ _ (s₁.setTop (mkF m 45 #[.val (.ref ea), .val (.int (Int32.ofNat i)), .val (.int (Int32.ofNat j))] [(.int (own_bi (own_e M 2 j)))]))
        by_cases hc45_4 : (own_bi (own_e M 2 j)) = (0 : Int32)
        · skip
          refine OwnR.of (fun _ hr => XS.ifYes X0.here hx rfl (pc0 := 45) (pc' := 52) rfl (hb hby d11_45) rfl ((if0 _ _).trans (teq hc45_4).1) (by decide) (by decide) hr) ?_
          show OwnR _ _ _ _ _ _ _ (s₁.setTop (mkF m 52 #[.val (.ref ea), .val (.int (Int32.ofNat i)), .val (.int (Int32.ofNat j))] []))
          refine OwnR.of (fun _ hr => XS.iconst X0.here hx rfl (hb hby d11_52) hr) ?_
          show OwnR _ _ _ _ _ _ _ (s₁.setTop (mkF m 53 #[.val (.ref ea), .val (.int (Int32.ofNat i)), .val (.int (Int32.ofNat j))] [(.int (0 : Int32))]))
          refine own_leafN X0 hx hlk (t := .boolean) Bd.returns (by simp) (hb hby d11_53) (z' := (0 : Int32)) rfl (by decide) (by decide) ?_
          show QPath2 Z M i j h0 n0 _ s₁.heap _
          rw [show s₁.heap = h0 from e0]
          refine ⟨?_, N0, rfl⟩
          show (some (.int (0 : Int32)) : Option Value) = some (.int (own_bi (own_path2 M i j)))
          simp only [own_bi0, Bool.not_eq_false] at hc5_1 hc21_2 hc37_3 hc45_4
          simp [own_path2, own_bi, hc5_1, hc21_2, hc37_3, hc45_4]
        · skip
          refine OwnR.of (fun _ hr => XS.ifNo X0.here hx rfl (hb hby d11_45) rfl ((if0 _ _).trans (feq hc45_4).1) hr) ?_
          show OwnR _ _ _ _ _ _ _ (s₁.setTop (mkF m 48 #[.val (.ref ea), .val (.int (Int32.ofNat i)), .val (.int (Int32.ofNat j))] []))
          refine OwnR.of (fun _ hr => XS.iconst X0.here hx rfl (hb hby d11_48) hr) ?_
          show OwnR _ _ _ _ _ _ _ (s₁.setTop (mkF m 49 #[.val (.ref ea), .val (.int (Int32.ofNat i)), .val (.int (Int32.ofNat j))] [(.int (1 : Int32))]))
          refine OwnR.of (fun _ hr => XS.goto X0.here hx rfl (pc0 := 49) (pc' := 53) rfl (hb hby d11_49) (by decide) (by decide) hr) ?_
          show OwnR _ _ _ _ _ _ _ (s₁.setTop (mkF m 53 #[.val (.ref ea), .val (.int (Int32.ofNat i)), .val (.int (Int32.ofNat j))] [(.int (1 : Int32))]))
          refine own_leafN X0 hx hlk (t := .boolean) Bd.returns (by simp) (hb hby d11_53) (z' := (1 : Int32)) rfl (by decide) (by decide) ?_
          show QPath2 Z M i j h0 n0 _ s₁.heap _
          rw [show s₁.heap = h0 from e0]
          refine ⟨?_, N0, rfl⟩
          show (some (.int (1 : Int32)) : Option Value) = some (.int (own_bi (own_path2 M i j)))
          simp only [own_bi0, Bool.not_eq_false] at hc5_1 hc21_2 hc37_3 hc45_4
          simp [own_path2, own_bi, hc5_1, hc21_2, hc37_3, hc45_4]
    · skip
      refine OwnR.of (fun _ hr => XS.ifNo X0.here hx rfl (hb hby d11_21) rfl ((if0 _ _).trans (feq hc21_2).1) hr) ?_
      show OwnR _ _ _ _ _ _ _ (s₁.setTop (mkF m 24 #[.val (.ref ea), .val (.int (Int32.ofNat i)), .val (.int (Int32.ofNat j))] []))
      refine OwnR.of (fun _ hr => XS.aloadN X0.here hx rfl (hb hby d11_24) rfl rfl hr) ?_
      show OwnR _ _ _ _ _ _ _ (s₁.setTop (mkF m 25 #[.val (.ref ea), .val (.int (Int32.ofNat i)), .val (.int (Int32.ofNat j))] [(.ref ea)]))
      refine OwnR.of (fun _ hr => XS.iconst X0.here hx rfl (hb hby d11_25) hr) ?_
      show OwnR _ _ _ _ _ _ _ (s₁.setTop (mkF m 26 #[.val (.ref ea), .val (.int (Int32.ofNat i)), .val (.int (Int32.ofNat j))] [(.int (1 : Int32)), (.ref ea)]))
      refine OwnR.of (own_aaload rfl X0 hx hZ e0 EE.1 (by decide) (by decide) (by decide) (v := .ref (D 1)) rfl (g := (mkF m 26 #[.val (.ref ea), .val (.int (Int32.ofNat i)), .val (.int (Int32.ofNat j))] [(.int (1 : Int32)), (.ref ea)])) rfl rfl (hb hby d11_26)) ?_
      show OwnR _ _ _ _ _ _ _ (s₁.setTop (mkF m 27 #[.val (.ref ea), .val (.int (Int32.ofNat i)), .val (.int (Int32.ofNat j))] [(.ref (D 1))]))
      refine OwnR.of (fun _ hr => XS.iloadN X0.here hx rfl (hb hby d11_27) rfl hr) ?_
      show OwnR _ _ _ _ _ _ _ (s₁.setTop (mkF m 28 #[.val (.ref ea), .val (.int (Int32.ofNat i)), .val (.int (Int32.ofNat j))] [(.int (Int32.ofNat j)), (.ref (D 1))]))
      refine OwnR.of (own_zaload X0 hx hZ e0 (EE.2 1 (by decide)) (own_c3 hj) (own_n3 hj) hj (v := .int (own_bi (own_e M 1 j))) rfl (g := (mkF m 28 #[.val (.ref ea), .val (.int (Int32.ofNat i)), .val (.int (Int32.ofNat j))] [(.int (Int32.ofNat j)), (.ref (D 1))])) rfl rfl (hb hby d11_28)) ?_
      show OwnR _ _ _ _ _ _ _ (s₁.setTop (mkF m 29 #[.val (.ref ea), .val (.int (Int32.ofNat i)), .val (.int (Int32.ofNat j))] [(.int (own_bi (own_e M 1 j)))]))
      by_cases hc29_5 : (own_bi (own_e M 1 j)) = (0 : Int32)
      · skip
        refine OwnR.of (fun _ hr => XS.ifNo X0.here hx rfl (hb hby d11_29) rfl ((if0 _ _).trans (teq hc29_5).2) hr) ?_
        show OwnR _ _ _ _ _ _ _ (s₁.setTop (mkF m 32 #[.val (.ref ea), .val (.int (Int32.ofNat i)), .val (.int (Int32.ofNat j))] []))
        refine OwnR.of (fun _ hr => XS.aloadN X0.here hx rfl (hb hby d11_32) rfl rfl hr) ?_
        show OwnR _ _ _ _ _ _ _ (s₁.setTop (mkF m 33 #[.val (.ref ea), .val (.int (Int32.ofNat i)), .val (.int (Int32.ofNat j))] [(.ref ea)]))
        refine OwnR.of (fun _ hr => XS.iloadN X0.here hx rfl (hb hby d11_33) rfl hr) ?_
        show OwnR _ _ _ _ _ _ _ (s₁.setTop (mkF m 34 #[.val (.ref ea), .val (.int (Int32.ofNat i)), .val (.int (Int32.ofNat j))] [(.int (Int32.ofNat i)), (.ref ea)]))
        refine OwnR.of (own_aaload rfl X0 hx hZ e0 EE.1 (own_c3 hi) (own_n3 hi) hi (v := .ref (D i)) rfl (g := (mkF m 34 #[.val (.ref ea), .val (.int (Int32.ofNat i)), .val (.int (Int32.ofNat j))] [(.int (Int32.ofNat i)), (.ref ea)])) rfl rfl (hb hby d11_34)) ?_
        show OwnR _ _ _ _ _ _ _ (s₁.setTop (mkF m 35 #[.val (.ref ea), .val (.int (Int32.ofNat i)), .val (.int (Int32.ofNat j))] [(.ref (D i))]))
        refine OwnR.of (fun _ hr => XS.iconst X0.here hx rfl (hb hby d11_35) hr) ?_
        show OwnR _ _ _ _ _ _ _ (s₁.setTop (mkF m 36 #[.val (.ref ea), .val (.int (Int32.ofNat i)), .val (.int (Int32.ofNat j))] [(.int (2 : Int32)), (.ref (D i))]))
        refine OwnR.of (own_zaload X0 hx hZ e0 (EE.2 i hi) (by decide) (by decide) (by decide) (v := .int (own_bi (own_e M i 2))) rfl (g := (mkF m 36 #[.val (.ref ea), .val (.int (Int32.ofNat i)), .val (.int (Int32.ofNat j))] [(.int (2 : Int32)), (.ref (D i))])) rfl rfl (hb hby d11_36)) ?_
        show OwnR _ _ _ _ _ _ _ (s₁.setTop (mkF m 37 #[.val (.ref ea), .val (.int (Int32.ofNat i)), .val (.int (Int32.ofNat j))] [(.int (own_bi (own_e M i 2)))]))
        by_cases hc37_6 : (own_bi (own_e M i 2)) = (0 : Int32)
        · skip
          refine OwnR.of (fun _ hr => XS.ifYes X0.here hx rfl (pc0 := 37) (pc' := 52) rfl (hb hby d11_37) rfl ((if0 _ _).trans (teq hc37_6).1) (by decide) (by decide) hr) ?_
          show OwnR _ _ _ _ _ _ _ (s₁.setTop (mkF m 52 #[.val (.ref ea), .val (.int (Int32.ofNat i)), .val (.int (Int32.ofNat j))] []))
          refine OwnR.of (fun _ hr => XS.iconst X0.here hx rfl (hb hby d11_52) hr) ?_
          show OwnR _ _ _ _ _ _ _ (s₁.setTop (mkF m 53 #[.val (.ref ea), .val (.int (Int32.ofNat i)), .val (.int (Int32.ofNat j))] [(.int (0 : Int32))]))
          refine own_leafN X0 hx hlk (t := .boolean) Bd.returns (by simp) (hb hby d11_53) (z' := (0 : Int32)) rfl (by decide) (by decide) ?_
          show QPath2 Z M i j h0 n0 _ s₁.heap _
          rw [show s₁.heap = h0 from e0]
          refine ⟨?_, N0, rfl⟩
          show (some (.int (0 : Int32)) : Option Value) = some (.int (own_bi (own_path2 M i j)))
          simp only [own_bi0, Bool.not_eq_false] at hc5_1 hc21_2 hc29_5 hc37_6
          simp [own_path2, own_bi, hc5_1, hc21_2, hc29_5, hc37_6]
        · skip
          refine OwnR.of (fun _ hr => XS.ifNo X0.here hx rfl (hb hby d11_37) rfl ((if0 _ _).trans (feq hc37_6).1) hr) ?_
          show OwnR _ _ _ _ _ _ _ (s₁.setTop (mkF m 40 #[.val (.ref ea), .val (.int (Int32.ofNat i)), .val (.int (Int32.ofNat j))] []))
          refine OwnR.of (fun _ hr => XS.aloadN X0.here hx rfl (hb hby d11_40) rfl rfl hr) ?_
          show OwnR _ _ _ _ _ _ _ (s₁.setTop (mkF m 41 #[.val (.ref ea), .val (.int (Int32.ofNat i)), .val (.int (Int32.ofNat j))] [(.ref ea)]))
          refine OwnR.of (fun _ hr => XS.iconst X0.here hx rfl (hb hby d11_41) hr) ?_
          show OwnR _ _ _ _ _ _ _ (s₁.setTop (mkF m 42 #[.val (.ref ea), .val (.int (Int32.ofNat i)), .val (.int (Int32.ofNat j))] [(.int (2 : Int32)), (.ref ea)]))
          refine OwnR.of (own_aaload rfl X0 hx hZ e0 EE.1 (by decide) (by decide) (by decide) (v := .ref (D 2)) rfl (g := (mkF m 42 #[.val (.ref ea), .val (.int (Int32.ofNat i)), .val (.int (Int32.ofNat j))] [(.int (2 : Int32)), (.ref ea)])) rfl rfl (hb hby d11_42)) ?_
          show OwnR _ _ _ _ _ _ _ (s₁.setTop (mkF m 43 #[.val (.ref ea), .val (.int (Int32.ofNat i)), .val (.int (Int32.ofNat j))] [(.ref (D 2))]))
          refine OwnR.of (fun _ hr => XS.iloadN X0.here hx rfl (hb hby d11_43) rfl hr) ?_
          show OwnR _ _ _ _ _ _ _ (s₁.setTop (mkF m 44 #[.val (.ref ea), .val (.int (Int32.ofNat i)), .val (.int (Int32.ofNat j))] [(.int (Int32.ofNat j)), (.ref (D 2))]))
          refine OwnR.of (own_zaload X0 hx hZ e0 (EE.2 2 (by decide)) (own_c3 hj) (own_n3 hj) hj (v := .int (own_bi (own_e M 2 j))) rfl (g := (mkF m 44 #[.val (.ref ea), .val (.int (Int32.ofNat i)), .val (.int (Int32.ofNat j))] [(.int (Int32.ofNat j)), (.ref (D 2))])) rfl rfl (hb hby d11_44)) ?_
          show OwnR _ _ _ _ _ _ _ (s₁.setTop (mkF m 45 #[.val (.ref ea), .val (.int (Int32.ofNat i)), .val (.int (Int32.ofNat j))] [(.int (own_bi (own_e M 2 j)))]))
          by_cases hc45_7 : (own_bi (own_e M 2 j)) = (0 : Int32)
          · skip
            refine OwnR.of (fun _ hr => XS.ifYes X0.here hx rfl (pc0 := 45) (pc' := 52) rfl (hb hby d11_45) rfl ((if0 _ _).trans (teq hc45_7).1) (by decide) (by decide) hr) ?_
            show OwnR _ _ _ _ _ _ _ (s₁.setTop (mkF m 52 #[.val (.ref ea), .val (.int (Int32.ofNat i)), .val (.int (Int32.ofNat j))] []))
            refine OwnR.of (fun _ hr => XS.iconst X0.here hx rfl (hb hby d11_52) hr) ?_
            show OwnR _ _ _ _ _ _ _ (s₁.setTop (mkF m 53 #[.val (.ref ea), .val (.int (Int32.ofNat i)), .val (.int (Int32.ofNat j))] [(.int (0 : Int32))]))
            refine own_leafN X0 hx hlk (t := .boolean) Bd.returns (by simp) (hb hby d11_53) (z' := (0 : Int32)) rfl (by decide) (by decide) ?_
            show QPath2 Z M i j h0 n0 _ s₁.heap _
            rw [show s₁.heap = h0 from e0]
            refine ⟨?_, N0, rfl⟩
            show (some (.int (0 : Int32)) : Option Value) = some (.int (own_bi (own_path2 M i j)))
            simp only [own_bi0, Bool.not_eq_false] at hc5_1 hc21_2 hc29_5 hc37_6 hc45_7
            simp [own_path2, own_bi, hc5_1, hc21_2, hc29_5, hc37_6, hc45_7]
          · skip
            refine OwnR.of (fun _ hr => XS.ifNo X0.here hx rfl (hb hby d11_45) rfl ((if0 _ _).trans (feq hc45_7).1) hr) ?_
            show OwnR _ _ _ _ _ _ _ (s₁.setTop (mkF m 48 #[.val (.ref ea), .val (.int (Int32.ofNat i)), .val (.int (Int32.ofNat j))] []))
            refine OwnR.of (fun _ hr => XS.iconst X0.here hx rfl (hb hby d11_48) hr) ?_
            show OwnR _ _ _ _ _ _ _ (s₁.setTop (mkF m 49 #[.val (.ref ea), .val (.int (Int32.ofNat i)), .val (.int (Int32.ofNat j))] [(.int (1 : Int32))]))
            refine OwnR.of (fun _ hr => XS.goto X0.here hx rfl (pc0 := 49) (pc' := 53) rfl (hb hby d11_49) (by decide) (by decide) hr) ?_
            show OwnR _ _ _ _ _ _ _ (s₁.setTop (mkF m 53 #[.val (.ref ea), .val (.int (Int32.ofNat i)), .val (.int (Int32.ofNat j))] [(.int (1 : Int32))]))
            refine own_leafN X0 hx hlk (t := .boolean) Bd.returns (by simp) (hb hby d11_53) (z' := (1 : Int32)) rfl (by decide) (by decide) ?_
            show QPath2 Z M i j h0 n0 _ s₁.heap _
            rw [show s₁.heap = h0 from e0]
            refine ⟨?_, N0, rfl⟩
            show (some (.int (1 : Int32)) : Option Value) = some (.int (own_bi (own_path2 M i j)))
            simp only [own_bi0, Bool.not_eq_false] at hc5_1 hc21_2 hc29_5 hc37_6 hc45_7
            simp [own_path2, own_bi, hc5_1, hc21_2, hc29_5, hc37_6, hc45_7]
      · skip
        refine OwnR.of (fun _ hr => XS.ifYes X0.here hx rfl (pc0 := 29) (pc' := 48) rfl (hb hby d11_29) rfl ((if0 _ _).trans (feq hc29_5).2) (by decide) (by decide) hr) ?_
        show OwnR _ _ _ _ _ _ _ (s₁.setTop (mkF m 48 #[.val (.ref ea), .val (.int (Int32.ofNat i)), .val (.int (Int32.ofNat j))] []))
        refine OwnR.of (fun _ hr => XS.iconst X0.here hx rfl (hb hby d11_48) hr) ?_
        show OwnR _ _ _ _ _ _ _ (s₁.setTop (mkF m 49 #[.val (.ref ea), .val (.int (Int32.ofNat i)), .val (.int (Int32.ofNat j))] [(.int (1 : Int32))]))
        refine OwnR.of (fun _ hr => XS.goto X0.here hx rfl (pc0 := 49) (pc' := 53) rfl (hb hby d11_49) (by decide) (by decide) hr) ?_
        show OwnR _ _ _ _ _ _ _ (s₁.setTop (mkF m 53 #[.val (.ref ea), .val (.int (Int32.ofNat i)), .val (.int (Int32.ofNat j))] [(.int (1 : Int32))]))
        refine own_leafN X0 hx hlk (t := .boolean) Bd.returns (by simp) (hb hby d11_53) (z' := (1 : Int32)) rfl (by decide) (by decide) ?_
        show QPath2 Z M i j h0 n0 _ s₁.heap _
        rw [show s₁.heap = h0 from e0]
        refine ⟨?_, N0, rfl⟩
        show (some (.int (1 : Int32)) : Option Value) = some (.int (own_bi (own_path2 M i j)))
        simp only [own_bi0, Bool.not_eq_false] at hc5_1 hc21_2 hc29_5
        simp [own_path2, own_bi, hc5_1, hc21_2, hc29_5]
  · skip
    refine OwnR.of (fun _ hr => XS.ifNo X0.here hx rfl (hb hby d11_5) rfl ((if0 _ _).trans (feq hc5_1).1) hr) ?_
    show OwnR _ _ _ _ _ _ _ (s₁.setTop (mkF m 8 #[.val (.ref ea), .val (.int (Int32.ofNat i)), .val (.int (Int32.ofNat j))] []))
    refine OwnR.of (fun _ hr => XS.aloadN X0.here hx rfl (hb hby d11_8) rfl rfl hr) ?_
    show OwnR _ _ _ _ _ _ _ (s₁.setTop (mkF m 9 #[.val (.ref ea), .val (.int (Int32.ofNat i)), .val (.int (Int32.ofNat j))] [(.ref ea)]))
    refine OwnR.of (fun _ hr => XS.iconst X0.here hx rfl (hb hby d11_9) hr) ?_
    show OwnR _ _ _ _ _ _ _ (s₁.setTop (mkF m 10 #[.val (.ref ea), .val (.int (Int32.ofNat i)), .val (.int (Int32.ofNat j))] [(.int (0 : Int32)), (.ref ea)]))
    refine OwnR.of (own_aaload rfl X0 hx hZ e0 EE.1 (by decide) (by decide) (by decide) (v := .ref (D 0)) rfl (g := (mkF m 10 #[.val (.ref ea), .val (.int (Int32.ofNat i)), .val (.int (Int32.ofNat j))] [(.int (0 : Int32)), (.ref ea)])) rfl rfl (hb hby d11_10)) ?_
    show OwnR _ _ _ _ _ _ _ (s₁.setTop (mkF m 11 #[.val (.ref ea), .val (.int (Int32.ofNat i)), .val (.int (Int32.ofNat j))] [(.ref (D 0))]))
    refine OwnR.of (fun _ hr => XS.iloadN X0.here hx rfl (hb hby d11_11) rfl hr) ?_
    show OwnR _ _ _ _ _ _ _ (s₁.setTop (mkF m 12 #[.val (.ref ea), .val (.int (Int32.ofNat i)), .val (.int (Int32.ofNat j))] [(.int (Int32.ofNat j)), (.ref (D 0))]))
    refine OwnR.of (own_zaload X0 hx hZ e0 (EE.2 0 (by decide)) (own_c3 hj) (own_n3 hj) hj (v := .int (own_bi (own_e M 0 j))) rfl (g := (mkF m 12 #[.val (.ref ea), .val (.int (Int32.ofNat i)), .val (.int (Int32.ofNat j))] [(.int (Int32.ofNat j)), (.ref (D 0))])) rfl rfl (hb hby d11_12)) ?_
    show OwnR _ _ _ _ _ _ _ (s₁.setTop (mkF m 13 #[.val (.ref ea), .val (.int (Int32.ofNat i)), .val (.int (Int32.ofNat j))] [(.int (own_bi (own_e M 0 j)))]))
    by_cases hc13_8 : (own_bi (own_e M 0 j)) = (0 : Int32)
    · skip
      refine OwnR.of (fun _ hr => XS.ifNo X0.here hx rfl (hb hby d11_13) rfl ((if0 _ _).trans (teq hc13_8).2) hr) ?_
      show OwnR _ _ _ _ _ _ _ (s₁.setTop (mkF m 16 #[.val (.ref ea), .val (.int (Int32.ofNat i)), .val (.int (Int32.ofNat j))] []))
      refine OwnR.of (fun _ hr => XS.aloadN X0.here hx rfl (hb hby d11_16) rfl rfl hr) ?_
      show OwnR _ _ _ _ _ _ _ (s₁.setTop (mkF m 17 #[.val (.ref ea), .val (.int (Int32.ofNat i)), .val (.int (Int32.ofNat j))] [(.ref ea)]))
      refine OwnR.of (fun _ hr => XS.iloadN X0.here hx rfl (hb hby d11_17) rfl hr) ?_
      show OwnR _ _ _ _ _ _ _ (s₁.setTop (mkF m 18 #[.val (.ref ea), .val (.int (Int32.ofNat i)), .val (.int (Int32.ofNat j))] [(.int (Int32.ofNat i)), (.ref ea)]))
      refine OwnR.of (own_aaload rfl X0 hx hZ e0 EE.1 (own_c3 hi) (own_n3 hi) hi (v := .ref (D i)) rfl (g := (mkF m 18 #[.val (.ref ea), .val (.int (Int32.ofNat i)), .val (.int (Int32.ofNat j))] [(.int (Int32.ofNat i)), (.ref ea)])) rfl rfl (hb hby d11_18)) ?_
      show OwnR _ _ _ _ _ _ _ (s₁.setTop (mkF m 19 #[.val (.ref ea), .val (.int (Int32.ofNat i)), .val (.int (Int32.ofNat j))] [(.ref (D i))]))
      refine OwnR.of (fun _ hr => XS.iconst X0.here hx rfl (hb hby d11_19) hr) ?_
      show OwnR _ _ _ _ _ _ _ (s₁.setTop (mkF m 20 #[.val (.ref ea), .val (.int (Int32.ofNat i)), .val (.int (Int32.ofNat j))] [(.int (1 : Int32)), (.ref (D i))]))
      refine OwnR.of (own_zaload X0 hx hZ e0 (EE.2 i hi) (by decide) (by decide) (by decide) (v := .int (own_bi (own_e M i 1))) rfl (g := (mkF m 20 #[.val (.ref ea), .val (.int (Int32.ofNat i)), .val (.int (Int32.ofNat j))] [(.int (1 : Int32)), (.ref (D i))])) rfl rfl (hb hby d11_20)) ?_
      show OwnR _ _ _ _ _ _ _ (s₁.setTop (mkF m 21 #[.val (.ref ea), .val (.int (Int32.ofNat i)), .val (.int (Int32.ofNat j))] [(.int (own_bi (own_e M i 1)))]))
      by_cases hc21_9 : (own_bi (own_e M i 1)) = (0 : Int32)
      · skip
        refine OwnR.of (fun _ hr => XS.ifYes X0.here hx rfl (pc0 := 21) (pc' := 32) rfl (hb hby d11_21) rfl ((if0 _ _).trans (teq hc21_9).1) (by decide) (by decide) hr) ?_
        show OwnR _ _ _ _ _ _ _ (s₁.setTop (mkF m 32 #[.val (.ref ea), .val (.int (Int32.ofNat i)), .val (.int (Int32.ofNat j))] []))
        refine OwnR.of (fun _ hr => XS.aloadN X0.here hx rfl (hb hby d11_32) rfl rfl hr) ?_
        show OwnR _ _ _ _ _ _ _ (s₁.setTop (mkF m 33 #[.val (.ref ea), .val (.int (Int32.ofNat i)), .val (.int (Int32.ofNat j))] [(.ref ea)]))
        refine OwnR.of (fun _ hr => XS.iloadN X0.here hx rfl (hb hby d11_33) rfl hr) ?_
        show OwnR _ _ _ _ _ _ _ (s₁.setTop (mkF m 34 #[.val (.ref ea), .val (.int (Int32.ofNat i)), .val (.int (Int32.ofNat j))] [(.int (Int32.ofNat i)), (.ref ea)]))
        refine OwnR.of (own_aaload rfl X0 hx hZ e0 EE.1 (own_c3 hi) (own_n3 hi) hi (v := .ref (D i)) rfl (g := (mkF m 34 #[.val (.ref ea), .val (.int (Int32.ofNat i)), .val (.int (Int32.ofNat j))] [(.int (Int32.ofNat i)), (.ref ea)])) rfl rfl (hb hby d11_34)) ?_
        show OwnR _ _ _ _ _ _ _ (s₁.setTop (mkF m 35 #[.val (.ref ea), .val (.int (Int32.ofNat i)), .val (.int (Int32.ofNat j))] [(.ref (D i))]))
        refine OwnR.of (fun _ hr => XS.iconst X0.here hx rfl (hb hby d11_35) hr) ?_
        show OwnR _ _ _ _ _ _ _ (s₁.setTop (mkF m 36 #[.val (.ref ea), .val (.int (Int32.ofNat i)), .val (.int (Int32.ofNat j))] [(.int (2 : Int32)), (.ref (D i))]))
        refine OwnR.of (own_zaload X0 hx hZ e0 (EE.2 i hi) (by decide) (by decide) (by decide) (v := .int (own_bi (own_e M i 2))) rfl (g := (mkF m 36 #[.val (.ref ea), .val (.int (Int32.ofNat i)), .val (.int (Int32.ofNat j))] [(.int (2 : Int32)), (.ref (D i))])) rfl rfl (hb hby d11_36)) ?_
        show OwnR _ _ _ _ _ _ _ (s₁.setTop (mkF m 37 #[.val (.ref ea), .val (.int (Int32.ofNat i)), .val (.int (Int32.ofNat j))] [(.int (own_bi (own_e M i 2)))]))
        by_cases hc37_10 : (own_bi (own_e M i 2)) = (0 : Int32)
        · skip
          refine OwnR.of (fun _ hr => XS.ifYes X0.here hx rfl (pc0 := 37) (pc' := 52) rfl (hb hby d11_37) rfl ((if0 _ _).trans (teq hc37_10).1) (by decide) (by decide) hr) ?_
          show OwnR _ _ _ _ _ _ _ (s₁.setTop (mkF m 52 #[.val (.ref ea), .val (.int (Int32.ofNat i)), .val (.int (Int32.ofNat j))] []))
          refine OwnR.of (fun _ hr => XS.iconst X0.here hx rfl (hb hby d11_52) hr) ?_
          show OwnR _ _ _ _ _ _ _ (s₁.setTop (mkF m 53 #[.val (.ref ea), .val (.int (Int32.ofNat i)), .val (.int (Int32.ofNat j))] [(.int (0 : Int32))]))
          refine own_leafN X0 hx hlk (t := .boolean) Bd.returns (by simp) (hb hby d11_53) (z' := (0 : Int32)) rfl (by decide) (by decide) ?_
          show QPath2 Z M i j h0 n0 _ s₁.heap _
          rw [show s₁.heap = h0 from e0]
          refine ⟨?_, N0, rfl⟩
          show (some (.int (0 : Int32)) : Option Value) = some (.int (own_bi (own_path2 M i j)))
          simp only [own_bi0, Bool.not_eq_false] at hc5_1 hc13_8 hc21_9 hc37_10
          simp [own_path2, own_bi, hc5_1, hc13_8, hc21_9, hc37_10]
        · skip
          refine OwnR.of (fun _ hr => XS.ifNo X0.here hx rfl (hb hby d11_37) rfl ((if0 _ _).trans (feq hc37_10).1) hr) ?_
          show OwnR _ _ _ _ _ _ _ (s₁.setTop (mkF m 40 #[.val (.ref ea), .val (.int (Int32.ofNat i)), .val (.int (Int32.ofNat j))] []))
          refine OwnR.of (fun _ hr => XS.aloadN X0.here hx rfl (hb hby d11_40) rfl rfl hr) ?_
          show OwnR _ _ _ _ _ _ _ (s₁.setTop (mkF m 41 #[.val (.ref ea), .val (.int (Int32.ofNat i)), .val (.int (Int32.ofNat j))] [(.ref ea)]))
          refine OwnR.of (fun _ hr => XS.iconst X0.here hx rfl (hb hby d11_41) hr) ?_
          show OwnR _ _ _ _ _ _ _ (s₁.setTop (mkF m 42 #[.val (.ref ea), .val (.int (Int32.ofNat i)), .val (.int (Int32.ofNat j))] [(.int (2 : Int32)), (.ref ea)]))
          refine OwnR.of (own_aaload rfl X0 hx hZ e0 EE.1 (by decide) (by decide) (by decide) (v := .ref (D 2)) rfl (g := (mkF m 42 #[.val (.ref ea), .val (.int (Int32.ofNat i)), .val (.int (Int32.ofNat j))] [(.int (2 : Int32)), (.ref ea)])) rfl rfl (hb hby d11_42)) ?_
          show OwnR _ _ _ _ _ _ _ (s₁.setTop (mkF m 43 #[.val (.ref ea), .val (.int (Int32.ofNat i)), .val (.int (Int32.ofNat j))] [(.ref (D 2))]))
          refine OwnR.of (fun _ hr => XS.iloadN X0.here hx rfl (hb hby d11_43) rfl hr) ?_
          show OwnR _ _ _ _ _ _ _ (s₁.setTop (mkF m 44 #[.val (.ref ea), .val (.int (Int32.ofNat i)), .val (.int (Int32.ofNat j))] [(.int (Int32.ofNat j)), (.ref (D 2))]))
          refine OwnR.of (own_zaload X0 hx hZ e0 (EE.2 2 (by decide)) (own_c3 hj) (own_n3 hj) hj (v := .int (own_bi (own_e M 2 j))) rfl (g := (mkF m 44 #[.val (.ref ea), .val (.int (Int32.ofNat i)), .val (.int (Int32.ofNat j))] [(.int (Int32.ofNat j)), (.ref (D 2))])) rfl rfl (hb hby d11_44)) ?_
          show OwnR _ _ _ _ _ _ _ (s₁.setTop (mkF m 45 #[.val (.ref ea), .val (.int (Int32.ofNat i)), .val (.int (Int32.ofNat j))] [(.int (own_bi (own_e M 2 j)))]))
          by_cases hc45_11 : (own_bi (own_e M 2 j)) = (0 : Int32)
          · skip
            refine OwnR.of (fun _ hr => XS.ifYes X0.here hx rfl (pc0 := 45) (pc' := 52) rfl (hb hby d11_45) rfl ((if0 _ _).trans (teq hc45_11).1) (by decide) (by decide) hr) ?_
            show OwnR _ _ _ _ _ _ _ (s₁.setTop (mkF m 52 #[.val (.ref ea), .val (.int (Int32.ofNat i)), .val (.int (Int32.ofNat j))] []))
            refine OwnR.of (fun _ hr => XS.iconst X0.here hx rfl (hb hby d11_52) hr) ?_
            show OwnR _ _ _ _ _ _ _ (s₁.setTop (mkF m 53 #[.val (.ref ea), .val (.int (Int32.ofNat i)), .val (.int (Int32.ofNat j))] [(.int (0 : Int32))]))
            refine own_leafN X0 hx hlk (t := .boolean) Bd.returns (by simp) (hb hby d11_53) (z' := (0 : Int32)) rfl (by decide) (by decide) ?_
            show QPath2 Z M i j h0 n0 _ s₁.heap _
            rw [show s₁.heap = h0 from e0]
            refine ⟨?_, N0, rfl⟩
            show (some (.int (0 : Int32)) : Option Value) = some (.int (own_bi (own_path2 M i j)))
            simp only [own_bi0, Bool.not_eq_false] at hc5_1 hc13_8 hc21_9 hc37_10 hc45_11
            simp [own_path2, own_bi, hc5_1, hc13_8, hc21_9, hc37_10, hc45_11]
          · skip
            refine OwnR.of (fun _ hr => XS.ifNo X0.here hx rfl (hb hby d11_45) rfl ((if0 _ _).trans (feq hc45_11).1) hr) ?_
            show OwnR _ _ _ _ _ _ _ (s₁.setTop (mkF m 48 #[.val (.ref ea), .val (.int (Int32.ofNat i)), .val (.int (Int32.ofNat j))] []))
            refine OwnR.of (fun _ hr => XS.iconst X0.here hx rfl (hb hby d11_48) hr) ?_
            show OwnR _ _ _ _ _ _ _ (s₁.setTop (mkF m 49 #[.val (.ref ea), .val (.int (Int32.ofNat i)), .val (.int (Int32.ofNat j))] [(.int (1 : Int32))]))
            refine OwnR.of (fun _ hr => XS.goto X0.here hx rfl (pc0 := 49) (pc' := 53) rfl (hb hby d11_49) (by decide) (by decide) hr) ?_
            show OwnR _ _ _ _ _ _ _ (s₁.setTop (mkF m 53 #[.val (.ref ea), .val (.int (Int32.ofNat i)), .val (.int (Int32.ofNat j))] [(.int (1 : Int32))]))
            refine own_leafN X0 hx hlk (t := .boolean) Bd.returns (by simp) (hb hby d11_53) (z' := (1 : Int32)) rfl (by decide) (by decide) ?_
            show QPath2 Z M i j h0 n0 _ s₁.heap _
            rw [show s₁.heap = h0 from e0]
            refine ⟨?_, N0, rfl⟩
            show (some (.int (1 : Int32)) : Option Value) = some (.int (own_bi (own_path2 M i j)))
            simp only [own_bi0, Bool.not_eq_false] at hc5_1 hc13_8 hc21_9 hc37_10 hc45_11
            simp [own_path2, own_bi, hc5_1, hc13_8, hc21_9, hc37_10, hc45_11]
      · skip
        refine OwnR.of (fun _ hr => XS.ifNo X0.here hx rfl (hb hby d11_21) rfl ((if0 _ _).trans (feq hc21_9).1) hr) ?_
        show OwnR _ _ _ _ _ _ _ (s₁.setTop (mkF m 24 #[.val (.ref ea), .val (.int (Int32.ofNat i)), .val (.int (Int32.ofNat j))] []))
        refine OwnR.of (fun _ hr => XS.aloadN X0.here hx rfl (hb hby d11_24) rfl rfl hr) ?_
        show OwnR _ _ _ _ _ _ _ (s₁.setTop (mkF m 25 #[.val (.ref ea), .val (.int (Int32.ofNat i)), .val (.int (Int32.ofNat j))] [(.ref ea)]))
        refine OwnR.of (fun _ hr => XS.iconst X0.here hx rfl (hb hby d11_25) hr) ?_
        show OwnR _ _ _ _ _ _ _ (s₁.setTop (mkF m 26 #[.val (.ref ea), .val (.int (Int32.ofNat i)), .val (.int (Int32.ofNat j))] [(.int (1 : Int32)), (.ref ea)]))
        refine OwnR.of (own_aaload rfl X0 hx hZ e0 EE.1 (by decide) (by decide) (by decide) (v := .ref (D 1)) rfl (g := (mkF m 26 #[.val (.ref ea), .val (.int (Int32.ofNat i)), .val (.int (Int32.ofNat j))] [(.int (1 : Int32)), (.ref ea)])) rfl rfl (hb hby d11_26)) ?_
        show OwnR _ _ _ _ _ _ _ (s₁.setTop (mkF m 27 #[.val (.ref ea), .val (.int (Int32.ofNat i)), .val (.int (Int32.ofNat j))] [(.ref (D 1))]))
        refine OwnR.of (fun _ hr => XS.iloadN X0.here hx rfl (hb hby d11_27) rfl hr) ?_
        show OwnR _ _ _ _ _ _ _ (s₁.setTop (mkF m 28 #[.val (.ref ea), .val (.int (Int32.ofNat i)), .val (.int (Int32.ofNat j))] [(.int (Int32.ofNat j)), (.ref (D 1))]))
        refine OwnR.of (own_zaload X0 hx hZ e0 (EE.2 1 (by decide)) (own_c3 hj) (own_n3 hj) hj (v := .int (own_bi (own_e M 1 j))) rfl (g := (mkF m 28 #[.val (.ref ea), .val (.int (Int32.ofNat i)), .val (.int (Int32.ofNat j))] [(.int (Int32.ofNat j)), (.ref (D 1))])) rfl rfl (hb hby d11_28)) ?_
        show OwnR _ _ _ _ _ _ _ (s₁.setTop (mkF m 29 #[.val (.ref ea), .val (.int (Int32.ofNat i)), .val (.int (Int32.ofNat j))] [(.int (own_bi (own_e M 1 j)))]))
        by_cases hc29_12 : (own_bi (own_e M 1 j)) = (0 : Int32)
        · skip
          refine OwnR.of (fun _ hr => XS.ifNo X0.here hx rfl (hb hby d11_29) rfl ((if0 _ _).trans (teq hc29_12).2) hr) ?_
          show OwnR _ _ _ _ _ _ _ (s₁.setTop (mkF m 32 #[.val (.ref ea), .val (.int (Int32.ofNat i)), .val (.int (Int32.ofNat j))] []))
          refine OwnR.of (fun _ hr => XS.aloadN X0.here hx rfl (hb hby d11_32) rfl rfl hr) ?_
          show OwnR _ _ _ _ _ _ _ (s₁.setTop (mkF m 33 #[.val (.ref ea), .val (.int (Int32.ofNat i)), .val (.int (Int32.ofNat j))] [(.ref ea)]))
          refine OwnR.of (fun _ hr => XS.iloadN X0.here hx rfl (hb hby d11_33) rfl hr) ?_
          show OwnR _ _ _ _ _ _ _ (s₁.setTop (mkF m 34 #[.val (.ref ea), .val (.int (Int32.ofNat i)), .val (.int (Int32.ofNat j))] [(.int (Int32.ofNat i)), (.ref ea)]))
          refine OwnR.of (own_aaload rfl X0 hx hZ e0 EE.1 (own_c3 hi) (own_n3 hi) hi (v := .ref (D i)) rfl (g := (mkF m 34 #[.val (.ref ea), .val (.int (Int32.ofNat i)), .val (.int (Int32.ofNat j))] [(.int (Int32.ofNat i)), (.ref ea)])) rfl rfl (hb hby d11_34)) ?_
          show OwnR _ _ _ _ _ _ _ (s₁.setTop (mkF m 35 #[.val (.ref ea), .val (.int (Int32.ofNat i)), .val (.int (Int32.ofNat j))] [(.ref (D i))]))
          refine OwnR.of (fun _ hr => XS.iconst X0.here hx rfl (hb hby d11_35) hr) ?_
          show OwnR _ _ _ _ _ _ _ (s₁.setTop (mkF m 36 #[.val (.ref ea), .val (.int (Int32.ofNat i)), .val (.int (Int32.ofNat j))] [(.int (2 : Int32)), (.ref (D i))]))
          refine OwnR.of (own_zaload X0 hx hZ e0 (EE.2 i hi) (by decide) (by decide) (by decide) (v := .int (own_bi (own_e M i 2))) rfl (g := (mkF m 36 #[.val (.ref ea), .val (.int (Int32.ofNat i)), .val (.int (Int32.ofNat j))] [(.int (2 : Int32)), (.ref (D i))])) rfl rfl (hb hby d11_36)) ?_
          show OwnR _ _ _ _ _ _ _ (s₁.setTop (mkF m 37 #[.val (.ref ea), .val (.int (Int32.ofNat i)), .val (.int (Int32.ofNat j))] [(.int (own_bi (own_e M i 2)))]))
          by_cases hc37_13 : (own_bi (own_e M i 2)) = (0 : Int32)
          · skip
            refine OwnR.of (fun _ hr => XS.ifYes X0.here hx rfl (pc0 := 37) (pc' := 52) rfl (hb hby d11_37) rfl ((if0 _ _).trans (teq hc37_13).1) (by decide) (by decide) hr) ?_
            show OwnR _ _ _ _ _ _ _ (s₁.setTop (mkF m 52 #[.val (.ref ea), .val (.int (Int32.ofNat i)), .val (.int (Int32.ofNat j))] []))
            refine OwnR.of (fun _ hr => XS.iconst X0.here hx rfl (hb hby d11_52) hr) ?_
            show OwnR _ _ _ _ _ _ _ (s₁.setTop (mkF m 53 #[.val (.ref ea), .val (.int (Int32.ofNat i)), .val (.int (Int32.ofNat j))] [(.int (0 : Int32))]))
            refine own_leafN X0 hx hlk (t := .boolean) Bd.returns (by simp) (hb hby d11_53) (z' := (0 : Int32)) rfl (by decide) (by decide) ?_
            show QPath2 Z M i j h0 n0 _ s₁.heap _
            rw [show s₁.heap = h0 from e0]
            refine ⟨?_, N0, rfl⟩
            show (some (.int (0 : Int32)) : Option Value) = some (.int (own_bi (own_path2 M i j)))
            simp only [own_bi0, Bool.not_eq_false] at hc5_1 hc13_8 hc21_9 hc29_12 hc37_13
            simp [own_path2, own_bi, hc5_1, hc13_8, hc21_9, hc29_12, hc37_13]
          · skip
            refine OwnR.of (fun _ hr => XS.ifNo X0.here hx rfl (hb hby d11_37) rfl ((if0 _ _).trans (feq hc37_13).1) hr) ?_
            show OwnR _ _ _ _ _ _ _ (s₁.setTop (mkF m 40 #[.val (.ref ea), .val (.int (Int32.ofNat i)), .val (.int (Int32.ofNat j))] []))
            refine OwnR.of (fun _ hr => XS.aloadN X0.here hx rfl (hb hby d11_40) rfl rfl hr) ?_
            show OwnR _ _ _ _ _ _ _ (s₁.setTop (mkF m 41 #[.val (.ref ea), .val (.int (Int32.ofNat i)), .val (.int (Int32.ofNat j))] [(.ref ea)]))
            refine OwnR.of (fun _ hr => XS.iconst X0.here hx rfl (hb hby d11_41) hr) ?_
            show OwnR _ _ _ _ _ _ _ (s₁.setTop (mkF m 42 #[.val (.ref ea), .val (.int (Int32.ofNat i)), .val (.int (Int32.ofNat j))] [(.int (2 : Int32)), (.ref ea)]))
            refine OwnR.of (own_aaload rfl X0 hx hZ e0 EE.1 (by decide) (by decide) (by decide) (v := .ref (D 2)) rfl (g := (mkF m 42 #[.val (.ref ea), .val (.int (Int32.ofNat i)), .val (.int (Int32.ofNat j))] [(.int (2 : Int32)), (.ref ea)])) rfl rfl (hb hby d11_42)) ?_
            show OwnR _ _ _ _ _ _ _ (s₁.setTop (mkF m 43 #[.val (.ref ea), .val (.int (Int32.ofNat i)), .val (.int (Int32.ofNat j))] [(.ref (D 2))]))
            refine OwnR.of (fun _ hr => XS.iloadN X0.here hx rfl (hb hby d11_43) rfl hr) ?_
            show OwnR _ _ _ _ _ _ _ (s₁.setTop (mkF m 44 #[.val (.ref ea), .val (.int (Int32.ofNat i)), .val (.int (Int32.ofNat j))] [(.int (Int32.ofNat j)), (.ref (D 2))]))
            refine OwnR.of (own_zaload X0 hx hZ e0 (EE.2 2 (by decide)) (own_c3 hj) (own_n3 hj) hj (v := .int (own_bi (own_e M 2 j))) rfl (g := (mkF m 44 #[.val (.ref ea), .val (.int (Int32.ofNat i)), .val (.int (Int32.ofNat j))] [(.int (Int32.ofNat j)), (.ref (D 2))])) rfl rfl (hb hby d11_44)) ?_
            show OwnR _ _ _ _ _ _ _ (s₁.setTop (mkF m 45 #[.val (.ref ea), .val (.int (Int32.ofNat i)), .val (.int (Int32.ofNat j))] [(.int (own_bi (own_e M 2 j)))]))
            by_cases hc45_14 : (own_bi (own_e M 2 j)) = (0 : Int32)
            · skip
              refine OwnR.of (fun _ hr => XS.ifYes X0.here hx rfl (pc0 := 45) (pc' := 52) rfl (hb hby d11_45) rfl ((if0 _ _).trans (teq hc45_14).1) (by decide) (by decide) hr) ?_
              show OwnR _ _ _ _ _ _ _ (s₁.setTop (mkF m 52 #[.val (.ref ea), .val (.int (Int32.ofNat i)), .val (.int (Int32.ofNat j))] []))
              refine OwnR.of (fun _ hr => XS.iconst X0.here hx rfl (hb hby d11_52) hr) ?_
              show OwnR _ _ _ _ _ _ _ (s₁.setTop (mkF m 53 #[.val (.ref ea), .val (.int (Int32.ofNat i)), .val (.int (Int32.ofNat j))] [(.int (0 : Int32))]))
              refine own_leafN X0 hx hlk (t := .boolean) Bd.returns (by simp) (hb hby d11_53) (z' := (0 : Int32)) rfl (by decide) (by decide) ?_
              show QPath2 Z M i j h0 n0 _ s₁.heap _
              rw [show s₁.heap = h0 from e0]
              refine ⟨?_, N0, rfl⟩
              show (some (.int (0 : Int32)) : Option Value) = some (.int (own_bi (own_path2 M i j)))
              simp only [own_bi0, Bool.not_eq_false] at hc5_1 hc13_8 hc21_9 hc29_12 hc37_13 hc45_14
              simp [own_path2, own_bi, hc5_1, hc13_8, hc21_9, hc29_12, hc37_13, hc45_14]
            · skip
              refine OwnR.of (fun _ hr => XS.ifNo X0.here hx rfl (hb hby d11_45) rfl ((if0 _ _).trans (feq hc45_14).1) hr) ?_
              show OwnR _ _ _ _ _ _ _ (s₁.setTop (mkF m 48 #[.val (.ref ea), .val (.int (Int32.ofNat i)), .val (.int (Int32.ofNat j))] []))
              refine OwnR.of (fun _ hr => XS.iconst X0.here hx rfl (hb hby d11_48) hr) ?_
              show OwnR _ _ _ _ _ _ _ (s₁.setTop (mkF m 49 #[.val (.ref ea), .val (.int (Int32.ofNat i)), .val (.int (Int32.ofNat j))] [(.int (1 : Int32))]))
              refine OwnR.of (fun _ hr => XS.goto X0.here hx rfl (pc0 := 49) (pc' := 53) rfl (hb hby d11_49) (by decide) (by decide) hr) ?_
              show OwnR _ _ _ _ _ _ _ (s₁.setTop (mkF m 53 #[.val (.ref ea), .val (.int (Int32.ofNat i)), .val (.int (Int32.ofNat j))] [(.int (1 : Int32))]))
              refine own_leafN X0 hx hlk (t := .boolean) Bd.returns (by simp) (hb hby d11_53) (z' := (1 : Int32)) rfl (by decide) (by decide) ?_
              show QPath2 Z M i j h0 n0 _ s₁.heap _
              rw [show s₁.heap = h0 from e0]
              refine ⟨?_, N0, rfl⟩
              show (some (.int (1 : Int32)) : Option Value) = some (.int (own_bi (own_path2 M i j)))
              simp only [own_bi0, Bool.not_eq_false] at hc5_1 hc13_8 hc21_9 hc29_12 hc37_13 hc45_14
              simp [own_path2, own_bi, hc5_1, hc13_8, hc21_9, hc29_12, hc37_13, hc45_14]
        · skip
          refine OwnR.of (fun _ hr => XS.ifYes X0.here hx rfl (pc0 := 29) (pc' := 48) rfl (hb hby d11_29) rfl ((if0 _ _).trans (feq hc29_12).2) (by decide) (by decide) hr) ?_
          show OwnR _ _ _ _ _ _ _ (s₁.setTop (mkF m 48 #[.val (.ref ea), .val (.int (Int32.ofNat i)), .val (.int (Int32.ofNat j))] []))
          refine OwnR.of (fun _ hr => XS.iconst X0.here hx rfl (hb hby d11_48) hr) ?_
          show OwnR _ _ _ _ _ _ _ (s₁.setTop (mkF m 49 #[.val (.ref ea), .val (.int (Int32.ofNat i)), .val (.int (Int32.ofNat j))] [(.int (1 : Int32))]))
          refine OwnR.of (fun _ hr => XS.goto X0.here hx rfl (pc0 := 49) (pc' := 53) rfl (hb hby d11_49) (by decide) (by decide) hr) ?_
          show OwnR _ _ _ _ _ _ _ (s₁.setTop (mkF m 53 #[.val (.ref ea), .val (.int (Int32.ofNat i)), .val (.int (Int32.ofNat j))] [(.int (1 : Int32))]))
          refine own_leafN X0 hx hlk (t := .boolean) Bd.returns (by simp) (hb hby d11_53) (z' := (1 : Int32)) rfl (by decide) (by decide) ?_
          show QPath2 Z M i j h0 n0 _ s₁.heap _
          rw [show s₁.heap = h0 from e0]
          refine ⟨?_, N0, rfl⟩
          show (some (.int (1 : Int32)) : Option Value) = some (.int (own_bi (own_path2 M i j)))
          simp only [own_bi0, Bool.not_eq_false] at hc5_1 hc13_8 hc21_9 hc29_12
          simp [own_path2, own_bi, hc5_1, hc13_8, hc21_9, hc29_12]
    · skip
      refine OwnR.of (fun _ hr => XS.ifYes X0.here hx rfl (pc0 := 13) (pc' := 48) rfl (hb hby d11_13) rfl ((if0 _ _).trans (feq hc13_8).2) (by decide) (by decide) hr) ?_
      show OwnR _ _ _ _ _ _ _ (s₁.setTop (mkF m 48 #[.val (.ref ea), .val (.int (Int32.ofNat i)), .val (.int (Int32.ofNat j))] []))
      refine OwnR.of (fun _ hr => XS.iconst X0.here hx rfl (hb hby d11_48) hr) ?_
      show OwnR _ _ _ _ _ _ _ (s₁.setTop (mkF m 49 #[.val (.ref ea), .val (.int (Int32.ofNat i)), .val (.int (Int32.ofNat j))] [(.int (1 : Int32))]))
      refine OwnR.of (fun _ hr => XS.goto X0.here hx rfl (pc0 := 49) (pc' := 53) rfl (hb hby d11_49) (by decide) (by decide) hr) ?_
      show OwnR _ _ _ _ _ _ _ (s₁.setTop (mkF m 53 #[.val (.ref ea), .val (.int (Int32.ofNat i)), .val (.int (Int32.ofNat j))] [(.int (1 : Int32))]))
      refine own_leafN X0 hx hlk (t := .boolean) Bd.returns (by simp) (hb hby d11_53) (z' := (1 : Int32)) rfl (by decide) (by decide) ?_
      show QPath2 Z M i j h0 n0 _ s₁.heap _
      rw [show s₁.heap = h0 from e0]
      refine ⟨?_, N0, rfl⟩
      show (some (.int (1 : Int32)) : Option Value) = some (.int (own_bi (own_path2 M i j)))
      simp only [own_bi0, Bool.not_eq_false] at hc5_1 hc13_8
      simp [own_path2, own_bi, hc5_1, hc13_8]
theorem ef_rmPath3 (m : MethodId) (x0 : Addr) : entryFrame m #[(.ref x0), (.int (Int32.ofNat i)), (.int (Int32.ofNat j))] 3 = mkF m 0 #[.val (.ref x0), .val (.int (Int32.ofNat i)), .val (.int (Int32.ofNat j))] [] := by first | (simp [entryFrame, mkF, argsToLocals, Value.category]; done) | rfl
theorem d12_0 : decode method_6_code 0 = .ok (.aload_n 0, 1) := by decide +kernel
theorem d12_1 : decode method_6_code 1 = .ok (.iload_n 1, 1) := by decide +kernel
theorem d12_2 : decode method_6_code 2 = .ok (.iconst 0, 1) := by decide +kernel
theorem d12_3 : decode method_6_code 3 = .ok (.invokestatic 38, 3) := by decide +kernel
theorem pd____ZII_Z : parseMethodDescriptor "([[ZII)Z" = some ⟨[(.array (.array .boolean)), .int, .int], some .boolean⟩ := by decide +kernel
theorem d12_6 : decode method_6_code 6 = .ok (.ifCond .eq 11, 3) := by decide +kernel
theorem d12_17 : decode method_6_code 17 = .ok (.aload_n 0, 1) := by decide +kernel
theorem d12_18 : decode method_6_code 18 = .ok (.iload_n 1, 1) := by decide +kernel
theorem d12_19 : decode method_6_code 19 = .ok (.iconst 1, 1) := by decide +kernel
theorem d12_20 : decode method_6_code 20 = .ok (.invokestatic 38, 3) := by decide +kernel
theorem d12_23 : decode method_6_code 23 = .ok (.ifCond .eq 11, 3) := by decide +kernel
theorem d12_34 : decode method_6_code 34 = .ok (.aload_n 0, 1) := by decide +kernel
theorem d12_35 : decode method_6_code 35 = .ok (.iload_n 1, 1) := by decide +kernel
theorem d12_36 : decode method_6_code 36 = .ok (.iconst 2, 1) := by decide +kernel
theorem d12_37 : decode method_6_code 37 = .ok (.invokestatic 38, 3) := by decide +kernel
theorem d12_40 : decode method_6_code 40 = .ok (.ifCond .eq 15, 3) := by decide +kernel
theorem d12_55 : decode method_6_code 55 = .ok (.iconst 0, 1) := by decide +kernel
theorem d12_56 : decode method_6_code 56 = .ok (.ireturn, 1) := by decide +kernel
theorem d12_43 : decode method_6_code 43 = .ok (.aload_n 0, 1) := by decide +kernel
theorem d12_44 : decode method_6_code 44 = .ok (.iconst 2, 1) := by decide +kernel
theorem d12_45 : decode method_6_code 45 = .ok (.aaload, 1) := by decide +kernel
theorem d12_46 : decode method_6_code 46 = .ok (.iload_n 2, 1) := by decide +kernel
theorem d12_47 : decode method_6_code 47 = .ok (.baload, 1) := by decide +kernel
theorem d12_48 : decode method_6_code 48 = .ok (.ifCond .eq 7, 3) := by decide +kernel
theorem d12_51 : decode method_6_code 51 = .ok (.iconst 1, 1) := by decide +kernel
theorem d12_52 : decode method_6_code 52 = .ok (.goto 4, 3) := by decide +kernel
theorem d12_26 : decode method_6_code 26 = .ok (.aload_n 0, 1) := by decide +kernel
theorem d12_27 : decode method_6_code 27 = .ok (.iconst 1, 1) := by decide +kernel
theorem d12_28 : decode method_6_code 28 = .ok (.aaload, 1) := by decide +kernel
theorem d12_29 : decode method_6_code 29 = .ok (.iload_n 2, 1) := by decide +kernel
theorem d12_30 : decode method_6_code 30 = .ok (.baload, 1) := by decide +kernel
theorem d12_31 : decode method_6_code 31 = .ok (.ifCond .ne 20, 3) := by decide +kernel
theorem d12_9 : decode method_6_code 9 = .ok (.aload_n 0, 1) := by decide +kernel
theorem d12_10 : decode method_6_code 10 = .ok (.iconst 0, 1) := by decide +kernel
theorem d12_11 : decode method_6_code 11 = .ok (.aaload, 1) := by decide +kernel
theorem d12_12 : decode method_6_code 12 = .ok (.iload_n 2, 1) := by decide +kernel
theorem d12_13 : decode method_6_code 13 = .ok (.baload, 1) := by decide +kernel
theorem d12_14 : decode method_6_code 14 = .ok (.ifCond .ne 37, 3) := by decide +kernel
def QPath3 (Z : State) (M : Nat → Nat) (i : Nat) (j : Nat) (h0 : Heap) (n0 : Nat) (v : Option Value) (h : Heap) (L : List Loc) : Prop := v = some (.int (own_bi (own_path3 M i j))) ∧ Fr n0 L ∧ h = h0
set_option maxRecDepth 65536 in
set_option maxHeartbeats 40000000 in
theorem rmPath3 (l : Launch) (Z : State) (a0 : Array Value) (hw : ∀ d ∈ tables_1, d.before a0 Z = true) (ws : List Jvm.Cond) (ea : Addr) (kE : ClassId) (D : Nat → Addr) (kD : Nat → ClassId) (M : Nat → Nat) (i j : Nat) (h0 : Heap) (n0 : Nat) (Z0 : n0 ≤ h0.size) (EE : OwnE Z h0 ea kE D kD M) (hi : i < 3) (hj : j < 3) :
    MetFree l (⟨"com/example/fast_taxonomy/fasttaxonomy/taxonomy/RelationTopologicalOrderPinLaw", "path3", "([[ZII)Z"⟩ : MethodName) (head1 (Jvm.Cond.code (⟨"com/example/fast_taxonomy/fasttaxonomy/taxonomy/RelationTopologicalOrderPinLaw", "path3", "([[ZII)Z"⟩ : MethodName) method_6_code 3 (some .boolean) :: ws) ({ frames := 1, cells := 0, slots := 0, locals := 20 } : Room)) (fun a U => a = #[(.ref ea), (.int (Int32.ofNat i)), (.int (Int32.ofNat j))] ∧ Z.Warmed39 U.vm ∧ U.heap = h0) (fun _ _ _ _ _ => True) (fun _ U o U' => ∃ v L, o = .returned v ∧ QPath3 Z M i j h0 n0 v U'.heap L ∧ FrameEnd U o U' L ({ frames := 1, cells := 0, slots := 0, locals := 20 } : Room).cells ({ frames := 1, cells := 0, slots := 0, locals := 20 } : Room).slots) := by
  refine MetFree.of_bodySF (plainFor_of_name pn_com_example_fast_taxonomy_fasttaxonomy_taxonomy_RelationTopologicalOrderPinLaw) hisR ?_
  intro p e s m args below meth c s₁ Bd hml0 hP hK
  obtain ⟨rfl, hZ, hh⟩ := hP
  have hx := Bd.exec
  have hby := Bd.bytes
  have hlk := BodyLoose.notSynchronized Bd
  have hml : c.maxLocals = 3 := hml0
  have hown : s.vm.findClass "com/example/fast_taxonomy/fasttaxonomy/taxonomy/RelationTopologicalOrderPinLaw" = some m.cls := findClass_of_methodNamed Bd.named
  have hnm := (name_of_methodNamed Bd.named Bd.method).1
  have X0 : Stand p l e ({ frames := 1, cells := 0, slots := 0, locals := 20 } : Room) s m #[(.ref ea), (.int (Int32.ofNat i)), (.int (Int32.ofNat j))] below meth c s₁ [] 0 0 := Stand.of_body Bd
  have e0 : s₁.heap = h0 := by rw [← hh, Bd.state]; rfl
  have N0 := Fr.nil n0
  refine OwnR.of (s := s) (Q := QPath3 Z M i j h0 n0) (fun t k => castTop (ef_rmPath3 m ea) k) ?_
  show OwnR _ _ _ _ _ _ _ (s₁.setTop (mkF m 0 #[.val (.ref ea), .val (.int (Int32.ofNat i)), .val (.int (Int32.ofNat j))] []))
  refine OwnR.of (fun _ hr => XS.aloadN X0.here hx rfl (hb hby d12_0) rfl rfl hr) ?_
  show OwnR _ _ _ _ _ _ _ (s₁.setTop (mkF m 1 #[.val (.ref ea), .val (.int (Int32.ofNat i)), .val (.int (Int32.ofNat j))] [(.ref ea)]))
  refine OwnR.of (fun _ hr => XS.iloadN X0.here hx rfl (hb hby d12_1) rfl hr) ?_
  show OwnR _ _ _ _ _ _ _ (s₁.setTop (mkF m 2 #[.val (.ref ea), .val (.int (Int32.ofNat i)), .val (.int (Int32.ofNat j))] [(.int (Int32.ofNat i)), (.ref ea)]))
  refine OwnR.of (fun _ hr => XS.iconst X0.here hx rfl (hb hby d12_2) hr) ?_
  show OwnR _ _ _ _ _ _ _ (s₁.setTop (mkF m 3 #[.val (.ref ea), .val (.int (Int32.ofNat i)), .val (.int (Int32.ofNat j))] [(.int (0 : Int32)), (.int (Int32.ofNat i)), (.ref ea)]))
  obtain ⟨_, _, ⟨T1, L1, kc1, ns1⟩, -, X1, ⟨Lc1, hQ1, l1, y1, z1⟩, st1⟩ := Jvm.LawKit.callS X0 hx (y := (⟨"com/example/fast_taxonomy/fasttaxonomy/taxonomy/RelationTopologicalOrderPinLaw", "path2", "([[ZII)Z"⟩ : MethodName)) hown (mvT hZ (hw _ (List.mem_of_getElem? (i := 52) rfl))) (mvT hZ (hw _ (List.mem_of_getElem? (i := 53) rfl))) (mvT hZ (hw _ (List.mem_of_getElem? (i := 29) rfl))) (mvT hZ (hw _ (List.mem_of_getElem? (i := 54) rfl))) (by decide) (backOf (W := 0) (rmPath2 l Z a0 hw [] ea kE D kD M i 0 h0 n0 (Nat.le_trans Z0 (Keep.refl h0 []).1) EE hi (by decide)) hZ (hw _ (List.mem_of_getElem? (i := 54) rfl)) (hw _ (List.mem_of_getElem? (i := 29) rfl)) (by decide) (by decide)) (g := (mkF m 3 #[.val (.ref ea), .val (.int (Int32.ofNat i)), .val (.int (Int32.ofNat j))] [(.int (0 : Int32)), (.int (Int32.ofNat i)), (.ref ea)])) rfl (by rw [hml]; rfl) (argsL := [(.ref ea), (.int (Int32.ofNat i)), (.int (0 : Int32))]) (rest := []) (lenOf pd____ZII_Z rfl) rfl (by show 2 * 0 + _ ≤ _; exact Nat.le_of_eq rfl) (hb hby d12_3) (fun _ _ => ⟨rfl, e0, (by decide : 0 + 0 ≤ _), (by decide : 0 + 0 ≤ _)⟩)
  dsimp only [Pt.U, Pt.locs, Pt.cells, Pt.slots] at X1 l1 y1 z1 st1 hQ1
  rw [l1, y1, z1] at X1
  obtain ⟨rfl, N1q, e1⟩ := hQ1
  have N1 := Fr.app N0 N1q
  refine OwnR.of (st1) ?_
  show OwnR _ _ _ _ _ _ _ (T1.setTop (mkF m 6 #[.val (.ref ea), .val (.int (Int32.ofNat i)), .val (.int (Int32.ofNat j))] [(.int (own_bi (own_path2 M i 0)))]))
  by_cases hc6_2 : (own_bi (own_path2 M i 0)) = (0 : Int32)
  · skip
    refine OwnR.of (fun _ hr => XS.ifYes X1.here hx rfl (pc0 := 6) (pc' := 17) rfl (hb hby d12_6) rfl ((if0 _ _).trans (teq hc6_2).1) (by decide) (by decide) hr) ?_
    show OwnR _ _ _ _ _ _ _ (T1.setTop (mkF m 17 #[.val (.ref ea), .val (.int (Int32.ofNat i)), .val (.int (Int32.ofNat j))] []))
    refine OwnR.of (fun _ hr => XS.aloadN X1.here hx rfl (hb hby d12_17) rfl rfl hr) ?_
    show OwnR _ _ _ _ _ _ _ (T1.setTop (mkF m 18 #[.val (.ref ea), .val (.int (Int32.ofNat i)), .val (.int (Int32.ofNat j))] [(.ref ea)]))
    refine OwnR.of (fun _ hr => XS.iloadN X1.here hx rfl (hb hby d12_18) rfl hr) ?_
    show OwnR _ _ _ _ _ _ _ (T1.setTop (mkF m 19 #[.val (.ref ea), .val (.int (Int32.ofNat i)), .val (.int (Int32.ofNat j))] [(.int (Int32.ofNat i)), (.ref ea)]))
    refine OwnR.of (fun _ hr => XS.iconst X1.here hx rfl (hb hby d12_19) hr) ?_
    show OwnR _ _ _ _ _ _ _ (T1.setTop (mkF m 20 #[.val (.ref ea), .val (.int (Int32.ofNat i)), .val (.int (Int32.ofNat j))] [(.int (1 : Int32)), (.int (Int32.ofNat i)), (.ref ea)]))
    obtain ⟨_, _, ⟨T3, L3, kc3, ns3⟩, -, X3, ⟨Lc3, hQ3, l3, y3, z3⟩, st3⟩ := Jvm.LawKit.callS X1 hx (y := (⟨"com/example/fast_taxonomy/fasttaxonomy/taxonomy/RelationTopologicalOrderPinLaw", "path2", "([[ZII)Z"⟩ : MethodName)) hown (mvT hZ (hw _ (List.mem_of_getElem? (i := 52) rfl))) (mvT hZ (hw _ (List.mem_of_getElem? (i := 53) rfl))) (mvT hZ (hw _ (List.mem_of_getElem? (i := 29) rfl))) (mvT hZ (hw _ (List.mem_of_getElem? (i := 54) rfl))) (by decide) (backOf (W := 0) (rmPath2 l Z a0 hw [] ea kE D kD M i 1 h0 n0 (Nat.le_trans Z0 (Keep.refl h0 []).1) EE hi (by decide)) hZ (hw _ (List.mem_of_getElem? (i := 54) rfl)) (hw _ (List.mem_of_getElem? (i := 29) rfl)) (by decide) (by decide)) (g := (mkF m 20 #[.val (.ref ea), .val (.int (Int32.ofNat i)), .val (.int (Int32.ofNat j))] [(.int (1 : Int32)), (.int (Int32.ofNat i)), (.ref ea)])) rfl (by rw [hml]; rfl) (argsL := [(.ref ea), (.int (Int32.ofNat i)), (.int (1 : Int32))]) (rest := []) (lenOf pd____ZII_Z rfl) rfl (by show 2 * 0 + _ ≤ _; exact Nat.le_of_eq rfl) (hb hby d12_20) (fun _ _ => ⟨rfl, e1, (by decide : 0 + 0 ≤ _), (by decide : 0 + 0 ≤ _)⟩)
    dsimp only [Pt.U, Pt.locs, Pt.cells, Pt.slots] at X3 l3 y3 z3 st3 hQ3
    rw [l3, y3, z3] at X3
    obtain ⟨rfl, N3q, e3⟩ := hQ3
    have N3 := Fr.app N1 N3q
    refine OwnR.of (st3) ?_
    show OwnR _ _ _ _ _ _ _ (T3.setTop (mkF m 23 #[.val (.ref ea), .val (.int (Int32.ofNat i)), .val (.int (Int32.ofNat j))] [(.int (own_bi (own_path2 M i 1)))]))
    by_cases hc23_4 : (own_bi (own_path2 M i 1)) = (0 : Int32)
    · skip
      refine OwnR.of (fun _ hr => XS.ifYes X3.here hx rfl (pc0 := 23) (pc' := 34) rfl (hb hby d12_23) rfl ((if0 _ _).trans (teq hc23_4).1) (by decide) (by decide) hr) ?_
      show OwnR _ _ _ _ _ _ _ (T3.setTop (mkF m 34 #[.val (.ref ea), .val (.int (Int32.ofNat i)), .val (.int (Int32.ofNat j))] []))
      refine OwnR.of (fun _ hr => XS.aloadN X3.here hx rfl (hb hby d12_34) rfl rfl hr) ?_
      show OwnR _ _ _ _ _ _ _ (T3.setTop (mkF m 35 #[.val (.ref ea), .val (.int (Int32.ofNat i)), .val (.int (Int32.ofNat j))] [(.ref ea)]))
      refine OwnR.of (fun _ hr => XS.iloadN X3.here hx rfl (hb hby d12_35) rfl hr) ?_
      show OwnR _ _ _ _ _ _ _ (T3.setTop (mkF m 36 #[.val (.ref ea), .val (.int (Int32.ofNat i)), .val (.int (Int32.ofNat j))] [(.int (Int32.ofNat i)), (.ref ea)]))
      refine OwnR.of (fun _ hr => XS.iconst X3.here hx rfl (hb hby d12_36) hr) ?_
      show OwnR _ _ _ _ _ _ _ (T3.setTop (mkF m 37 #[.val (.ref ea), .val (.int (Int32.ofNat i)), .val (.int (Int32.ofNat j))] [(.int (2 : Int32)), (.int (Int32.ofNat i)), (.ref ea)]))
      obtain ⟨_, _, ⟨T5, L5, kc5, ns5⟩, -, X5, ⟨Lc5, hQ5, l5, y5, z5⟩, st5⟩ := Jvm.LawKit.callS X3 hx (y := (⟨"com/example/fast_taxonomy/fasttaxonomy/taxonomy/RelationTopologicalOrderPinLaw", "path2", "([[ZII)Z"⟩ : MethodName)) hown (mvT hZ (hw _ (List.mem_of_getElem? (i := 52) rfl))) (mvT hZ (hw _ (List.mem_of_getElem? (i := 53) rfl))) (mvT hZ (hw _ (List.mem_of_getElem? (i := 29) rfl))) (mvT hZ (hw _ (List.mem_of_getElem? (i := 54) rfl))) (by decide) (backOf (W := 0) (rmPath2 l Z a0 hw [] ea kE D kD M i 2 h0 n0 (Nat.le_trans Z0 (Keep.refl h0 []).1) EE hi (by decide)) hZ (hw _ (List.mem_of_getElem? (i := 54) rfl)) (hw _ (List.mem_of_getElem? (i := 29) rfl)) (by decide) (by decide)) (g := (mkF m 37 #[.val (.ref ea), .val (.int (Int32.ofNat i)), .val (.int (Int32.ofNat j))] [(.int (2 : Int32)), (.int (Int32.ofNat i)), (.ref ea)])) rfl (by rw [hml]; rfl) (argsL := [(.ref ea), (.int (Int32.ofNat i)), (.int (2 : Int32))]) (rest := []) (lenOf pd____ZII_Z rfl) rfl (by show 2 * 0 + _ ≤ _; exact Nat.le_of_eq rfl) (hb hby d12_37) (fun _ _ => ⟨rfl, e3, (by decide : 0 + 0 ≤ _), (by decide : 0 + 0 ≤ _)⟩)
      dsimp only [Pt.U, Pt.locs, Pt.cells, Pt.slots] at X5 l5 y5 z5 st5 hQ5
      rw [l5, y5, z5] at X5
      obtain ⟨rfl, N5q, e5⟩ := hQ5
      have N5 := Fr.app N3 N5q
      refine OwnR.of (st5) ?_
      show OwnR _ _ _ _ _ _ _ (T5.setTop (mkF m 40 #[.val (.ref ea), .val (.int (Int32.ofNat i)), .val (.int (Int32.ofNat j))] [(.int (own_bi (own_path2 M i 2)))]))
      by_cases hc40_6 : (own_bi (own_path2 M i 2)) = (0 : Int32)
      · skip
        refine OwnR.of (fun _ hr => XS.ifYes X5.here hx rfl (pc0 := 40) (pc' := 55) rfl (hb hby d12_40) rfl ((if0 _ _).trans (teq hc40_6).1) (by decide) (by decide) hr) ?_
        show OwnR _ _ _ _ _ _ _ (T5.setTop (mkF m 55 #[.val (.ref ea), .val (.int (Int32.ofNat i)), .val (.int (Int32.ofNat j))] []))
        refine OwnR.of (fun _ hr => XS.iconst X5.here hx rfl (hb hby d12_55) hr) ?_
        show OwnR _ _ _ _ _ _ _ (T5.setTop (mkF m 56 #[.val (.ref ea), .val (.int (Int32.ofNat i)), .val (.int (Int32.ofNat j))] [(.int (0 : Int32))]))
        refine own_leafN X5 hx hlk (t := .boolean) Bd.returns (by simp) (hb hby d12_56) (z' := (0 : Int32)) rfl (by decide) (by decide) ?_
        show QPath3 Z M i j h0 n0 _ T5.heap _
        rw [show T5.heap = h0 from e5]
        refine ⟨?_, N5, rfl⟩
        show (some (.int (0 : Int32)) : Option Value) = some (.int (own_bi (own_path3 M i j)))
        simp only [own_bi0, Bool.not_eq_false] at hc6_2 hc23_4 hc40_6
        simp [own_path3, own_bi, hc6_2, hc23_4, hc40_6]
      · skip
        refine OwnR.of (fun _ hr => XS.ifNo X5.here hx rfl (hb hby d12_40) rfl ((if0 _ _).trans (feq hc40_6).1) hr) ?_
        show OwnR _ _ _ _ _ _ _ (T5.setTop (mkF m 43 #[.val (.ref ea), .val (.int (Int32.ofNat i)), .val (.int (Int32.ofNat j))] []))
        refine OwnR.of (fun _ hr => XS.aloadN X5.here hx rfl (hb hby d12_43) rfl rfl hr) ?_
        show OwnR _ _ _ _ _ _ _ (T5.setTop (mkF m 44 #[.val (.ref ea), .val (.int (Int32.ofNat i)), .val (.int (Int32.ofNat j))] [(.ref ea)]))
        refine OwnR.of (fun _ hr => XS.iconst X5.here hx rfl (hb hby d12_44) hr) ?_
        show OwnR _ _ _ _ _ _ _ (T5.setTop (mkF m 45 #[.val (.ref ea), .val (.int (Int32.ofNat i)), .val (.int (Int32.ofNat j))] [(.int (2 : Int32)), (.ref ea)]))
        refine OwnR.of (own_aaload rfl X5 hx hZ e5 EE.1 (by decide) (by decide) (by decide) (v := .ref (D 2)) rfl (g := (mkF m 45 #[.val (.ref ea), .val (.int (Int32.ofNat i)), .val (.int (Int32.ofNat j))] [(.int (2 : Int32)), (.ref ea)])) rfl rfl (hb hby d12_45)) ?_
        show OwnR _ _ _ _ _ _ _ (T5.setTop (mkF m 46 #[.val (.ref ea), .val (.int (Int32.ofNat i)), .val (.int (Int32.ofNat j))] [(.ref (D 2))]))
        refine OwnR.of (fun _ hr => XS.iloadN X5.here hx rfl (hb hby d12_46) rfl hr) ?_
        show OwnR _ _ _ _ _ _ _ (T5.setTop (mkF m 47 #[.val (.ref ea), .val (.int (Int32.ofNat i)), .val (.int (Int32.ofNat j))] [(.int (Int32.ofNat j)), (.ref (D 2))]))
        refine OwnR.of (own_zaload X5 hx hZ e5 (EE.2 2 (by decide)) (own_c3 hj) (own_n3 hj) hj (v := .int (own_bi (own_e M 2 j))) rfl (g := (mkF m 47 #[.val (.ref ea), .val (.int (Int32.ofNat i)), .val (.int (Int32.ofNat j))] [(.int (Int32.ofNat j)), (.ref (D 2))])) rfl rfl (hb hby d12_47)) ?_
        show OwnR _ _ _ _ _ _ _ (T5.setTop (mkF m 48 #[.val (.ref ea), .val (.int (Int32.ofNat i)), .val (.int (Int32.ofNat j))] [(.int (own_bi (own_e M 2 j)))]))
        by_cases hc48_7 : (own_bi (own_e M 2 j)) = (0 : Int32)
        · skip
          refine OwnR.of (fun _ hr => XS.ifYes X5.here hx rfl (pc0 := 48) (pc' := 55) rfl (hb hby d12_48) rfl ((if0 _ _).trans (teq hc48_7).1) (by decide) (by decide) hr) ?_
          show OwnR _ _ _ _ _ _ _ (T5.setTop (mkF m 55 #[.val (.ref ea), .val (.int (Int32.ofNat i)), .val (.int (Int32.ofNat j))] []))
          refine OwnR.of (fun _ hr => XS.iconst X5.here hx rfl (hb hby d12_55) hr) ?_
          show OwnR _ _ _ _ _ _ _ (T5.setTop (mkF m 56 #[.val (.ref ea), .val (.int (Int32.ofNat i)), .val (.int (Int32.ofNat j))] [(.int (0 : Int32))]))
          refine own_leafN X5 hx hlk (t := .boolean) Bd.returns (by simp) (hb hby d12_56) (z' := (0 : Int32)) rfl (by decide) (by decide) ?_
          show QPath3 Z M i j h0 n0 _ T5.heap _
          rw [show T5.heap = h0 from e5]
          refine ⟨?_, N5, rfl⟩
          show (some (.int (0 : Int32)) : Option Value) = some (.int (own_bi (own_path3 M i j)))
          simp only [own_bi0, Bool.not_eq_false] at hc6_2 hc23_4 hc40_6 hc48_7
          simp [own_path3, own_bi, hc6_2, hc23_4, hc40_6, hc48_7]
        · skip
          refine OwnR.of (fun _ hr => XS.ifNo X5.here hx rfl (hb hby d12_48) rfl ((if0 _ _).trans (feq hc48_7).1) hr) ?_
          show OwnR _ _ _ _ _ _ _ (T5.setTop (mkF m 51 #[.val (.ref ea), .val (.int (Int32.ofNat i)), .val (.int (Int32.ofNat j))] []))
          refine OwnR.of (fun _ hr => XS.iconst X5.here hx rfl (hb hby d12_51) hr) ?_
          show OwnR _ _ _ _ _ _ _ (T5.setTop (mkF m 52 #[.val (.ref ea), .val (.int (Int32.ofNat i)), .val (.int (Int32.ofNat j))] [(.int (1 : Int32))]))
          refine OwnR.of (fun _ hr => XS.goto X5.here hx rfl (pc0 := 52) (pc' := 56) rfl (hb hby d12_52) (by decide) (by decide) hr) ?_
          show OwnR _ _ _ _ _ _ _ (T5.setTop (mkF m 56 #[.val (.ref ea), .val (.int (Int32.ofNat i)), .val (.int (Int32.ofNat j))] [(.int (1 : Int32))]))
          refine own_leafN X5 hx hlk (t := .boolean) Bd.returns (by simp) (hb hby d12_56) (z' := (1 : Int32)) rfl (by decide) (by decide) ?_
          show QPath3 Z M i j h0 n0 _ T5.heap _
          rw [show T5.heap = h0 from e5]
          refine ⟨?_, N5, rfl⟩
          show (some (.int (1 : Int32)) : Option Value) = some (.int (own_bi (own_path3 M i j)))
          simp only [own_bi0, Bool.not_eq_false] at hc6_2 hc23_4 hc40_6 hc48_7
          simp [own_path3, own_bi, hc6_2, hc23_4, hc40_6, hc48_7]
    · skip
      refine OwnR.of (fun _ hr => XS.ifNo X3.here hx rfl (hb hby d12_23) rfl ((if0 _ _).trans (feq hc23_4).1) hr) ?_
      show OwnR _ _ _ _ _ _ _ (T3.setTop (mkF m 26 #[.val (.ref ea), .val (.int (Int32.ofNat i)), .val (.int (Int32.ofNat j))] []))
      refine OwnR.of (fun _ hr => XS.aloadN X3.here hx rfl (hb hby d12_26) rfl rfl hr) ?_
      show OwnR _ _ _ _ _ _ _ (T3.setTop (mkF m 27 #[.val (.ref ea), .val (.int (Int32.ofNat i)), .val (.int (Int32.ofNat j))] [(.ref ea)]))
      refine OwnR.of (fun _ hr => XS.iconst X3.here hx rfl (hb hby d12_27) hr) ?_
      show OwnR _ _ _ _ _ _ _ (T3.setTop (mkF m 28 #[.val (.ref ea), .val (.int (Int32.ofNat i)), .val (.int (Int32.ofNat j))] [(.int (1 : Int32)), (.ref ea)]))
      refine OwnR.of (own_aaload rfl X3 hx hZ e3 EE.1 (by decide) (by decide) (by decide) (v := .ref (D 1)) rfl (g := (mkF m 28 #[.val (.ref ea), .val (.int (Int32.ofNat i)), .val (.int (Int32.ofNat j))] [(.int (1 : Int32)), (.ref ea)])) rfl rfl (hb hby d12_28)) ?_
      show OwnR _ _ _ _ _ _ _ (T3.setTop (mkF m 29 #[.val (.ref ea), .val (.int (Int32.ofNat i)), .val (.int (Int32.ofNat j))] [(.ref (D 1))]))
      refine OwnR.of (fun _ hr => XS.iloadN X3.here hx rfl (hb hby d12_29) rfl hr) ?_
      show OwnR _ _ _ _ _ _ _ (T3.setTop (mkF m 30 #[.val (.ref ea), .val (.int (Int32.ofNat i)), .val (.int (Int32.ofNat j))] [(.int (Int32.ofNat j)), (.ref (D 1))]))
      refine OwnR.of (own_zaload X3 hx hZ e3 (EE.2 1 (by decide)) (own_c3 hj) (own_n3 hj) hj (v := .int (own_bi (own_e M 1 j))) rfl (g := (mkF m 30 #[.val (.ref ea), .val (.int (Int32.ofNat i)), .val (.int (Int32.ofNat j))] [(.int (Int32.ofNat j)), (.ref (D 1))])) rfl rfl (hb hby d12_30)) ?_
      show OwnR _ _ _ _ _ _ _ (T3.setTop (mkF m 31 #[.val (.ref ea), .val (.int (Int32.ofNat i)), .val (.int (Int32.ofNat j))] [(.int (own_bi (own_e M 1 j)))]))
      by_cases hc31_8 : (own_bi (own_e M 1 j)) = (0 : Int32)
      · skip
        refine OwnR.of (fun _ hr => XS.ifNo X3.here hx rfl (hb hby d12_31) rfl ((if0 _ _).trans (teq hc31_8).2) hr) ?_
        show OwnR _ _ _ _ _ _ _ (T3.setTop (mkF m 34 #[.val (.ref ea), .val (.int (Int32.ofNat i)), .val (.int (Int32.ofNat j))] []))
        refine OwnR.of (fun _ hr => XS.aloadN X3.here hx rfl (hb hby d12_34) rfl rfl hr) ?_
        show OwnR _ _ _ _ _ _ _ (T3.setTop (mkF m 35 #[.val (.ref ea), .val (.int (Int32.ofNat i)), .val (.int (Int32.ofNat j))] [(.ref ea)]))
        refine OwnR.of (fun _ hr => XS.iloadN X3.here hx rfl (hb hby d12_35) rfl hr) ?_
        show OwnR _ _ _ _ _ _ _ (T3.setTop (mkF m 36 #[.val (.ref ea), .val (.int (Int32.ofNat i)), .val (.int (Int32.ofNat j))] [(.int (Int32.ofNat i)), (.ref ea)]))
        refine OwnR.of (fun _ hr => XS.iconst X3.here hx rfl (hb hby d12_36) hr) ?_
        show OwnR _ _ _ _ _ _ _ (T3.setTop (mkF m 37 #[.val (.ref ea), .val (.int (Int32.ofNat i)), .val (.int (Int32.ofNat j))] [(.int (2 : Int32)), (.int (Int32.ofNat i)), (.ref ea)]))
        obtain ⟨_, _, ⟨T9, L9, kc9, ns9⟩, -, X9, ⟨Lc9, hQ9, l9, y9, z9⟩, st9⟩ := Jvm.LawKit.callS X3 hx (y := (⟨"com/example/fast_taxonomy/fasttaxonomy/taxonomy/RelationTopologicalOrderPinLaw", "path2", "([[ZII)Z"⟩ : MethodName)) hown (mvT hZ (hw _ (List.mem_of_getElem? (i := 52) rfl))) (mvT hZ (hw _ (List.mem_of_getElem? (i := 53) rfl))) (mvT hZ (hw _ (List.mem_of_getElem? (i := 29) rfl))) (mvT hZ (hw _ (List.mem_of_getElem? (i := 54) rfl))) (by decide) (backOf (W := 0) (rmPath2 l Z a0 hw [] ea kE D kD M i 2 h0 n0 (Nat.le_trans Z0 (Keep.refl h0 []).1) EE hi (by decide)) hZ (hw _ (List.mem_of_getElem? (i := 54) rfl)) (hw _ (List.mem_of_getElem? (i := 29) rfl)) (by decide) (by decide)) (g := (mkF m 37 #[.val (.ref ea), .val (.int (Int32.ofNat i)), .val (.int (Int32.ofNat j))] [(.int (2 : Int32)), (.int (Int32.ofNat i)), (.ref ea)])) rfl (by rw [hml]; rfl) (argsL := [(.ref ea), (.int (Int32.ofNat i)), (.int (2 : Int32))]) (rest := []) (lenOf pd____ZII_Z rfl) rfl (by show 2 * 0 + _ ≤ _; exact Nat.le_of_eq rfl) (hb hby d12_37) (fun _ _ => ⟨rfl, e3, (by decide : 0 + 0 ≤ _), (by decide : 0 + 0 ≤ _)⟩)
        dsimp only [Pt.U, Pt.locs, Pt.cells, Pt.slots] at X9 l9 y9 z9 st9 hQ9
        rw [l9, y9, z9] at X9
        obtain ⟨rfl, N9q, e9⟩ := hQ9
        have N9 := Fr.app N3 N9q
        refine OwnR.of (st9) ?_
        show OwnR _ _ _ _ _ _ _ (T9.setTop (mkF m 40 #[.val (.ref ea), .val (.int (Int32.ofNat i)), .val (.int (Int32.ofNat j))] [(.int (own_bi (own_path2 M i 2)))]))
        by_cases hc40_10 : (own_bi (own_path2 M i 2)) = (0 : Int32)
        · skip
          refine OwnR.of (fun _ hr => XS.ifYes X9.here hx rfl (pc0 := 40) (pc' := 55) rfl (hb hby d12_40) rfl ((if0 _ _).trans (teq hc40_10).1) (by decide) (by decide) hr) ?_
          show OwnR _ _ _ _ _ _ _ (T9.setTop (mkF m 55 #[.val (.ref ea), .val (.int (Int32.ofNat i)), .val (.int (Int32.ofNat j))] []))
          refine OwnR.of (fun _ hr => XS.iconst X9.here hx rfl (hb hby d12_55) hr) ?_
          show OwnR _ _ _ _ _ _ _ (T9.setTop (mkF m 56 #[.val (.ref ea), .val (.int (Int32.ofNat i)), .val (.int (Int32.ofNat j))] [(.int (0 : Int32))]))
          refine own_leafN X9 hx hlk (t := .boolean) Bd.returns (by simp) (hb hby d12_56) (z' := (0 : Int32)) rfl (by decide) (by decide) ?_
          show QPath3 Z M i j h0 n0 _ T9.heap _
          rw [show T9.heap = h0 from e9]
          refine ⟨?_, N9, rfl⟩
          show (some (.int (0 : Int32)) : Option Value) = some (.int (own_bi (own_path3 M i j)))
          simp only [own_bi0, Bool.not_eq_false] at hc6_2 hc23_4 hc31_8 hc40_10
          simp [own_path3, own_bi, hc6_2, hc23_4, hc31_8, hc40_10]
        · skip
          refine OwnR.of (fun _ hr => XS.ifNo X9.here hx rfl (hb hby d12_40) rfl ((if0 _ _).trans (feq hc40_10).1) hr) ?_
          show OwnR _ _ _ _ _ _ _ (T9.setTop (mkF m 43 #[.val (.ref ea), .val (.int (Int32.ofNat i)), .val (.int (Int32.ofNat j))] []))
          refine OwnR.of (fun _ hr => XS.aloadN X9.here hx rfl (hb hby d12_43) rfl rfl hr) ?_
          show OwnR _ _ _ _ _ _ _ (T9.setTop (mkF m 44 #[.val (.ref ea), .val (.int (Int32.ofNat i)), .val (.int (Int32.ofNat j))] [(.ref ea)]))
          refine OwnR.of (fun _ hr => XS.iconst X9.here hx rfl (hb hby d12_44) hr) ?_
          show OwnR _ _ _ _ _ _ _ (T9.setTop (mkF m 45 #[.val (.ref ea), .val (.int (Int32.ofNat i)), .val (.int (Int32.ofNat j))] [(.int (2 : Int32)), (.ref ea)]))
          refine OwnR.of (own_aaload rfl X9 hx hZ e9 EE.1 (by decide) (by decide) (by decide) (v := .ref (D 2)) rfl (g := (mkF m 45 #[.val (.ref ea), .val (.int (Int32.ofNat i)), .val (.int (Int32.ofNat j))] [(.int (2 : Int32)), (.ref ea)])) rfl rfl (hb hby d12_45)) ?_
          show OwnR _ _ _ _ _ _ _ (T9.setTop (mkF m 46 #[.val (.ref ea), .val (.int (Int32.ofNat i)), .val (.int (Int32.ofNat j))] [(.ref (D 2))]))
          refine OwnR.of (fun _ hr => XS.iloadN X9.here hx rfl (hb hby d12_46) rfl hr) ?_
          show OwnR _ _ _ _ _ _ _ (T9.setTop (mkF m 47 #[.val (.ref ea), .val (.int (Int32.ofNat i)), .val (.int (Int32.ofNat j))] [(.int (Int32.ofNat j)), (.ref (D 2))]))
          refine OwnR.of (own_zaload X9 hx hZ e9 (EE.2 2 (by decide)) (own_c3 hj) (own_n3 hj) hj (v := .int (own_bi (own_e M 2 j))) rfl (g := (mkF m 47 #[.val (.ref ea), .val (.int (Int32.ofNat i)), .val (.int (Int32.ofNat j))] [(.int (Int32.ofNat j)), (.ref (D 2))])) rfl rfl (hb hby d12_47)) ?_
          show OwnR _ _ _ _ _ _ _ (T9.setTop (mkF m 48 #[.val (.ref ea), .val (.int (Int32.ofNat i)), .val (.int (Int32.ofNat j))] [(.int (own_bi (own_e M 2 j)))]))
          by_cases hc48_11 : (own_bi (own_e M 2 j)) = (0 : Int32)
          · skip
            refine OwnR.of (fun _ hr => XS.ifYes X9.here hx rfl (pc0 := 48) (pc' := 55) rfl (hb hby d12_48) rfl ((if0 _ _).trans (teq hc48_11).1) (by decide) (by decide) hr) ?_
            show OwnR _ _ _ _ _ _ _ (T9.setTop (mkF m 55 #[.val (.ref ea), .val (.int (Int32.ofNat i)), .val (.int (Int32.ofNat j))] []))
            refine OwnR.of (fun _ hr => XS.iconst X9.here hx rfl (hb hby d12_55) hr) ?_
            show OwnR _ _ _ _ _ _ _ (T9.setTop (mkF m 56 #[.val (.ref ea), .val (.int (Int32.ofNat i)), .val (.int (Int32.ofNat j))] [(.int (0 : Int32))]))
            refine own_leafN X9 hx hlk (t := .boolean) Bd.returns (by simp) (hb hby d12_56) (z' := (0 : Int32)) rfl (by decide) (by decide) ?_
            show QPath3 Z M i j h0 n0 _ T9.heap _
            rw [show T9.heap = h0 from e9]
            refine ⟨?_, N9, rfl⟩
            show (some (.int (0 : Int32)) : Option Value) = some (.int (own_bi (own_path3 M i j)))
            simp only [own_bi0, Bool.not_eq_false] at hc6_2 hc23_4 hc31_8 hc40_10 hc48_11
            simp [own_path3, own_bi, hc6_2, hc23_4, hc31_8, hc40_10, hc48_11]
          · skip
            refine OwnR.of (fun _ hr => XS.ifNo X9.here hx rfl (hb hby d12_48) rfl ((if0 _ _).trans (feq hc48_11).1) hr) ?_
            show OwnR _ _ _ _ _ _ _ (T9.setTop (mkF m 51 #[.val (.ref ea), .val (.int (Int32.ofNat i)), .val (.int (Int32.ofNat j))] []))
            refine OwnR.of (fun _ hr => XS.iconst X9.here hx rfl (hb hby d12_51) hr) ?_
            show OwnR _ _ _ _ _ _ _ (T9.setTop (mkF m 52 #[.val (.ref ea), .val (.int (Int32.ofNat i)), .val (.int (Int32.ofNat j))] [(.int (1 : Int32))]))
            refine OwnR.of (fun _ hr => XS.goto X9.here hx rfl (pc0 := 52) (pc' := 56) rfl (hb hby d12_52) (by decide) (by decide) hr) ?_
            show OwnR _ _ _ _ _ _ _ (T9.setTop (mkF m 56 #[.val (.ref ea), .val (.int (Int32.ofNat i)), .val (.int (Int32.ofNat j))] [(.int (1 : Int32))]))
            refine own_leafN X9 hx hlk (t := .boolean) Bd.returns (by simp) (hb hby d12_56) (z' := (1 : Int32)) rfl (by decide) (by decide) ?_
            show QPath3 Z M i j h0 n0 _ T9.heap _
            rw [show T9.heap = h0 from e9]
            refine ⟨?_, N9, rfl⟩
            show (some (.int (1 : Int32)) : Option Value) = some (.int (own_bi (own_path3 M i j)))
            simp only [own_bi0, Bool.not_eq_false] at hc6_2 hc23_4 hc31_8 hc40_10 hc48_11
            simp [own_path3, own_bi, hc6_2, hc23_4, hc31_8, hc40_10, hc48_11]
      · skip
        refine OwnR.of (fun _ hr => XS.ifYes X3.here hx rfl (pc0 := 31) (pc' := 51) rfl (hb hby d12_31) rfl ((if0 _ _).trans (feq hc31_8).2) (by decide) (by decide) hr) ?_
        show OwnR _ _ _ _ _ _ _ (T3.setTop (mkF m 51 #[.val (.ref ea), .val (.int (Int32.ofNat i)), .val (.int (Int32.ofNat j))] []))
        refine OwnR.of (fun _ hr => XS.iconst X3.here hx rfl (hb hby d12_51) hr) ?_
        show OwnR _ _ _ _ _ _ _ (T3.setTop (mkF m 52 #[.val (.ref ea), .val (.int (Int32.ofNat i)), .val (.int (Int32.ofNat j))] [(.int (1 : Int32))]))
        refine OwnR.of (fun _ hr => XS.goto X3.here hx rfl (pc0 := 52) (pc' := 56) rfl (hb hby d12_52) (by decide) (by decide) hr) ?_
        show OwnR _ _ _ _ _ _ _ (T3.setTop (mkF m 56 #[.val (.ref ea), .val (.int (Int32.ofNat i)), .val (.int (Int32.ofNat j))] [(.int (1 : Int32))]))
        refine own_leafN X3 hx hlk (t := .boolean) Bd.returns (by simp) (hb hby d12_56) (z' := (1 : Int32)) rfl (by decide) (by decide) ?_
        show QPath3 Z M i j h0 n0 _ T3.heap _
        rw [show T3.heap = h0 from e3]
        refine ⟨?_, N3, rfl⟩
        show (some (.int (1 : Int32)) : Option Value) = some (.int (own_bi (own_path3 M i j)))
        simp only [own_bi0, Bool.not_eq_false] at hc6_2 hc23_4 hc31_8
        simp [own_path3, own_bi, hc6_2, hc23_4, hc31_8]
  · skip
    refine OwnR.of (fun _ hr => XS.ifNo X1.here hx rfl (hb hby d12_6) rfl ((if0 _ _).trans (feq hc6_2).1) hr) ?_
    show OwnR _ _ _ _ _ _ _ (T1.setTop (mkF m 9 #[.val (.ref ea), .val (.int (Int32.ofNat i)), .val (.int (Int32.ofNat j))] []))
    refine OwnR.of (fun _ hr => XS.aloadN X1.here hx rfl (hb hby d12_9) rfl rfl hr) ?_
    show OwnR _ _ _ _ _ _ _ (T1.setTop (mkF m 10 #[.val (.ref ea), .val (.int (Int32.ofNat i)), .val (.int (Int32.ofNat j))] [(.ref ea)]))
    refine OwnR.of (fun _ hr => XS.iconst X1.here hx rfl (hb hby d12_10) hr) ?_
    show OwnR _ _ _ _ _ _ _ (T1.setTop (mkF m 11 #[.val (.ref ea), .val (.int (Int32.ofNat i)), .val (.int (Int32.ofNat j))] [(.int (0 : Int32)), (.ref ea)]))
    refine OwnR.of (own_aaload rfl X1 hx hZ e1 EE.1 (by decide) (by decide) (by decide) (v := .ref (D 0)) rfl (g := (mkF m 11 #[.val (.ref ea), .val (.int (Int32.ofNat i)), .val (.int (Int32.ofNat j))] [(.int (0 : Int32)), (.ref ea)])) rfl rfl (hb hby d12_11)) ?_
    show OwnR _ _ _ _ _ _ _ (T1.setTop (mkF m 12 #[.val (.ref ea), .val (.int (Int32.ofNat i)), .val (.int (Int32.ofNat j))] [(.ref (D 0))]))
    refine OwnR.of (fun _ hr => XS.iloadN X1.here hx rfl (hb hby d12_12) rfl hr) ?_
    show OwnR _ _ _ _ _ _ _ (T1.setTop (mkF m 13 #[.val (.ref ea), .val (.int (Int32.ofNat i)), .val (.int (Int32.ofNat j))] [(.int (Int32.ofNat j)), (.ref (D 0))]))
    refine OwnR.of (own_zaload X1 hx hZ e1 (EE.2 0 (by decide)) (own_c3 hj) (own_n3 hj) hj (v := .int (own_bi (own_e M 0 j))) rfl (g := (mkF m 13 #[.val (.ref ea), .val (.int (Int32.ofNat i)), .val (.int (Int32.ofNat j))] [(.int (Int32.ofNat j)), (.ref (D 0))])) rfl rfl (hb hby d12_13)) ?_
    show OwnR _ _ _ _ _ _ _ (T1.setTop (mkF m 14 #[.val (.ref ea), .val (.int (Int32.ofNat i)), .val (.int (Int32.ofNat j))] [(.int (own_bi (own_e M 0 j)))]))
    by_cases hc14_12 : (own_bi (own_e M 0 j)) = (0 : Int32)
    · skip
      refine OwnR.of (fun _ hr => XS.ifNo X1.here hx rfl (hb hby d12_14) rfl ((if0 _ _).trans (teq hc14_12).2) hr) ?_
      show OwnR _ _ _ _ _ _ _ (T1.setTop (mkF m 17 #[.val (.ref ea), .val (.int (Int32.ofNat i)), .val (.int (Int32.ofNat j))] []))
      refine OwnR.of (fun _ hr => XS.aloadN X1.here hx rfl (hb hby d12_17) rfl rfl hr) ?_
      show OwnR _ _ _ _ _ _ _ (T1.setTop (mkF m 18 #[.val (.ref ea), .val (.int (Int32.ofNat i)), .val (.int (Int32.ofNat j))] [(.ref ea)]))
      refine OwnR.of (fun _ hr => XS.iloadN X1.here hx rfl (hb hby d12_18) rfl hr) ?_
      show OwnR _ _ _ _ _ _ _ (T1.setTop (mkF m 19 #[.val (.ref ea), .val (.int (Int32.ofNat i)), .val (.int (Int32.ofNat j))] [(.int (Int32.ofNat i)), (.ref ea)]))
      refine OwnR.of (fun _ hr => XS.iconst X1.here hx rfl (hb hby d12_19) hr) ?_
      show OwnR _ _ _ _ _ _ _ (T1.setTop (mkF m 20 #[.val (.ref ea), .val (.int (Int32.ofNat i)), .val (.int (Int32.ofNat j))] [(.int (1 : Int32)), (.int (Int32.ofNat i)), (.ref ea)]))
      obtain ⟨_, _, ⟨T13, L13, kc13, ns13⟩, -, X13, ⟨Lc13, hQ13, l13, y13, z13⟩, st13⟩ := Jvm.LawKit.callS X1 hx (y := (⟨"com/example/fast_taxonomy/fasttaxonomy/taxonomy/RelationTopologicalOrderPinLaw", "path2", "([[ZII)Z"⟩ : MethodName)) hown (mvT hZ (hw _ (List.mem_of_getElem? (i := 52) rfl))) (mvT hZ (hw _ (List.mem_of_getElem? (i := 53) rfl))) (mvT hZ (hw _ (List.mem_of_getElem? (i := 29) rfl))) (mvT hZ (hw _ (List.mem_of_getElem? (i := 54) rfl))) (by decide) (backOf (W := 0) (rmPath2 l Z a0 hw [] ea kE D kD M i 1 h0 n0 (Nat.le_trans Z0 (Keep.refl h0 []).1) EE hi (by decide)) hZ (hw _ (List.mem_of_getElem? (i := 54) rfl)) (hw _ (List.mem_of_getElem? (i := 29) rfl)) (by decide) (by decide)) (g := (mkF m 20 #[.val (.ref ea), .val (.int (Int32.ofNat i)), .val (.int (Int32.ofNat j))] [(.int (1 : Int32)), (.int (Int32.ofNat i)), (.ref ea)])) rfl (by rw [hml]; rfl) (argsL := [(.ref ea), (.int (Int32.ofNat i)), (.int (1 : Int32))]) (rest := []) (lenOf pd____ZII_Z rfl) rfl (by show 2 * 0 + _ ≤ _; exact Nat.le_of_eq rfl) (hb hby d12_20) (fun _ _ => ⟨rfl, e1, (by decide : 0 + 0 ≤ _), (by decide : 0 + 0 ≤ _)⟩)
      dsimp only [Pt.U, Pt.locs, Pt.cells, Pt.slots] at X13 l13 y13 z13 st13 hQ13
      rw [l13, y13, z13] at X13
      obtain ⟨rfl, N13q, e13⟩ := hQ13
      have N13 := Fr.app N1 N13q
      refine OwnR.of (st13) ?_
      show OwnR _ _ _ _ _ _ _ (T13.setTop (mkF m 23 #[.val (.ref ea), .val (.int (Int32.ofNat i)), .val (.int (Int32.ofNat j))] [(.int (own_bi (own_path2 M i 1)))]))
      by_cases hc23_14 : (own_bi (own_path2 M i 1)) = (0 : Int32)
      · skip
        refine OwnR.of (fun _ hr => XS.ifYes X13.here hx rfl (pc0 := 23) (pc' := 34) rfl (hb hby d12_23) rfl ((if0 _ _).trans (teq hc23_14).1) (by decide) (by decide) hr) ?_
        show OwnR _ _ _ _ _ _ _ (T13.setTop (mkF m 34 #[.val (.ref ea), .val (.int (Int32.ofNat i)), .val (.int (Int32.ofNat j))] []))
        refine OwnR.of (fun _ hr => XS.aloadN X13.here hx rfl (hb hby d12_34) rfl rfl hr) ?_
        show OwnR _ _ _ _ _ _ _ (T13.setTop (mkF m 35 #[.val (.ref ea), .val (.int (Int32.ofNat i)), .val (.int (Int32.ofNat j))] [(.ref ea)]))
        refine OwnR.of (fun _ hr => XS.iloadN X13.here hx rfl (hb hby d12_35) rfl hr) ?_
        show OwnR _ _ _ _ _ _ _ (T13.setTop (mkF m 36 #[.val (.ref ea), .val (.int (Int32.ofNat i)), .val (.int (Int32.ofNat j))] [(.int (Int32.ofNat i)), (.ref ea)]))
        refine OwnR.of (fun _ hr => XS.iconst X13.here hx rfl (hb hby d12_36) hr) ?_
        show OwnR _ _ _ _ _ _ _ (T13.setTop (mkF m 37 #[.val (.ref ea), .val (.int (Int32.ofNat i)), .val (.int (Int32.ofNat j))] [(.int (2 : Int32)), (.int (Int32.ofNat i)), (.ref ea)]))
        obtain ⟨_, _, ⟨T15, L15, kc15, ns15⟩, -, X15, ⟨Lc15, hQ15, l15, y15, z15⟩, st15⟩ := Jvm.LawKit.callS X13 hx (y := (⟨"com/example/fast_taxonomy/fasttaxonomy/taxonomy/RelationTopologicalOrderPinLaw", "path2", "([[ZII)Z"⟩ : MethodName)) hown (mvT hZ (hw _ (List.mem_of_getElem? (i := 52) rfl))) (mvT hZ (hw _ (List.mem_of_getElem? (i := 53) rfl))) (mvT hZ (hw _ (List.mem_of_getElem? (i := 29) rfl))) (mvT hZ (hw _ (List.mem_of_getElem? (i := 54) rfl))) (by decide) (backOf (W := 0) (rmPath2 l Z a0 hw [] ea kE D kD M i 2 h0 n0 (Nat.le_trans Z0 (Keep.refl h0 []).1) EE hi (by decide)) hZ (hw _ (List.mem_of_getElem? (i := 54) rfl)) (hw _ (List.mem_of_getElem? (i := 29) rfl)) (by decide) (by decide)) (g := (mkF m 37 #[.val (.ref ea), .val (.int (Int32.ofNat i)), .val (.int (Int32.ofNat j))] [(.int (2 : Int32)), (.int (Int32.ofNat i)), (.ref ea)])) rfl (by rw [hml]; rfl) (argsL := [(.ref ea), (.int (Int32.ofNat i)), (.int (2 : Int32))]) (rest := []) (lenOf pd____ZII_Z rfl) rfl (by show 2 * 0 + _ ≤ _; exact Nat.le_of_eq rfl) (hb hby d12_37) (fun _ _ => ⟨rfl, e13, (by decide : 0 + 0 ≤ _), (by decide : 0 + 0 ≤ _)⟩)
        dsimp only [Pt.U, Pt.locs, Pt.cells, Pt.slots] at X15 l15 y15 z15 st15 hQ15
        rw [l15, y15, z15] at X15
        obtain ⟨rfl, N15q, e15⟩ := hQ15
        have N15 := Fr.app N13 N15q
        refine OwnR.of (st15) ?_
        show OwnR _ _ _ _ _ _ _ (T15.setTop (mkF m 40 #[.val (.ref ea), .val (.int (Int32.ofNat i)), .val (.int (Int32.ofNat j))] [(.int (own_bi (own_path2 M i 2)))]))
        by_cases hc40_16 : (own_bi (own_path2 M i 2)) = (0 : Int32)
        · skip
          refine OwnR.of (fun _ hr => XS.ifYes X15.here hx rfl (pc0 := 40) (pc' := 55) rfl (hb hby d12_40) rfl ((if0 _ _).trans (teq hc40_16).1) (by decide) (by decide) hr) ?_
          show OwnR _ _ _ _ _ _ _ (T15.setTop (mkF m 55 #[.val (.ref ea), .val (.int (Int32.ofNat i)), .val (.int (Int32.ofNat j))] []))
          refine OwnR.of (fun _ hr => XS.iconst X15.here hx rfl (hb hby d12_55) hr) ?_
          show OwnR _ _ _ _ _ _ _ (T15.setTop (mkF m 56 #[.val (.ref ea), .val (.int (Int32.ofNat i)), .val (.int (Int32.ofNat j))] [(.int (0 : Int32))]))
          refine own_leafN X15 hx hlk (t := .boolean) Bd.returns (by simp) (hb hby d12_56) (z' := (0 : Int32)) rfl (by decide) (by decide) ?_
          show QPath3 Z M i j h0 n0 _ T15.heap _
          rw [show T15.heap = h0 from e15]
          refine ⟨?_, N15, rfl⟩
          show (some (.int (0 : Int32)) : Option Value) = some (.int (own_bi (own_path3 M i j)))
          simp only [own_bi0, Bool.not_eq_false] at hc6_2 hc14_12 hc23_14 hc40_16
          simp [own_path3, own_bi, hc6_2, hc14_12, hc23_14, hc40_16]
        · skip
          refine OwnR.of (fun _ hr => XS.ifNo X15.here hx rfl (hb hby d12_40) rfl ((if0 _ _).trans (feq hc40_16).1) hr) ?_
          show OwnR _ _ _ _ _ _ _ (T15.setTop (mkF m 43 #[.val (.ref ea), .val (.int (Int32.ofNat i)), .val (.int (Int32.ofNat j))] []))
          refine OwnR.of (fun _ hr => XS.aloadN X15.here hx rfl (hb hby d12_43) rfl rfl hr) ?_
          show OwnR _ _ _ _ _ _ _ (T15.setTop (mkF m 44 #[.val (.ref ea), .val (.int (Int32.ofNat i)), .val (.int (Int32.ofNat j))] [(.ref ea)]))
          refine OwnR.of (fun _ hr => XS.iconst X15.here hx rfl (hb hby d12_44) hr) ?_
          show OwnR _ _ _ _ _ _ _ (T15.setTop (mkF m 45 #[.val (.ref ea), .val (.int (Int32.ofNat i)), .val (.int (Int32.ofNat j))] [(.int (2 : Int32)), (.ref ea)]))
          refine OwnR.of (own_aaload rfl X15 hx hZ e15 EE.1 (by decide) (by decide) (by decide) (v := .ref (D 2)) rfl (g := (mkF m 45 #[.val (.ref ea), .val (.int (Int32.ofNat i)), .val (.int (Int32.ofNat j))] [(.int (2 : Int32)), (.ref ea)])) rfl rfl (hb hby d12_45)) ?_
          show OwnR _ _ _ _ _ _ _ (T15.setTop (mkF m 46 #[.val (.ref ea), .val (.int (Int32.ofNat i)), .val (.int (Int32.ofNat j))] [(.ref (D 2))]))
          refine OwnR.of (fun _ hr => XS.iloadN X15.here hx rfl (hb hby d12_46) rfl hr) ?_
          show OwnR _ _ _ _ _ _ _ (T15.setTop (mkF m 47 #[.val (.ref ea), .val (.int (Int32.ofNat i)), .val (.int (Int32.ofNat j))] [(.int (Int32.ofNat j)), (.ref (D 2))]))
          refine OwnR.of (own_zaload X15 hx hZ e15 (EE.2 2 (by decide)) (own_c3 hj) (own_n3 hj) hj (v := .int (own_bi (own_e M 2 j))) rfl (g := (mkF m 47 #[.val (.ref ea), .val (.int (Int32.ofNat i)), .val (.int (Int32.ofNat j))] [(.int (Int32.ofNat j)), (.ref (D 2))])) rfl rfl (hb hby d12_47)) ?_
          show OwnR _ _ _ _ _ _ _ (T15.setTop (mkF m 48 #[.val (.ref ea), .val (.int (Int32.ofNat i)), .val (.int (Int32.ofNat j))] [(.int (own_bi (own_e M 2 j)))]))
          by_cases hc48_17 : (own_bi (own_e M 2 j)) = (0 : Int32)
          · skip
            refine OwnR.of (fun _ hr => XS.ifYes X15.here hx rfl (pc0 := 48) (pc' := 55) rfl (hb hby d12_48) rfl ((if0 _ _).trans (teq hc48_17).1) (by decide) (by decide) hr) ?_
            show OwnR _ _ _ _ _ _ _ (T15.setTop (mkF m 55 #[.val (.ref ea), .val (.int (Int32.ofNat i)), .val (.int (Int32.ofNat j))] []))
            refine OwnR.of (fun _ hr => XS.iconst X15.here hx rfl (hb hby d12_55) hr) ?_
            show OwnR _ _ _ _ _ _ _ (T15.setTop (mkF m 56 #[.val (.ref ea), .val (.int (Int32.ofNat i)), .val (.int (Int32.ofNat j))] [(.int (0 : Int32))]))
            refine own_leafN X15 hx hlk (t := .boolean) Bd.returns (by simp) (hb hby d12_56) (z' := (0 : Int32)) rfl (by decide) (by decide) ?_
            show QPath3 Z M i j h0 n0 _ T15.heap _
            rw [show T15.heap = h0 from e15]
            refine ⟨?_, N15, rfl⟩
            show (some (.int (0 : Int32)) : Option Value) = some (.int (own_bi (own_path3 M i j)))
            simp only [own_bi0, Bool.not_eq_false] at hc6_2 hc14_12 hc23_14 hc40_16 hc48_17
            simp [own_path3, own_bi, hc6_2, hc14_12, hc23_14, hc40_16, hc48_17]
          · skip
            refine OwnR.of (fun _ hr => XS.ifNo X15.here hx rfl (hb hby d12_48) rfl ((if0 _ _).trans (feq hc48_17).1) hr) ?_
            show OwnR _ _ _ _ _ _ _ (T15.setTop (mkF m 51 #[.val (.ref ea), .val (.int (Int32.ofNat i)), .val (.int (Int32.ofNat j))] []))
            refine OwnR.of (fun _ hr => XS.iconst X15.here hx rfl (hb hby d12_51) hr) ?_
            show OwnR _ _ _ _ _ _ _ (T15.setTop (mkF m 52 #[.val (.ref ea), .val (.int (Int32.ofNat i)), .val (.int (Int32.ofNat j))] [(.int (1 : Int32))]))
            refine OwnR.of (fun _ hr => XS.goto X15.here hx rfl (pc0 := 52) (pc' := 56) rfl (hb hby d12_52) (by decide) (by decide) hr) ?_
            show OwnR _ _ _ _ _ _ _ (T15.setTop (mkF m 56 #[.val (.ref ea), .val (.int (Int32.ofNat i)), .val (.int (Int32.ofNat j))] [(.int (1 : Int32))]))
            refine own_leafN X15 hx hlk (t := .boolean) Bd.returns (by simp) (hb hby d12_56) (z' := (1 : Int32)) rfl (by decide) (by decide) ?_
            show QPath3 Z M i j h0 n0 _ T15.heap _
            rw [show T15.heap = h0 from e15]
            refine ⟨?_, N15, rfl⟩
            show (some (.int (1 : Int32)) : Option Value) = some (.int (own_bi (own_path3 M i j)))
            simp only [own_bi0, Bool.not_eq_false] at hc6_2 hc14_12 hc23_14 hc40_16 hc48_17
            simp [own_path3, own_bi, hc6_2, hc14_12, hc23_14, hc40_16, hc48_17]
      · skip
        refine OwnR.of (fun _ hr => XS.ifNo X13.here hx rfl (hb hby d12_23) rfl ((if0 _ _).trans (feq hc23_14).1) hr) ?_
        show OwnR _ _ _ _ _ _ _ (T13.setTop (mkF m 26 #[.val (.ref ea), .val (.int (Int32.ofNat i)), .val (.int (Int32.ofNat j))] []))
        refine OwnR.of (fun _ hr => XS.aloadN X13.here hx rfl (hb hby d12_26) rfl rfl hr) ?_
        show OwnR _ _ _ _ _ _ _ (T13.setTop (mkF m 27 #[.val (.ref ea), .val (.int (Int32.ofNat i)), .val (.int (Int32.ofNat j))] [(.ref ea)]))
        refine OwnR.of (fun _ hr => XS.iconst X13.here hx rfl (hb hby d12_27) hr) ?_
        show OwnR _ _ _ _ _ _ _ (T13.setTop (mkF m 28 #[.val (.ref ea), .val (.int (Int32.ofNat i)), .val (.int (Int32.ofNat j))] [(.int (1 : Int32)), (.ref ea)]))
        refine OwnR.of (own_aaload rfl X13 hx hZ e13 EE.1 (by decide) (by decide) (by decide) (v := .ref (D 1)) rfl (g := (mkF m 28 #[.val (.ref ea), .val (.int (Int32.ofNat i)), .val (.int (Int32.ofNat j))] [(.int (1 : Int32)), (.ref ea)])) rfl rfl (hb hby d12_28)) ?_
        show OwnR _ _ _ _ _ _ _ (T13.setTop (mkF m 29 #[.val (.ref ea), .val (.int (Int32.ofNat i)), .val (.int (Int32.ofNat j))] [(.ref (D 1))]))
        refine OwnR.of (fun _ hr => XS.iloadN X13.here hx rfl (hb hby d12_29) rfl hr) ?_
        show OwnR _ _ _ _ _ _ _ (T13.setTop (mkF m 30 #[.val (.ref ea), .val (.int (Int32.ofNat i)), .val (.int (Int32.ofNat j))] [(.int (Int32.ofNat j)), (.ref (D 1))]))
        refine OwnR.of (own_zaload X13 hx hZ e13 (EE.2 1 (by decide)) (own_c3 hj) (own_n3 hj) hj (v := .int (own_bi (own_e M 1 j))) rfl (g := (mkF m 30 #[.val (.ref ea), .val (.int (Int32.ofNat i)), .val (.int (Int32.ofNat j))] [(.int (Int32.ofNat j)), (.ref (D 1))])) rfl rfl (hb hby d12_30)) ?_
        show OwnR _ _ _ _ _ _ _ (T13.setTop (mkF m 31 #[.val (.ref ea), .val (.int (Int32.ofNat i)), .val (.int (Int32.ofNat j))] [(.int (own_bi (own_e M 1 j)))]))
        by_cases hc31_18 : (own_bi (own_e M 1 j)) = (0 : Int32)
        · skip
          refine OwnR.of (fun _ hr => XS.ifNo X13.here hx rfl (hb hby d12_31) rfl ((if0 _ _).trans (teq hc31_18).2) hr) ?_
          show OwnR _ _ _ _ _ _ _ (T13.setTop (mkF m 34 #[.val (.ref ea), .val (.int (Int32.ofNat i)), .val (.int (Int32.ofNat j))] []))
          refine OwnR.of (fun _ hr => XS.aloadN X13.here hx rfl (hb hby d12_34) rfl rfl hr) ?_
          show OwnR _ _ _ _ _ _ _ (T13.setTop (mkF m 35 #[.val (.ref ea), .val (.int (Int32.ofNat i)), .val (.int (Int32.ofNat j))] [(.ref ea)]))
          refine OwnR.of (fun _ hr => XS.iloadN X13.here hx rfl (hb hby d12_35) rfl hr) ?_
          show OwnR _ _ _ _ _ _ _ (T13.setTop (mkF m 36 #[.val (.ref ea), .val (.int (Int32.ofNat i)), .val (.int (Int32.ofNat j))] [(.int (Int32.ofNat i)), (.ref ea)]))
          refine OwnR.of (fun _ hr => XS.iconst X13.here hx rfl (hb hby d12_36) hr) ?_
          show OwnR _ _ _ _ _ _ _ (T13.setTop (mkF m 37 #[.val (.ref ea), .val (.int (Int32.ofNat i)), .val (.int (Int32.ofNat j))] [(.int (2 : Int32)), (.int (Int32.ofNat i)), (.ref ea)]))
          obtain ⟨_, _, ⟨T19, L19, kc19, ns19⟩, -, X19, ⟨Lc19, hQ19, l19, y19, z19⟩, st19⟩ := Jvm.LawKit.callS X13 hx (y := (⟨"com/example/fast_taxonomy/fasttaxonomy/taxonomy/RelationTopologicalOrderPinLaw", "path2", "([[ZII)Z"⟩ : MethodName)) hown (mvT hZ (hw _ (List.mem_of_getElem? (i := 52) rfl))) (mvT hZ (hw _ (List.mem_of_getElem? (i := 53) rfl))) (mvT hZ (hw _ (List.mem_of_getElem? (i := 29) rfl))) (mvT hZ (hw _ (List.mem_of_getElem? (i := 54) rfl))) (by decide) (backOf (W := 0) (rmPath2 l Z a0 hw [] ea kE D kD M i 2 h0 n0 (Nat.le_trans Z0 (Keep.refl h0 []).1) EE hi (by decide)) hZ (hw _ (List.mem_of_getElem? (i := 54) rfl)) (hw _ (List.mem_of_getElem? (i := 29) rfl)) (by decide) (by decide)) (g := (mkF m 37 #[.val (.ref ea), .val (.int (Int32.ofNat i)), .val (.int (Int32.ofNat j))] [(.int (2 : Int32)), (.int (Int32.ofNat i)), (.ref ea)])) rfl (by rw [hml]; rfl) (argsL := [(.ref ea), (.int (Int32.ofNat i)), (.int (2 : Int32))]) (rest := []) (lenOf pd____ZII_Z rfl) rfl (by show 2 * 0 + _ ≤ _; exact Nat.le_of_eq rfl) (hb hby d12_37) (fun _ _ => ⟨rfl, e13, (by decide : 0 + 0 ≤ _), (by decide : 0 + 0 ≤ _)⟩)
          dsimp only [Pt.U, Pt.locs, Pt.cells, Pt.slots] at X19 l19 y19 z19 st19 hQ19
          rw [l19, y19, z19] at X19
          obtain ⟨rfl, N19q, e19⟩ := hQ19
          have N19 := Fr.app N13 N19q
          refine OwnR.of (st19) ?_
          show OwnR _ _ _ _ _ _ _ (T19.setTop (mkF m 40 #[.val (.ref ea), .val (.int (Int32.ofNat i)), .val (.int (Int32.ofNat j))] [(.int (own_bi (own_path2 M i 2)))]))
          by_cases hc40_20 : (own_bi (own_path2 M i 2)) = (0 : Int32)
          · skip
            refine OwnR.of (fun _ hr => XS.ifYes X19.here hx rfl (pc0 := 40) (pc' := 55) rfl (hb hby d12_40) rfl ((if0 _ _).trans (teq hc40_20).1) (by decide) (by decide) hr) ?_
            show OwnR _ _ _ _ _ _ _ (T19.setTop (mkF m 55 #[.val (.ref ea), .val (.int (Int32.ofNat i)), .val (.int (Int32.ofNat j))] []))
            refine OwnR.of (fun _ hr => XS.iconst X19.here hx rfl (hb hby d12_55) hr) ?_
            show OwnR _ _ _ _ _ _ _ (T19.setTop (mkF m 56 #[.val (.ref ea), .val (.int (Int32.ofNat i)), .val (.int (Int32.ofNat j))] [(.int (0 : Int32))]))
            refine own_leafN X19 hx hlk (t := .boolean) Bd.returns (by simp) (hb hby d12_56) (z' := (0 : Int32)) rfl (by decide) (by decide) ?_
            show QPath3 Z M i j h0 n0 _ T19.heap _
            rw [show T19.heap = h0 from e19]
            refine ⟨?_, N19, rfl⟩
            show (some (.int (0 : Int32)) : Option Value) = some (.int (own_bi (own_path3 M i j)))
            simp only [own_bi0, Bool.not_eq_false] at hc6_2 hc14_12 hc23_14 hc31_18 hc40_20
            simp [own_path3, own_bi, hc6_2, hc14_12, hc23_14, hc31_18, hc40_20]
          · skip
            refine OwnR.of (fun _ hr => XS.ifNo X19.here hx rfl (hb hby d12_40) rfl ((if0 _ _).trans (feq hc40_20).1) hr) ?_
            show OwnR _ _ _ _ _ _ _ (T19.setTop (mkF m 43 #[.val (.ref ea), .val (.int (Int32.ofNat i)), .val (.int (Int32.ofNat j))] []))
            refine OwnR.of (fun _ hr => XS.aloadN X19.here hx rfl (hb hby d12_43) rfl rfl hr) ?_
            show OwnR _ _ _ _ _ _ _ (T19.setTop (mkF m 44 #[.val (.ref ea), .val (.int (Int32.ofNat i)), .val (.int (Int32.ofNat j))] [(.ref ea)]))
            refine OwnR.of (fun _ hr => XS.iconst X19.here hx rfl (hb hby d12_44) hr) ?_
            show OwnR _ _ _ _ _ _ _ (T19.setTop (mkF m 45 #[.val (.ref ea), .val (.int (Int32.ofNat i)), .val (.int (Int32.ofNat j))] [(.int (2 : Int32)), (.ref ea)]))
            refine OwnR.of (own_aaload rfl X19 hx hZ e19 EE.1 (by decide) (by decide) (by decide) (v := .ref (D 2)) rfl (g := (mkF m 45 #[.val (.ref ea), .val (.int (Int32.ofNat i)), .val (.int (Int32.ofNat j))] [(.int (2 : Int32)), (.ref ea)])) rfl rfl (hb hby d12_45)) ?_
            show OwnR _ _ _ _ _ _ _ (T19.setTop (mkF m 46 #[.val (.ref ea), .val (.int (Int32.ofNat i)), .val (.int (Int32.ofNat j))] [(.ref (D 2))]))
            refine OwnR.of (fun _ hr => XS.iloadN X19.here hx rfl (hb hby d12_46) rfl hr) ?_
            show OwnR _ _ _ _ _ _ _ (T19.setTop (mkF m 47 #[.val (.ref ea), .val (.int (Int32.ofNat i)), .val (.int (Int32.ofNat j))] [(.int (Int32.ofNat j)), (.ref (D 2))]))
            refine OwnR.of (own_zaload X19 hx hZ e19 (EE.2 2 (by decide)) (own_c3 hj) (own_n3 hj) hj (v := .int (own_bi (own_e M 2 j))) rfl (g := (mkF m 47 #[.val (.ref ea), .val (.int (Int32.ofNat i)), .val (.int (Int32.ofNat j))] [(.int (Int32.ofNat j)), (.ref (D 2))])) rfl rfl (hb hby d12_47)) ?_
            show OwnR _ _ _ _ _ _ _ (T19.setTop (mkF m 48 #[.val (.ref ea), .val (.int (Int32.ofNat i)), .val (.int (Int32.ofNat j))] [(.int (own_bi (own_e M 2 j)))]))
            by_cases hc48_21 : (own_bi (own_e M 2 j)) = (0 : Int32)
            · skip
              refine OwnR.of (fun _ hr => XS.ifYes X19.here hx rfl (pc0 := 48) (pc' := 55) rfl (hb hby d12_48) rfl ((if0 _ _).trans (teq hc48_21).1) (by decide) (by decide) hr) ?_
              show OwnR _ _ _ _ _ _ _ (T19.setTop (mkF m 55 #[.val (.ref ea), .val (.int (Int32.ofNat i)), .val (.int (Int32.ofNat j))] []))
              refine OwnR.of (fun _ hr => XS.iconst X19.here hx rfl (hb hby d12_55) hr) ?_
              show OwnR _ _ _ _ _ _ _ (T19.setTop (mkF m 56 #[.val (.ref ea), .val (.int (Int32.ofNat i)), .val (.int (Int32.ofNat j))] [(.int (0 : Int32))]))
              refine own_leafN X19 hx hlk (t := .boolean) Bd.returns (by simp) (hb hby d12_56) (z' := (0 : Int32)) rfl (by decide) (by decide) ?_
              show QPath3 Z M i j h0 n0 _ T19.heap _
              rw [show T19.heap = h0 from e19]
              refine ⟨?_, N19, rfl⟩
              show (some (.int (0 : Int32)) : Option Value) = some (.int (own_bi (own_path3 M i j)))
              simp only [own_bi0, Bool.not_eq_false] at hc6_2 hc14_12 hc23_14 hc31_18 hc40_20 hc48_21
              simp [own_path3, own_bi, hc6_2, hc14_12, hc23_14, hc31_18, hc40_20, hc48_21]
            · skip
              refine OwnR.of (fun _ hr => XS.ifNo X19.here hx rfl (hb hby d12_48) rfl ((if0 _ _).trans (feq hc48_21).1) hr) ?_
              show OwnR _ _ _ _ _ _ _ (T19.setTop (mkF m 51 #[.val (.ref ea), .val (.int (Int32.ofNat i)), .val (.int (Int32.ofNat j))] []))
              refine OwnR.of (fun _ hr => XS.iconst X19.here hx rfl (hb hby d12_51) hr) ?_
              show OwnR _ _ _ _ _ _ _ (T19.setTop (mkF m 52 #[.val (.ref ea), .val (.int (Int32.ofNat i)), .val (.int (Int32.ofNat j))] [(.int (1 : Int32))]))
              refine OwnR.of (fun _ hr => XS.goto X19.here hx rfl (pc0 := 52) (pc' := 56) rfl (hb hby d12_52) (by decide) (by decide) hr) ?_
              show OwnR _ _ _ _ _ _ _ (T19.setTop (mkF m 56 #[.val (.ref ea), .val (.int (Int32.ofNat i)), .val (.int (Int32.ofNat j))] [(.int (1 : Int32))]))
              refine own_leafN X19 hx hlk (t := .boolean) Bd.returns (by simp) (hb hby d12_56) (z' := (1 : Int32)) rfl (by decide) (by decide) ?_
              show QPath3 Z M i j h0 n0 _ T19.heap _
              rw [show T19.heap = h0 from e19]
              refine ⟨?_, N19, rfl⟩
              show (some (.int (1 : Int32)) : Option Value) = some (.int (own_bi (own_path3 M i j)))
              simp only [own_bi0, Bool.not_eq_false] at hc6_2 hc14_12 hc23_14 hc31_18 hc40_20 hc48_21
              simp [own_path3, own_bi, hc6_2, hc14_12, hc23_14, hc31_18, hc40_20, hc48_21]
        · skip
          refine OwnR.of (fun _ hr => XS.ifYes X13.here hx rfl (pc0 := 31) (pc' := 51) rfl (hb hby d12_31) rfl ((if0 _ _).trans (feq hc31_18).2) (by decide) (by decide) hr) ?_
          show OwnR _ _ _ _ _ _ _ (T13.setTop (mkF m 51 #[.val (.ref ea), .val (.int (Int32.ofNat i)), .val (.int (Int32.ofNat j))] []))
          refine OwnR.of (fun _ hr => XS.iconst X13.here hx rfl (hb hby d12_51) hr) ?_
          show OwnR _ _ _ _ _ _ _ (T13.setTop (mkF m 52 #[.val (.ref ea), .val (.int (Int32.ofNat i)), .val (.int (Int32.ofNat j))] [(.int (1 : Int32))]))
          refine OwnR.of (fun _ hr => XS.goto X13.here hx rfl (pc0 := 52) (pc' := 56) rfl (hb hby d12_52) (by decide) (by decide) hr) ?_
          show OwnR _ _ _ _ _ _ _ (T13.setTop (mkF m 56 #[.val (.ref ea), .val (.int (Int32.ofNat i)), .val (.int (Int32.ofNat j))] [(.int (1 : Int32))]))
          refine own_leafN X13 hx hlk (t := .boolean) Bd.returns (by simp) (hb hby d12_56) (z' := (1 : Int32)) rfl (by decide) (by decide) ?_
          show QPath3 Z M i j h0 n0 _ T13.heap _
          rw [show T13.heap = h0 from e13]
          refine ⟨?_, N13, rfl⟩
          show (some (.int (1 : Int32)) : Option Value) = some (.int (own_bi (own_path3 M i j)))
          simp only [own_bi0, Bool.not_eq_false] at hc6_2 hc14_12 hc23_14 hc31_18
          simp [own_path3, own_bi, hc6_2, hc14_12, hc23_14, hc31_18]
    · skip
      refine OwnR.of (fun _ hr => XS.ifYes X1.here hx rfl (pc0 := 14) (pc' := 51) rfl (hb hby d12_14) rfl ((if0 _ _).trans (feq hc14_12).2) (by decide) (by decide) hr) ?_
      show OwnR _ _ _ _ _ _ _ (T1.setTop (mkF m 51 #[.val (.ref ea), .val (.int (Int32.ofNat i)), .val (.int (Int32.ofNat j))] []))
      refine OwnR.of (fun _ hr => XS.iconst X1.here hx rfl (hb hby d12_51) hr) ?_
      show OwnR _ _ _ _ _ _ _ (T1.setTop (mkF m 52 #[.val (.ref ea), .val (.int (Int32.ofNat i)), .val (.int (Int32.ofNat j))] [(.int (1 : Int32))]))
      refine OwnR.of (fun _ hr => XS.goto X1.here hx rfl (pc0 := 52) (pc' := 56) rfl (hb hby d12_52) (by decide) (by decide) hr) ?_
      show OwnR _ _ _ _ _ _ _ (T1.setTop (mkF m 56 #[.val (.ref ea), .val (.int (Int32.ofNat i)), .val (.int (Int32.ofNat j))] [(.int (1 : Int32))]))
      refine own_leafN X1 hx hlk (t := .boolean) Bd.returns (by simp) (hb hby d12_56) (z' := (1 : Int32)) rfl (by decide) (by decide) ?_
      show QPath3 Z M i j h0 n0 _ T1.heap _
      rw [show T1.heap = h0 from e1]
      refine ⟨?_, N1, rfl⟩
      show (some (.int (1 : Int32)) : Option Value) = some (.int (own_bi (own_path3 M i j)))
      simp only [own_bi0, Bool.not_eq_false] at hc6_2 hc14_12
      simp [own_path3, own_bi, hc6_2, hc14_12]
theorem ef_rmReach (m : MethodId) (x0 : Addr) : entryFrame m #[(.ref x0), (.int (Int32.ofNat i)), (.int (Int32.ofNat j))] 3 = mkF m 0 #[.val (.ref x0), .val (.int (Int32.ofNat i)), .val (.int (Int32.ofNat j))] [] := by first | (simp [entryFrame, mkF, argsToLocals, Value.category]; done) | rfl
theorem d10_0 : decode method_7_code 0 = .ok (.aload_n 0, 1) := by decide +kernel
theorem d10_1 : decode method_7_code 1 = .ok (.iload_n 1, 1) := by decide +kernel
theorem d10_2 : decode method_7_code 2 = .ok (.aaload, 1) := by decide +kernel
theorem d10_3 : decode method_7_code 3 = .ok (.iload_n 2, 1) := by decide +kernel
theorem d10_4 : decode method_7_code 4 = .ok (.baload, 1) := by decide +kernel
theorem d10_5 : decode method_7_code 5 = .ok (.ifCond .ne 21, 3) := by decide +kernel
theorem d10_8 : decode method_7_code 8 = .ok (.aload_n 0, 1) := by decide +kernel
theorem d10_9 : decode method_7_code 9 = .ok (.iload_n 1, 1) := by decide +kernel
theorem d10_10 : decode method_7_code 10 = .ok (.iload_n 2, 1) := by decide +kernel
theorem d10_11 : decode method_7_code 11 = .ok (.invokestatic 38, 3) := by decide +kernel
theorem d10_14 : decode method_7_code 14 = .ok (.ifCond .ne 12, 3) := by decide +kernel
theorem d10_17 : decode method_7_code 17 = .ok (.aload_n 0, 1) := by decide +kernel
theorem d10_18 : decode method_7_code 18 = .ok (.iload_n 1, 1) := by decide +kernel
theorem d10_19 : decode method_7_code 19 = .ok (.iload_n 2, 1) := by decide +kernel
theorem d10_20 : decode method_7_code 20 = .ok (.invokestatic 42, 3) := by decide +kernel
theorem d10_23 : decode method_7_code 23 = .ok (.ifCond .eq 7, 3) := by decide +kernel
theorem d10_30 : decode method_7_code 30 = .ok (.iconst 0, 1) := by decide +kernel
theorem d10_31 : decode method_7_code 31 = .ok (.ireturn, 1) := by decide +kernel
theorem d10_26 : decode method_7_code 26 = .ok (.iconst 1, 1) := by decide +kernel
theorem d10_27 : decode method_7_code 27 = .ok (.goto 4, 3) := by decide +kernel
def QReach (Z : State) (M : Nat → Nat) (i : Nat) (j : Nat) (h0 : Heap) (n0 : Nat) (v : Option Value) (h : Heap) (L : List Loc) : Prop := v = some (.int (own_bi (own_reach1 M i j))) ∧ Fr n0 L ∧ h = h0
set_option maxRecDepth 65536 in
set_option maxHeartbeats 40000000 in
theorem rmReach (l : Launch) (Z : State) (a0 : Array Value) (hw : ∀ d ∈ tables_1, d.before a0 Z = true) (ws : List Jvm.Cond) (ea : Addr) (kE : ClassId) (D : Nat → Addr) (kD : Nat → ClassId) (M : Nat → Nat) (i j : Nat) (h0 : Heap) (n0 : Nat) (Z0 : n0 ≤ h0.size) (EE : OwnE Z h0 ea kE D kD M) (hi : i < 3) (hj : j < 3) :
    MetFree l (⟨"com/example/fast_taxonomy/fasttaxonomy/taxonomy/RelationTopologicalOrderPinLaw", "reach1", "([[ZII)Z"⟩ : MethodName) (head1 (Jvm.Cond.code (⟨"com/example/fast_taxonomy/fasttaxonomy/taxonomy/RelationTopologicalOrderPinLaw", "reach1", "([[ZII)Z"⟩ : MethodName) method_7_code 3 (some .boolean) :: ws) ({ frames := 2, cells := 0, slots := 0, locals := 40 } : Room)) (fun a U => a = #[(.ref ea), (.int (Int32.ofNat i)), (.int (Int32.ofNat j))] ∧ Z.Warmed39 U.vm ∧ U.heap = h0) (fun _ _ _ _ _ => True) (fun _ U o U' => ∃ v L, o = .returned v ∧ QReach Z M i j h0 n0 v U'.heap L ∧ FrameEnd U o U' L ({ frames := 2, cells := 0, slots := 0, locals := 40 } : Room).cells ({ frames := 2, cells := 0, slots := 0, locals := 40 } : Room).slots) := by
  refine MetFree.of_bodySF (plainFor_of_name pn_com_example_fast_taxonomy_fasttaxonomy_taxonomy_RelationTopologicalOrderPinLaw) hisR ?_
  intro p e s m args below meth c s₁ Bd hml0 hP hK
  obtain ⟨rfl, hZ, hh⟩ := hP
  have hx := Bd.exec
  have hby := Bd.bytes
  have hlk := BodyLoose.notSynchronized Bd
  have hml : c.maxLocals = 3 := hml0
  have hown : s.vm.findClass "com/example/fast_taxonomy/fasttaxonomy/taxonomy/RelationTopologicalOrderPinLaw" = some m.cls := findClass_of_methodNamed Bd.named
  have hnm := (name_of_methodNamed Bd.named Bd.method).1
  have X0 : Stand p l e ({ frames := 2, cells := 0, slots := 0, locals := 40 } : Room) s m #[(.ref ea), (.int (Int32.ofNat i)), (.int (Int32.ofNat j))] below meth c s₁ [] 0 0 := Stand.of_body Bd
  have e0 : s₁.heap = h0 := by rw [← hh, Bd.state]; rfl
  have N0 := Fr.nil n0
  refine OwnR.of (s := s) (Q := QReach Z M i j h0 n0) (fun t k => castTop (ef_rmReach m ea) k) ?_
  show OwnR _ _ _ _ _ _ _ (s₁.setTop (mkF m 0 #[.val (.ref ea), .val (.int (Int32.ofNat i)), .val (.int (Int32.ofNat j))] []))
  refine OwnR.of (fun _ hr => XS.aloadN X0.here hx rfl (hb hby d10_0) rfl rfl hr) ?_
  show OwnR _ _ _ _ _ _ _ (s₁.setTop (mkF m 1 #[.val (.ref ea), .val (.int (Int32.ofNat i)), .val (.int (Int32.ofNat j))] [(.ref ea)]))
  refine OwnR.of (fun _ hr => XS.iloadN X0.here hx rfl (hb hby d10_1) rfl hr) ?_
  show OwnR _ _ _ _ _ _ _ (s₁.setTop (mkF m 2 #[.val (.ref ea), .val (.int (Int32.ofNat i)), .val (.int (Int32.ofNat j))] [(.int (Int32.ofNat i)), (.ref ea)]))
  refine OwnR.of (own_aaload rfl X0 hx hZ e0 EE.1 (own_c3 hi) (own_n3 hi) hi (v := .ref (D i)) rfl (g := (mkF m 2 #[.val (.ref ea), .val (.int (Int32.ofNat i)), .val (.int (Int32.ofNat j))] [(.int (Int32.ofNat i)), (.ref ea)])) rfl rfl (hb hby d10_2)) ?_
  show OwnR _ _ _ _ _ _ _ (s₁.setTop (mkF m 3 #[.val (.ref ea), .val (.int (Int32.ofNat i)), .val (.int (Int32.ofNat j))] [(.ref (D i))]))
  refine OwnR.of (fun _ hr => XS.iloadN X0.here hx rfl (hb hby d10_3) rfl hr) ?_
  show OwnR _ _ _ _ _ _ _ (s₁.setTop (mkF m 4 #[.val (.ref ea), .val (.int (Int32.ofNat i)), .val (.int (Int32.ofNat j))] [(.int (Int32.ofNat j)), (.ref (D i))]))
  refine OwnR.of (own_zaload X0 hx hZ e0 (EE.2 i hi) (own_c3 hj) (own_n3 hj) hj (v := .int (own_bi (own_e M i j))) rfl (g := (mkF m 4 #[.val (.ref ea), .val (.int (Int32.ofNat i)), .val (.int (Int32.ofNat j))] [(.int (Int32.ofNat j)), (.ref (D i))])) rfl rfl (hb hby d10_4)) ?_
  show OwnR _ _ _ _ _ _ _ (s₁.setTop (mkF m 5 #[.val (.ref ea), .val (.int (Int32.ofNat i)), .val (.int (Int32.ofNat j))] [(.int (own_bi (own_e M i j)))]))
  by_cases hc5_1 : (own_bi (own_e M i j)) = (0 : Int32)
  · skip
    refine OwnR.of (fun _ hr => XS.ifNo X0.here hx rfl (hb hby d10_5) rfl ((if0 _ _).trans (teq hc5_1).2) hr) ?_
    show OwnR _ _ _ _ _ _ _ (s₁.setTop (mkF m 8 #[.val (.ref ea), .val (.int (Int32.ofNat i)), .val (.int (Int32.ofNat j))] []))
    refine OwnR.of (fun _ hr => XS.aloadN X0.here hx rfl (hb hby d10_8) rfl rfl hr) ?_
    show OwnR _ _ _ _ _ _ _ (s₁.setTop (mkF m 9 #[.val (.ref ea), .val (.int (Int32.ofNat i)), .val (.int (Int32.ofNat j))] [(.ref ea)]))
    refine OwnR.of (fun _ hr => XS.iloadN X0.here hx rfl (hb hby d10_9) rfl hr) ?_
    show OwnR _ _ _ _ _ _ _ (s₁.setTop (mkF m 10 #[.val (.ref ea), .val (.int (Int32.ofNat i)), .val (.int (Int32.ofNat j))] [(.int (Int32.ofNat i)), (.ref ea)]))
    refine OwnR.of (fun _ hr => XS.iloadN X0.here hx rfl (hb hby d10_10) rfl hr) ?_
    show OwnR _ _ _ _ _ _ _ (s₁.setTop (mkF m 11 #[.val (.ref ea), .val (.int (Int32.ofNat i)), .val (.int (Int32.ofNat j))] [(.int (Int32.ofNat j)), (.int (Int32.ofNat i)), (.ref ea)]))
    obtain ⟨_, _, ⟨T2, L2, kc2, ns2⟩, -, X2, ⟨Lc2, hQ2, l2, y2, z2⟩, st2⟩ := Jvm.LawKit.callS X0 hx (y := (⟨"com/example/fast_taxonomy/fasttaxonomy/taxonomy/RelationTopologicalOrderPinLaw", "path2", "([[ZII)Z"⟩ : MethodName)) hown (mvT hZ (hw _ (List.mem_of_getElem? (i := 52) rfl))) (mvT hZ (hw _ (List.mem_of_getElem? (i := 53) rfl))) (mvT hZ (hw _ (List.mem_of_getElem? (i := 29) rfl))) (mvT hZ (hw _ (List.mem_of_getElem? (i := 54) rfl))) (by decide) (backOf (W := 0) (rmPath2 l Z a0 hw [] ea kE D kD M i j h0 n0 (Nat.le_trans Z0 (Keep.refl h0 []).1) EE hi hj) hZ (hw _ (List.mem_of_getElem? (i := 54) rfl)) (hw _ (List.mem_of_getElem? (i := 29) rfl)) (by decide) (by decide)) (g := (mkF m 11 #[.val (.ref ea), .val (.int (Int32.ofNat i)), .val (.int (Int32.ofNat j))] [(.int (Int32.ofNat j)), (.int (Int32.ofNat i)), (.ref ea)])) rfl (by rw [hml]; rfl) (argsL := [(.ref ea), (.int (Int32.ofNat i)), (.int (Int32.ofNat j))]) (rest := []) (lenOf pd____ZII_Z rfl) rfl (by show 2 * 0 + _ ≤ _; exact Nat.le_of_eq rfl) (hb hby d10_11) (fun _ _ => ⟨rfl, e0, (by decide : 0 + 0 ≤ _), (by decide : 0 + 0 ≤ _)⟩)
    dsimp only [Pt.U, Pt.locs, Pt.cells, Pt.slots] at X2 l2 y2 z2 st2 hQ2
    rw [l2, y2, z2] at X2
    obtain ⟨rfl, N2q, e2⟩ := hQ2
    have N2 := Fr.app N0 N2q
    refine OwnR.of (st2) ?_
    show OwnR _ _ _ _ _ _ _ (T2.setTop (mkF m 14 #[.val (.ref ea), .val (.int (Int32.ofNat i)), .val (.int (Int32.ofNat j))] [(.int (own_bi (own_path2 M i j)))]))
    by_cases hc14_3 : (own_bi (own_path2 M i j)) = (0 : Int32)
    · skip
      refine OwnR.of (fun _ hr => XS.ifNo X2.here hx rfl (hb hby d10_14) rfl ((if0 _ _).trans (teq hc14_3).2) hr) ?_
      show OwnR _ _ _ _ _ _ _ (T2.setTop (mkF m 17 #[.val (.ref ea), .val (.int (Int32.ofNat i)), .val (.int (Int32.ofNat j))] []))
      refine OwnR.of (fun _ hr => XS.aloadN X2.here hx rfl (hb hby d10_17) rfl rfl hr) ?_
      show OwnR _ _ _ _ _ _ _ (T2.setTop (mkF m 18 #[.val (.ref ea), .val (.int (Int32.ofNat i)), .val (.int (Int32.ofNat j))] [(.ref ea)]))
      refine OwnR.of (fun _ hr => XS.iloadN X2.here hx rfl (hb hby d10_18) rfl hr) ?_
      show OwnR _ _ _ _ _ _ _ (T2.setTop (mkF m 19 #[.val (.ref ea), .val (.int (Int32.ofNat i)), .val (.int (Int32.ofNat j))] [(.int (Int32.ofNat i)), (.ref ea)]))
      refine OwnR.of (fun _ hr => XS.iloadN X2.here hx rfl (hb hby d10_19) rfl hr) ?_
      show OwnR _ _ _ _ _ _ _ (T2.setTop (mkF m 20 #[.val (.ref ea), .val (.int (Int32.ofNat i)), .val (.int (Int32.ofNat j))] [(.int (Int32.ofNat j)), (.int (Int32.ofNat i)), (.ref ea)]))
      obtain ⟨_, _, ⟨T4, L4, kc4, ns4⟩, -, X4, ⟨Lc4, hQ4, l4, y4, z4⟩, st4⟩ := Jvm.LawKit.callS X2 hx (y := (⟨"com/example/fast_taxonomy/fasttaxonomy/taxonomy/RelationTopologicalOrderPinLaw", "path3", "([[ZII)Z"⟩ : MethodName)) hown (mvT hZ (hw _ (List.mem_of_getElem? (i := 55) rfl))) (mvT hZ (hw _ (List.mem_of_getElem? (i := 56) rfl))) (mvT hZ (hw _ (List.mem_of_getElem? (i := 29) rfl))) (mvT hZ (hw _ (List.mem_of_getElem? (i := 57) rfl))) (by decide) (backOf (W := 0) (rmPath3 l Z a0 hw [] ea kE D kD M i j h0 n0 (Nat.le_trans Z0 (Keep.refl h0 []).1) EE hi hj) hZ (hw _ (List.mem_of_getElem? (i := 57) rfl)) (hw _ (List.mem_of_getElem? (i := 29) rfl)) (by decide) (by decide)) (g := (mkF m 20 #[.val (.ref ea), .val (.int (Int32.ofNat i)), .val (.int (Int32.ofNat j))] [(.int (Int32.ofNat j)), (.int (Int32.ofNat i)), (.ref ea)])) rfl (by rw [hml]; rfl) (argsL := [(.ref ea), (.int (Int32.ofNat i)), (.int (Int32.ofNat j))]) (rest := []) (lenOf pd____ZII_Z rfl) rfl (by show 2 * 0 + _ ≤ _; exact Nat.le_of_eq rfl) (hb hby d10_20) (fun _ _ => ⟨rfl, e2, (by decide : 0 + 0 ≤ _), (by decide : 0 + 0 ≤ _)⟩)
      dsimp only [Pt.U, Pt.locs, Pt.cells, Pt.slots] at X4 l4 y4 z4 st4 hQ4
      rw [l4, y4, z4] at X4
      obtain ⟨rfl, N4q, e4⟩ := hQ4
      have N4 := Fr.app N2 N4q
      refine OwnR.of (st4) ?_
      show OwnR _ _ _ _ _ _ _ (T4.setTop (mkF m 23 #[.val (.ref ea), .val (.int (Int32.ofNat i)), .val (.int (Int32.ofNat j))] [(.int (own_bi (own_path3 M i j)))]))
      by_cases hc23_5 : (own_bi (own_path3 M i j)) = (0 : Int32)
      · skip
        refine OwnR.of (fun _ hr => XS.ifYes X4.here hx rfl (pc0 := 23) (pc' := 30) rfl (hb hby d10_23) rfl ((if0 _ _).trans (teq hc23_5).1) (by decide) (by decide) hr) ?_
        show OwnR _ _ _ _ _ _ _ (T4.setTop (mkF m 30 #[.val (.ref ea), .val (.int (Int32.ofNat i)), .val (.int (Int32.ofNat j))] []))
        refine OwnR.of (fun _ hr => XS.iconst X4.here hx rfl (hb hby d10_30) hr) ?_
        show OwnR _ _ _ _ _ _ _ (T4.setTop (mkF m 31 #[.val (.ref ea), .val (.int (Int32.ofNat i)), .val (.int (Int32.ofNat j))] [(.int (0 : Int32))]))
        refine own_leafN X4 hx hlk (t := .boolean) Bd.returns (by simp) (hb hby d10_31) (z' := (0 : Int32)) rfl (by decide) (by decide) ?_
        show QReach Z M i j h0 n0 _ T4.heap _
        rw [show T4.heap = h0 from e4]
        refine ⟨?_, N4, rfl⟩
        show (some (.int (0 : Int32)) : Option Value) = some (.int (own_bi (own_reach1 M i j)))
        simp only [own_bi0, Bool.not_eq_false] at hc5_1 hc14_3 hc23_5
        simp [own_reach1, own_bi, hc5_1, hc14_3, hc23_5]
      · skip
        refine OwnR.of (fun _ hr => XS.ifNo X4.here hx rfl (hb hby d10_23) rfl ((if0 _ _).trans (feq hc23_5).1) hr) ?_
        show OwnR _ _ _ _ _ _ _ (T4.setTop (mkF m 26 #[.val (.ref ea), .val (.int (Int32.ofNat i)), .val (.int (Int32.ofNat j))] []))
        refine OwnR.of (fun _ hr => XS.iconst X4.here hx rfl (hb hby d10_26) hr) ?_
        show OwnR _ _ _ _ _ _ _ (T4.setTop (mkF m 27 #[.val (.ref ea), .val (.int (Int32.ofNat i)), .val (.int (Int32.ofNat j))] [(.int (1 : Int32))]))
        refine OwnR.of (fun _ hr => XS.goto X4.here hx rfl (pc0 := 27) (pc' := 31) rfl (hb hby d10_27) (by decide) (by decide) hr) ?_
        show OwnR _ _ _ _ _ _ _ (T4.setTop (mkF m 31 #[.val (.ref ea), .val (.int (Int32.ofNat i)), .val (.int (Int32.ofNat j))] [(.int (1 : Int32))]))
        refine own_leafN X4 hx hlk (t := .boolean) Bd.returns (by simp) (hb hby d10_31) (z' := (1 : Int32)) rfl (by decide) (by decide) ?_
        show QReach Z M i j h0 n0 _ T4.heap _
        rw [show T4.heap = h0 from e4]
        refine ⟨?_, N4, rfl⟩
        show (some (.int (1 : Int32)) : Option Value) = some (.int (own_bi (own_reach1 M i j)))
        simp only [own_bi0, Bool.not_eq_false] at hc5_1 hc14_3 hc23_5
        simp [own_reach1, own_bi, hc5_1, hc14_3, hc23_5]
    · skip
      refine OwnR.of (fun _ hr => XS.ifYes X2.here hx rfl (pc0 := 14) (pc' := 26) rfl (hb hby d10_14) rfl ((if0 _ _).trans (feq hc14_3).2) (by decide) (by decide) hr) ?_
      show OwnR _ _ _ _ _ _ _ (T2.setTop (mkF m 26 #[.val (.ref ea), .val (.int (Int32.ofNat i)), .val (.int (Int32.ofNat j))] []))
      refine OwnR.of (fun _ hr => XS.iconst X2.here hx rfl (hb hby d10_26) hr) ?_
      show OwnR _ _ _ _ _ _ _ (T2.setTop (mkF m 27 #[.val (.ref ea), .val (.int (Int32.ofNat i)), .val (.int (Int32.ofNat j))] [(.int (1 : Int32))]))
      refine OwnR.of (fun _ hr => XS.goto X2.here hx rfl (pc0 := 27) (pc' := 31) rfl (hb hby d10_27) (by decide) (by decide) hr) ?_
      show OwnR _ _ _ _ _ _ _ (T2.setTop (mkF m 31 #[.val (.ref ea), .val (.int (Int32.ofNat i)), .val (.int (Int32.ofNat j))] [(.int (1 : Int32))]))
      refine own_leafN X2 hx hlk (t := .boolean) Bd.returns (by simp) (hb hby d10_31) (z' := (1 : Int32)) rfl (by decide) (by decide) ?_
      show QReach Z M i j h0 n0 _ T2.heap _
      rw [show T2.heap = h0 from e2]
      refine ⟨?_, N2, rfl⟩
      show (some (.int (1 : Int32)) : Option Value) = some (.int (own_bi (own_reach1 M i j)))
      simp only [own_bi0, Bool.not_eq_false] at hc5_1 hc14_3
      simp [own_reach1, own_bi, hc5_1, hc14_3]
  · skip
    refine OwnR.of (fun _ hr => XS.ifYes X0.here hx rfl (pc0 := 5) (pc' := 26) rfl (hb hby d10_5) rfl ((if0 _ _).trans (feq hc5_1).2) (by decide) (by decide) hr) ?_
    show OwnR _ _ _ _ _ _ _ (s₁.setTop (mkF m 26 #[.val (.ref ea), .val (.int (Int32.ofNat i)), .val (.int (Int32.ofNat j))] []))
    refine OwnR.of (fun _ hr => XS.iconst X0.here hx rfl (hb hby d10_26) hr) ?_
    show OwnR _ _ _ _ _ _ _ (s₁.setTop (mkF m 27 #[.val (.ref ea), .val (.int (Int32.ofNat i)), .val (.int (Int32.ofNat j))] [(.int (1 : Int32))]))
    refine OwnR.of (fun _ hr => XS.goto X0.here hx rfl (pc0 := 27) (pc' := 31) rfl (hb hby d10_27) (by decide) (by decide) hr) ?_
    show OwnR _ _ _ _ _ _ _ (s₁.setTop (mkF m 31 #[.val (.ref ea), .val (.int (Int32.ofNat i)), .val (.int (Int32.ofNat j))] [(.int (1 : Int32))]))
    refine own_leafN X0 hx hlk (t := .boolean) Bd.returns (by simp) (hb hby d10_31) (z' := (1 : Int32)) rfl (by decide) (by decide) ?_
    show QReach Z M i j h0 n0 _ s₁.heap _
    rw [show s₁.heap = h0 from e0]
    refine ⟨?_, N0, rfl⟩
    show (some (.int (1 : Int32)) : Option Value) = some (.int (own_bi (own_reach1 M i j)))
    simp only [own_bi0, Bool.not_eq_false] at hc5_1
    simp [own_reach1, own_bi, hc5_1]
theorem own_eq3 {n k : Nat} (h : n < 3) (hk : k < 3) : (Int32.ofNat n = Int32.ofNat k) = (n = k) := propext (own_eqn (by omega) (by omega))
theorem ef_rmFromC (m : MethodId) (x0 : Addr) : entryFrame m #[(.ref x0), (.int (Int32.ofNat cv)), (.int (Int32.ofNat xv))] 3 = mkF m 0 #[.val (.ref x0), .val (.int (Int32.ofNat cv)), .val (.int (Int32.ofNat xv))] [] := by first | (simp [entryFrame, mkF, argsToLocals, Value.category]; done) | rfl
theorem d9_0 : decode method_8_code 0 = .ok (.aload_n 0, 1) := by decide +kernel
theorem d9_1 : decode method_8_code 1 = .ok (.iload_n 1, 1) := by decide +kernel
theorem d9_2 : decode method_8_code 2 = .ok (.iload_n 1, 1) := by decide +kernel
theorem d9_3 : decode method_8_code 3 = .ok (.invokestatic 45, 3) := by decide +kernel
theorem d9_6 : decode method_8_code 6 = .ok (.ifCond .eq 21, 3) := by decide +kernel
theorem d9_27 : decode method_8_code 27 = .ok (.iconst 0, 1) := by decide +kernel
theorem d9_28 : decode method_8_code 28 = .ok (.ireturn, 1) := by decide +kernel
theorem d9_9 : decode method_8_code 9 = .ok (.iload_n 1, 1) := by decide +kernel
theorem d9_10 : decode method_8_code 10 = .ok (.iload_n 2, 1) := by decide +kernel
theorem d9_11 : decode method_8_code 11 = .ok (.if_icmp .eq 12, 3) := by decide +kernel
theorem d9_23 : decode method_8_code 23 = .ok (.iconst 1, 1) := by decide +kernel
theorem d9_24 : decode method_8_code 24 = .ok (.goto 4, 3) := by decide +kernel
theorem d9_14 : decode method_8_code 14 = .ok (.aload_n 0, 1) := by decide +kernel
theorem d9_15 : decode method_8_code 15 = .ok (.iload_n 1, 1) := by decide +kernel
theorem d9_16 : decode method_8_code 16 = .ok (.iload_n 2, 1) := by decide +kernel
theorem d9_17 : decode method_8_code 17 = .ok (.invokestatic 45, 3) := by decide +kernel
theorem d9_20 : decode method_8_code 20 = .ok (.ifCond .eq 7, 3) := by decide +kernel
def QFromC (Z : State) (M : Nat → Nat) (cv : Nat) (xv : Nat) (h0 : Heap) (n0 : Nat) (v : Option Value) (h : Heap) (L : List Loc) : Prop := v = some (.int (own_bi (own_fromC M cv xv))) ∧ Fr n0 L ∧ h = h0
set_option maxRecDepth 65536 in
set_option maxHeartbeats 40000000 in
theorem rmFromC (l : Launch) (Z : State) (a0 : Array Value) (hw : ∀ d ∈ tables_1, d.before a0 Z = true) (ws : List Jvm.Cond) (ea : Addr) (kE : ClassId) (D : Nat → Addr) (kD : Nat → ClassId) (M : Nat → Nat) (cv xv : Nat) (h0 : Heap) (n0 : Nat) (Z0 : n0 ≤ h0.size) (EE : OwnE Z h0 ea kE D kD M) (hcv : cv < 3) (hxv : xv < 3) :
    MetFree l (⟨"com/example/fast_taxonomy/fasttaxonomy/taxonomy/RelationTopologicalOrderPinLaw", "fromCycle", "([[ZII)Z"⟩ : MethodName) (head1 (Jvm.Cond.code (⟨"com/example/fast_taxonomy/fasttaxonomy/taxonomy/RelationTopologicalOrderPinLaw", "fromCycle", "([[ZII)Z"⟩ : MethodName) method_8_code 3 (some .boolean) :: ws) ({ frames := 3, cells := 0, slots := 0, locals := 60 } : Room)) (fun a U => a = #[(.ref ea), (.int (Int32.ofNat cv)), (.int (Int32.ofNat xv))] ∧ Z.Warmed39 U.vm ∧ U.heap = h0) (fun _ _ _ _ _ => True) (fun _ U o U' => ∃ v L, o = .returned v ∧ QFromC Z M cv xv h0 n0 v U'.heap L ∧ FrameEnd U o U' L ({ frames := 3, cells := 0, slots := 0, locals := 60 } : Room).cells ({ frames := 3, cells := 0, slots := 0, locals := 60 } : Room).slots) := by
  refine MetFree.of_bodySF (plainFor_of_name pn_com_example_fast_taxonomy_fasttaxonomy_taxonomy_RelationTopologicalOrderPinLaw) hisR ?_
  intro p e s m args below meth c s₁ Bd hml0 hP hK
  obtain ⟨rfl, hZ, hh⟩ := hP
  have hx := Bd.exec
  have hby := Bd.bytes
  have hlk := BodyLoose.notSynchronized Bd
  have hml : c.maxLocals = 3 := hml0
  have hown : s.vm.findClass "com/example/fast_taxonomy/fasttaxonomy/taxonomy/RelationTopologicalOrderPinLaw" = some m.cls := findClass_of_methodNamed Bd.named
  have hnm := (name_of_methodNamed Bd.named Bd.method).1
  have X0 : Stand p l e ({ frames := 3, cells := 0, slots := 0, locals := 60 } : Room) s m #[(.ref ea), (.int (Int32.ofNat cv)), (.int (Int32.ofNat xv))] below meth c s₁ [] 0 0 := Stand.of_body Bd
  have e0 : s₁.heap = h0 := by rw [← hh, Bd.state]; rfl
  have N0 := Fr.nil n0
  refine OwnR.of (s := s) (Q := QFromC Z M cv xv h0 n0) (fun t k => castTop (ef_rmFromC m ea) k) ?_
  show OwnR _ _ _ _ _ _ _ (s₁.setTop (mkF m 0 #[.val (.ref ea), .val (.int (Int32.ofNat cv)), .val (.int (Int32.ofNat xv))] []))
  refine OwnR.of (fun _ hr => XS.aloadN X0.here hx rfl (hb hby d9_0) rfl rfl hr) ?_
  show OwnR _ _ _ _ _ _ _ (s₁.setTop (mkF m 1 #[.val (.ref ea), .val (.int (Int32.ofNat cv)), .val (.int (Int32.ofNat xv))] [(.ref ea)]))
  refine OwnR.of (fun _ hr => XS.iloadN X0.here hx rfl (hb hby d9_1) rfl hr) ?_
  show OwnR _ _ _ _ _ _ _ (s₁.setTop (mkF m 2 #[.val (.ref ea), .val (.int (Int32.ofNat cv)), .val (.int (Int32.ofNat xv))] [(.int (Int32.ofNat cv)), (.ref ea)]))
  refine OwnR.of (fun _ hr => XS.iloadN X0.here hx rfl (hb hby d9_2) rfl hr) ?_
  show OwnR _ _ _ _ _ _ _ (s₁.setTop (mkF m 3 #[.val (.ref ea), .val (.int (Int32.ofNat cv)), .val (.int (Int32.ofNat xv))] [(.int (Int32.ofNat cv)), (.int (Int32.ofNat cv)), (.ref ea)]))
  obtain ⟨_, _, ⟨T1, L1, kc1, ns1⟩, -, X1, ⟨Lc1, hQ1, l1, y1, z1⟩, st1⟩ := Jvm.LawKit.callS X0 hx (y := (⟨"com/example/fast_taxonomy/fasttaxonomy/taxonomy/RelationTopologicalOrderPinLaw", "reach1", "([[ZII)Z"⟩ : MethodName)) hown (mvT hZ (hw _ (List.mem_of_getElem? (i := 49) rfl))) (mvT hZ (hw _ (List.mem_of_getElem? (i := 50) rfl))) (mvT hZ (hw _ (List.mem_of_getElem? (i := 29) rfl))) (mvT hZ (hw _ (List.mem_of_getElem? (i := 51) rfl))) (by decide) (backOf (W := 0) (rmReach l Z a0 hw [] ea kE D kD M cv cv h0 n0 (Nat.le_trans Z0 (Keep.refl h0 []).1) EE hcv hcv) hZ (hw _ (List.mem_of_getElem? (i := 51) rfl)) (hw _ (List.mem_of_getElem? (i := 29) rfl)) (by decide) (by decide)) (g := (mkF m 3 #[.val (.ref ea), .val (.int (Int32.ofNat cv)), .val (.int (Int32.ofNat xv))] [(.int (Int32.ofNat cv)), (.int (Int32.ofNat cv)), (.ref ea)])) rfl (by rw [hml]; rfl) (argsL := [(.ref ea), (.int (Int32.ofNat cv)), (.int (Int32.ofNat cv))]) (rest := []) (lenOf pd____ZII_Z rfl) rfl (by show 2 * 0 + _ ≤ _; exact Nat.le_of_eq rfl) (hb hby d9_3) (fun _ _ => ⟨rfl, e0, (by decide : 0 + 0 ≤ _), (by decide : 0 + 0 ≤ _)⟩)
  dsimp only [Pt.U, Pt.locs, Pt.cells, Pt.slots] at X1 l1 y1 z1 st1 hQ1
  rw [l1, y1, z1] at X1
  obtain ⟨rfl, N1q, e1⟩ := hQ1
  have N1 := Fr.app N0 N1q
  refine OwnR.of (st1) ?_
  show OwnR _ _ _ _ _ _ _ (T1.setTop (mkF m 6 #[.val (.ref ea), .val (.int (Int32.ofNat cv)), .val (.int (Int32.ofNat xv))] [(.int (own_bi (own_reach1 M cv cv)))]))
  by_cases hc6_2 : (own_bi (own_reach1 M cv cv)) = (0 : Int32)
  · skip
    refine OwnR.of (fun _ hr => XS.ifYes X1.here hx rfl (pc0 := 6) (pc' := 27) rfl (hb hby d9_6) rfl ((if0 _ _).trans (teq hc6_2).1) (by decide) (by decide) hr) ?_
    show OwnR _ _ _ _ _ _ _ (T1.setTop (mkF m 27 #[.val (.ref ea), .val (.int (Int32.ofNat cv)), .val (.int (Int32.ofNat xv))] []))
    refine OwnR.of (fun _ hr => XS.iconst X1.here hx rfl (hb hby d9_27) hr) ?_
    show OwnR _ _ _ _ _ _ _ (T1.setTop (mkF m 28 #[.val (.ref ea), .val (.int (Int32.ofNat cv)), .val (.int (Int32.ofNat xv))] [(.int (0 : Int32))]))
    refine own_leafN X1 hx hlk (t := .boolean) Bd.returns (by simp) (hb hby d9_28) (z' := (0 : Int32)) rfl (by decide) (by decide) ?_
    show QFromC Z M cv xv h0 n0 _ T1.heap _
    rw [show T1.heap = h0 from e1]
    refine ⟨?_, N1, rfl⟩
    show (some (.int (0 : Int32)) : Option Value) = some (.int (own_bi (own_fromC M cv xv)))
    simp only [own_bi0, Bool.not_eq_false, own_eq3 hcv hxv] at hc6_2
    unfold own_fromC
    rw [hc6_2]
    simp [own_bi]
  · skip
    refine OwnR.of (fun _ hr => XS.ifNo X1.here hx rfl (hb hby d9_6) rfl ((if0 _ _).trans (feq hc6_2).1) hr) ?_
    show OwnR _ _ _ _ _ _ _ (T1.setTop (mkF m 9 #[.val (.ref ea), .val (.int (Int32.ofNat cv)), .val (.int (Int32.ofNat xv))] []))
    refine OwnR.of (fun _ hr => XS.iloadN X1.here hx rfl (hb hby d9_9) rfl hr) ?_
    show OwnR _ _ _ _ _ _ _ (T1.setTop (mkF m 10 #[.val (.ref ea), .val (.int (Int32.ofNat cv)), .val (.int (Int32.ofNat xv))] [(.int (Int32.ofNat cv))]))
    refine OwnR.of (fun _ hr => XS.iloadN X1.here hx rfl (hb hby d9_10) rfl hr) ?_
    show OwnR _ _ _ _ _ _ _ (T1.setTop (mkF m 11 #[.val (.ref ea), .val (.int (Int32.ofNat cv)), .val (.int (Int32.ofNat xv))] [(.int (Int32.ofNat xv)), (.int (Int32.ofNat cv))]))
    by_cases hc11_3 : (Int32.ofNat cv) = (Int32.ofNat xv)
    · skip
      refine OwnR.of (fun _ hr => XS.icmpYes X1.here hx rfl (pc0 := 11) (pc' := 23) rfl (hb hby d9_11) rfl (teq hc11_3).1 (by decide) (by decide) hr) ?_
      show OwnR _ _ _ _ _ _ _ (T1.setTop (mkF m 23 #[.val (.ref ea), .val (.int (Int32.ofNat cv)), .val (.int (Int32.ofNat xv))] []))
      refine OwnR.of (fun _ hr => XS.iconst X1.here hx rfl (hb hby d9_23) hr) ?_
      show OwnR _ _ _ _ _ _ _ (T1.setTop (mkF m 24 #[.val (.ref ea), .val (.int (Int32.ofNat cv)), .val (.int (Int32.ofNat xv))] [(.int (1 : Int32))]))
      refine OwnR.of (fun _ hr => XS.goto X1.here hx rfl (pc0 := 24) (pc' := 28) rfl (hb hby d9_24) (by decide) (by decide) hr) ?_
      show OwnR _ _ _ _ _ _ _ (T1.setTop (mkF m 28 #[.val (.ref ea), .val (.int (Int32.ofNat cv)), .val (.int (Int32.ofNat xv))] [(.int (1 : Int32))]))
      refine own_leafN X1 hx hlk (t := .boolean) Bd.returns (by simp) (hb hby d9_28) (z' := (1 : Int32)) rfl (by decide) (by decide) ?_
      show QFromC Z M cv xv h0 n0 _ T1.heap _
      rw [show T1.heap = h0 from e1]
      refine ⟨?_, N1, rfl⟩
      show (some (.int (1 : Int32)) : Option Value) = some (.int (own_bi (own_fromC M cv xv)))
      simp only [own_bi0, Bool.not_eq_false, own_eq3 hcv hxv] at hc6_2 hc11_3
      unfold own_fromC
      rw [hc6_2]
      simp [own_bi, hc11_3]
    · skip
      refine OwnR.of (fun _ hr => XS.icmpNo X1.here hx rfl (hb hby d9_11) rfl (feq hc11_3).1 hr) ?_
      show OwnR _ _ _ _ _ _ _ (T1.setTop (mkF m 14 #[.val (.ref ea), .val (.int (Int32.ofNat cv)), .val (.int (Int32.ofNat xv))] []))
      refine OwnR.of (fun _ hr => XS.aloadN X1.here hx rfl (hb hby d9_14) rfl rfl hr) ?_
      show OwnR _ _ _ _ _ _ _ (T1.setTop (mkF m 15 #[.val (.ref ea), .val (.int (Int32.ofNat cv)), .val (.int (Int32.ofNat xv))] [(.ref ea)]))
      refine OwnR.of (fun _ hr => XS.iloadN X1.here hx rfl (hb hby d9_15) rfl hr) ?_
      show OwnR _ _ _ _ _ _ _ (T1.setTop (mkF m 16 #[.val (.ref ea), .val (.int (Int32.ofNat cv)), .val (.int (Int32.ofNat xv))] [(.int (Int32.ofNat cv)), (.ref ea)]))
      refine OwnR.of (fun _ hr => XS.iloadN X1.here hx rfl (hb hby d9_16) rfl hr) ?_
      show OwnR _ _ _ _ _ _ _ (T1.setTop (mkF m 17 #[.val (.ref ea), .val (.int (Int32.ofNat cv)), .val (.int (Int32.ofNat xv))] [(.int (Int32.ofNat xv)), (.int (Int32.ofNat cv)), (.ref ea)]))
      obtain ⟨_, _, ⟨T4, L4, kc4, ns4⟩, -, X4, ⟨Lc4, hQ4, l4, y4, z4⟩, st4⟩ := Jvm.LawKit.callS X1 hx (y := (⟨"com/example/fast_taxonomy/fasttaxonomy/taxonomy/RelationTopologicalOrderPinLaw", "reach1", "([[ZII)Z"⟩ : MethodName)) hown (mvT hZ (hw _ (List.mem_of_getElem? (i := 49) rfl))) (mvT hZ (hw _ (List.mem_of_getElem? (i := 50) rfl))) (mvT hZ (hw _ (List.mem_of_getElem? (i := 29) rfl))) (mvT hZ (hw _ (List.mem_of_getElem? (i := 51) rfl))) (by decide) (backOf (W := 0) (rmReach l Z a0 hw [] ea kE D kD M cv xv h0 n0 (Nat.le_trans Z0 (Keep.refl h0 []).1) EE hcv hxv) hZ (hw _ (List.mem_of_getElem? (i := 51) rfl)) (hw _ (List.mem_of_getElem? (i := 29) rfl)) (by decide) (by decide)) (g := (mkF m 17 #[.val (.ref ea), .val (.int (Int32.ofNat cv)), .val (.int (Int32.ofNat xv))] [(.int (Int32.ofNat xv)), (.int (Int32.ofNat cv)), (.ref ea)])) rfl (by rw [hml]; rfl) (argsL := [(.ref ea), (.int (Int32.ofNat cv)), (.int (Int32.ofNat xv))]) (rest := []) (lenOf pd____ZII_Z rfl) rfl (by show 2 * 0 + _ ≤ _; exact Nat.le_of_eq rfl) (hb hby d9_17) (fun _ _ => ⟨rfl, e1, (by decide : 0 + 0 ≤ _), (by decide : 0 + 0 ≤ _)⟩)
      dsimp only [Pt.U, Pt.locs, Pt.cells, Pt.slots] at X4 l4 y4 z4 st4 hQ4
      rw [l4, y4, z4] at X4
      obtain ⟨rfl, N4q, e4⟩ := hQ4
      have N4 := Fr.app N1 N4q
      refine OwnR.of (st4) ?_
      show OwnR _ _ _ _ _ _ _ (T4.setTop (mkF m 20 #[.val (.ref ea), .val (.int (Int32.ofNat cv)), .val (.int (Int32.ofNat xv))] [(.int (own_bi (own_reach1 M cv xv)))]))
      by_cases hc20_5 : (own_bi (own_reach1 M cv xv)) = (0 : Int32)
      · skip
        refine OwnR.of (fun _ hr => XS.ifYes X4.here hx rfl (pc0 := 20) (pc' := 27) rfl (hb hby d9_20) rfl ((if0 _ _).trans (teq hc20_5).1) (by decide) (by decide) hr) ?_
        show OwnR _ _ _ _ _ _ _ (T4.setTop (mkF m 27 #[.val (.ref ea), .val (.int (Int32.ofNat cv)), .val (.int (Int32.ofNat xv))] []))
        refine OwnR.of (fun _ hr => XS.iconst X4.here hx rfl (hb hby d9_27) hr) ?_
        show OwnR _ _ _ _ _ _ _ (T4.setTop (mkF m 28 #[.val (.ref ea), .val (.int (Int32.ofNat cv)), .val (.int (Int32.ofNat xv))] [(.int (0 : Int32))]))
        refine own_leafN X4 hx hlk (t := .boolean) Bd.returns (by simp) (hb hby d9_28) (z' := (0 : Int32)) rfl (by decide) (by decide) ?_
        show QFromC Z M cv xv h0 n0 _ T4.heap _
        rw [show T4.heap = h0 from e4]
        refine ⟨?_, N4, rfl⟩
        show (some (.int (0 : Int32)) : Option Value) = some (.int (own_bi (own_fromC M cv xv)))
        simp only [own_bi0, Bool.not_eq_false, own_eq3 hcv hxv] at hc6_2 hc11_3 hc20_5
        unfold own_fromC
        rw [hc6_2]
        simp [own_bi, hc11_3, hc20_5]
      · skip
        refine OwnR.of (fun _ hr => XS.ifNo X4.here hx rfl (hb hby d9_20) rfl ((if0 _ _).trans (feq hc20_5).1) hr) ?_
        show OwnR _ _ _ _ _ _ _ (T4.setTop (mkF m 23 #[.val (.ref ea), .val (.int (Int32.ofNat cv)), .val (.int (Int32.ofNat xv))] []))
        refine OwnR.of (fun _ hr => XS.iconst X4.here hx rfl (hb hby d9_23) hr) ?_
        show OwnR _ _ _ _ _ _ _ (T4.setTop (mkF m 24 #[.val (.ref ea), .val (.int (Int32.ofNat cv)), .val (.int (Int32.ofNat xv))] [(.int (1 : Int32))]))
        refine OwnR.of (fun _ hr => XS.goto X4.here hx rfl (pc0 := 24) (pc' := 28) rfl (hb hby d9_24) (by decide) (by decide) hr) ?_
        show OwnR _ _ _ _ _ _ _ (T4.setTop (mkF m 28 #[.val (.ref ea), .val (.int (Int32.ofNat cv)), .val (.int (Int32.ofNat xv))] [(.int (1 : Int32))]))
        refine own_leafN X4 hx hlk (t := .boolean) Bd.returns (by simp) (hb hby d9_28) (z' := (1 : Int32)) rfl (by decide) (by decide) ?_
        show QFromC Z M cv xv h0 n0 _ T4.heap _
        rw [show T4.heap = h0 from e4]
        refine ⟨?_, N4, rfl⟩
        show (some (.int (1 : Int32)) : Option Value) = some (.int (own_bi (own_fromC M cv xv)))
        simp only [own_bi0, Bool.not_eq_false, own_eq3 hcv hxv] at hc6_2 hc11_3 hc20_5
        unfold own_fromC
        rw [hc6_2]
        simp [own_bi, hc11_3, hc20_5]
theorem ef_rmInB (m : MethodId) (x0 : Addr) : entryFrame m #[(.ref x0), (.int (Int32.ofNat xv))] 2 = mkF m 0 #[.val (.ref x0), .val (.int (Int32.ofNat xv))] [] := by first | (simp [entryFrame, mkF, argsToLocals, Value.category]; done) | rfl
theorem d8_0 : decode method_9_code 0 = .ok (.aload_n 0, 1) := by decide +kernel
theorem d8_1 : decode method_9_code 1 = .ok (.iconst 0, 1) := by decide +kernel
theorem d8_2 : decode method_9_code 2 = .ok (.iload_n 1, 1) := by decide +kernel
theorem d8_3 : decode method_9_code 3 = .ok (.invokestatic 48, 3) := by decide +kernel
theorem d8_6 : decode method_9_code 6 = .ok (.ifCond .ne 21, 3) := by decide +kernel
theorem d8_9 : decode method_9_code 9 = .ok (.aload_n 0, 1) := by decide +kernel
theorem d8_10 : decode method_9_code 10 = .ok (.iconst 1, 1) := by decide +kernel
theorem d8_11 : decode method_9_code 11 = .ok (.iload_n 1, 1) := by decide +kernel
theorem d8_12 : decode method_9_code 12 = .ok (.invokestatic 48, 3) := by decide +kernel
theorem d8_15 : decode method_9_code 15 = .ok (.ifCond .ne 12, 3) := by decide +kernel
theorem d8_18 : decode method_9_code 18 = .ok (.aload_n 0, 1) := by decide +kernel
theorem d8_19 : decode method_9_code 19 = .ok (.iconst 2, 1) := by decide +kernel
theorem d8_20 : decode method_9_code 20 = .ok (.iload_n 1, 1) := by decide +kernel
theorem d8_21 : decode method_9_code 21 = .ok (.invokestatic 48, 3) := by decide +kernel
theorem d8_24 : decode method_9_code 24 = .ok (.ifCond .eq 7, 3) := by decide +kernel
theorem d8_31 : decode method_9_code 31 = .ok (.iconst 0, 1) := by decide +kernel
theorem d8_32 : decode method_9_code 32 = .ok (.ireturn, 1) := by decide +kernel
theorem d8_27 : decode method_9_code 27 = .ok (.iconst 1, 1) := by decide +kernel
theorem d8_28 : decode method_9_code 28 = .ok (.goto 4, 3) := by decide +kernel
def QInB (Z : State) (M : Nat → Nat) (xv : Nat) (h0 : Heap) (n0 : Nat) (v : Option Value) (h : Heap) (L : List Loc) : Prop := v = some (.int (own_bi (own_inB M xv))) ∧ Fr n0 L ∧ h = h0
set_option maxRecDepth 65536 in
set_option maxHeartbeats 40000000 in
theorem rmInB (l : Launch) (Z : State) (a0 : Array Value) (hw : ∀ d ∈ tables_1, d.before a0 Z = true) (ws : List Jvm.Cond) (ea : Addr) (kE : ClassId) (D : Nat → Addr) (kD : Nat → ClassId) (M : Nat → Nat) (xv : Nat) (h0 : Heap) (n0 : Nat) (Z0 : n0 ≤ h0.size) (EE : OwnE Z h0 ea kE D kD M) (hxv : xv < 3) :
    MetFree l (⟨"com/example/fast_taxonomy/fasttaxonomy/taxonomy/RelationTopologicalOrderPinLaw", "inB", "([[ZI)Z"⟩ : MethodName) (head1 (Jvm.Cond.code (⟨"com/example/fast_taxonomy/fasttaxonomy/taxonomy/RelationTopologicalOrderPinLaw", "inB", "([[ZI)Z"⟩ : MethodName) method_9_code 2 (some .boolean) :: ws) ({ frames := 4, cells := 0, slots := 0, locals := 80 } : Room)) (fun a U => a = #[(.ref ea), (.int (Int32.ofNat xv))] ∧ Z.Warmed39 U.vm ∧ U.heap = h0) (fun _ _ _ _ _ => True) (fun _ U o U' => ∃ v L, o = .returned v ∧ QInB Z M xv h0 n0 v U'.heap L ∧ FrameEnd U o U' L ({ frames := 4, cells := 0, slots := 0, locals := 80 } : Room).cells ({ frames := 4, cells := 0, slots := 0, locals := 80 } : Room).slots) := by
  refine MetFree.of_bodySF (plainFor_of_name pn_com_example_fast_taxonomy_fasttaxonomy_taxonomy_RelationTopologicalOrderPinLaw) hisR ?_
  intro p e s m args below meth c s₁ Bd hml0 hP hK
  obtain ⟨rfl, hZ, hh⟩ := hP
  have hx := Bd.exec
  have hby := Bd.bytes
  have hlk := BodyLoose.notSynchronized Bd
  have hml : c.maxLocals = 2 := hml0
  have hown : s.vm.findClass "com/example/fast_taxonomy/fasttaxonomy/taxonomy/RelationTopologicalOrderPinLaw" = some m.cls := findClass_of_methodNamed Bd.named
  have hnm := (name_of_methodNamed Bd.named Bd.method).1
  have X0 : Stand p l e ({ frames := 4, cells := 0, slots := 0, locals := 80 } : Room) s m #[(.ref ea), (.int (Int32.ofNat xv))] below meth c s₁ [] 0 0 := Stand.of_body Bd
  have e0 : s₁.heap = h0 := by rw [← hh, Bd.state]; rfl
  have N0 := Fr.nil n0
  refine OwnR.of (s := s) (Q := QInB Z M xv h0 n0) (fun t k => castTop (ef_rmInB m ea) k) ?_
  show OwnR _ _ _ _ _ _ _ (s₁.setTop (mkF m 0 #[.val (.ref ea), .val (.int (Int32.ofNat xv))] []))
  refine OwnR.of (fun _ hr => XS.aloadN X0.here hx rfl (hb hby d8_0) rfl rfl hr) ?_
  show OwnR _ _ _ _ _ _ _ (s₁.setTop (mkF m 1 #[.val (.ref ea), .val (.int (Int32.ofNat xv))] [(.ref ea)]))
  refine OwnR.of (fun _ hr => XS.iconst X0.here hx rfl (hb hby d8_1) hr) ?_
  show OwnR _ _ _ _ _ _ _ (s₁.setTop (mkF m 2 #[.val (.ref ea), .val (.int (Int32.ofNat xv))] [(.int (0 : Int32)), (.ref ea)]))
  refine OwnR.of (fun _ hr => XS.iloadN X0.here hx rfl (hb hby d8_2) rfl hr) ?_
  show OwnR _ _ _ _ _ _ _ (s₁.setTop (mkF m 3 #[.val (.ref ea), .val (.int (Int32.ofNat xv))] [(.int (Int32.ofNat xv)), (.int (0 : Int32)), (.ref ea)]))
  obtain ⟨_, _, ⟨T1, L1, kc1, ns1⟩, -, X1, ⟨Lc1, hQ1, l1, y1, z1⟩, st1⟩ := Jvm.LawKit.callS X0 hx (y := (⟨"com/example/fast_taxonomy/fasttaxonomy/taxonomy/RelationTopologicalOrderPinLaw", "fromCycle", "([[ZII)Z"⟩ : MethodName)) hown (mvT hZ (hw _ (List.mem_of_getElem? (i := 46) rfl))) (mvT hZ (hw _ (List.mem_of_getElem? (i := 47) rfl))) (mvT hZ (hw _ (List.mem_of_getElem? (i := 29) rfl))) (mvT hZ (hw _ (List.mem_of_getElem? (i := 48) rfl))) (by decide) (backOf (W := 0) (rmFromC l Z a0 hw [] ea kE D kD M 0 xv h0 n0 (Nat.le_trans Z0 (Keep.refl h0 []).1) EE (by decide) hxv) hZ (hw _ (List.mem_of_getElem? (i := 48) rfl)) (hw _ (List.mem_of_getElem? (i := 29) rfl)) (by decide) (by decide)) (g := (mkF m 3 #[.val (.ref ea), .val (.int (Int32.ofNat xv))] [(.int (Int32.ofNat xv)), (.int (0 : Int32)), (.ref ea)])) rfl (by rw [hml]; rfl) (argsL := [(.ref ea), (.int (0 : Int32)), (.int (Int32.ofNat xv))]) (rest := []) (lenOf pd____ZII_Z rfl) rfl (by show 2 * 0 + _ ≤ _; exact Nat.le_of_eq rfl) (hb hby d8_3) (fun _ _ => ⟨rfl, e0, (by decide : 0 + 0 ≤ _), (by decide : 0 + 0 ≤ _)⟩)
  dsimp only [Pt.U, Pt.locs, Pt.cells, Pt.slots] at X1 l1 y1 z1 st1 hQ1
  rw [l1, y1, z1] at X1
  obtain ⟨rfl, N1q, e1⟩ := hQ1
  have N1 := Fr.app N0 N1q
  refine OwnR.of (st1) ?_
  show OwnR _ _ _ _ _ _ _ (T1.setTop (mkF m 6 #[.val (.ref ea), .val (.int (Int32.ofNat xv))] [(.int (own_bi (own_fromC M 0 xv)))]))
  by_cases hc6_2 : (own_bi (own_fromC M 0 xv)) = (0 : Int32)
  · skip
    refine OwnR.of (fun _ hr => XS.ifNo X1.here hx rfl (hb hby d8_6) rfl ((if0 _ _).trans (teq hc6_2).2) hr) ?_
    show OwnR _ _ _ _ _ _ _ (T1.setTop (mkF m 9 #[.val (.ref ea), .val (.int (Int32.ofNat xv))] []))
    refine OwnR.of (fun _ hr => XS.aloadN X1.here hx rfl (hb hby d8_9) rfl rfl hr) ?_
    show OwnR _ _ _ _ _ _ _ (T1.setTop (mkF m 10 #[.val (.ref ea), .val (.int (Int32.ofNat xv))] [(.ref ea)]))
    refine OwnR.of (fun _ hr => XS.iconst X1.here hx rfl (hb hby d8_10) hr) ?_
    show OwnR _ _ _ _ _ _ _ (T1.setTop (mkF m 11 #[.val (.ref ea), .val (.int (Int32.ofNat xv))] [(.int (1 : Int32)), (.ref ea)]))
    refine OwnR.of (fun _ hr => XS.iloadN X1.here hx rfl (hb hby d8_11) rfl hr) ?_
    show OwnR _ _ _ _ _ _ _ (T1.setTop (mkF m 12 #[.val (.ref ea), .val (.int (Int32.ofNat xv))] [(.int (Int32.ofNat xv)), (.int (1 : Int32)), (.ref ea)]))
    obtain ⟨_, _, ⟨T3, L3, kc3, ns3⟩, -, X3, ⟨Lc3, hQ3, l3, y3, z3⟩, st3⟩ := Jvm.LawKit.callS X1 hx (y := (⟨"com/example/fast_taxonomy/fasttaxonomy/taxonomy/RelationTopologicalOrderPinLaw", "fromCycle", "([[ZII)Z"⟩ : MethodName)) hown (mvT hZ (hw _ (List.mem_of_getElem? (i := 46) rfl))) (mvT hZ (hw _ (List.mem_of_getElem? (i := 47) rfl))) (mvT hZ (hw _ (List.mem_of_getElem? (i := 29) rfl))) (mvT hZ (hw _ (List.mem_of_getElem? (i := 48) rfl))) (by decide) (backOf (W := 0) (rmFromC l Z a0 hw [] ea kE D kD M 1 xv h0 n0 (Nat.le_trans Z0 (Keep.refl h0 []).1) EE (by decide) hxv) hZ (hw _ (List.mem_of_getElem? (i := 48) rfl)) (hw _ (List.mem_of_getElem? (i := 29) rfl)) (by decide) (by decide)) (g := (mkF m 12 #[.val (.ref ea), .val (.int (Int32.ofNat xv))] [(.int (Int32.ofNat xv)), (.int (1 : Int32)), (.ref ea)])) rfl (by rw [hml]; rfl) (argsL := [(.ref ea), (.int (1 : Int32)), (.int (Int32.ofNat xv))]) (rest := []) (lenOf pd____ZII_Z rfl) rfl (by show 2 * 0 + _ ≤ _; exact Nat.le_of_eq rfl) (hb hby d8_12) (fun _ _ => ⟨rfl, e1, (by decide : 0 + 0 ≤ _), (by decide : 0 + 0 ≤ _)⟩)
    dsimp only [Pt.U, Pt.locs, Pt.cells, Pt.slots] at X3 l3 y3 z3 st3 hQ3
    rw [l3, y3, z3] at X3
    obtain ⟨rfl, N3q, e3⟩ := hQ3
    have N3 := Fr.app N1 N3q
    refine OwnR.of (st3) ?_
    show OwnR _ _ _ _ _ _ _ (T3.setTop (mkF m 15 #[.val (.ref ea), .val (.int (Int32.ofNat xv))] [(.int (own_bi (own_fromC M 1 xv)))]))
    by_cases hc15_4 : (own_bi (own_fromC M 1 xv)) = (0 : Int32)
    · skip
      refine OwnR.of (fun _ hr => XS.ifNo X3.here hx rfl (hb hby d8_15) rfl ((if0 _ _).trans (teq hc15_4).2) hr) ?_
      show OwnR _ _ _ _ _ _ _ (T3.setTop (mkF m 18 #[.val (.ref ea), .val (.int (Int32.ofNat xv))] []))
      refine OwnR.of (fun _ hr => XS.aloadN X3.here hx rfl (hb hby d8_18) rfl rfl hr) ?_
      show OwnR _ _ _ _ _ _ _ (T3.setTop (mkF m 19 #[.val (.ref ea), .val (.int (Int32.ofNat xv))] [(.ref ea)]))
      refine OwnR.of (fun _ hr => XS.iconst X3.here hx rfl (hb hby d8_19) hr) ?_
      show OwnR _ _ _ _ _ _ _ (T3.setTop (mkF m 20 #[.val (.ref ea), .val (.int (Int32.ofNat xv))] [(.int (2 : Int32)), (.ref ea)]))
      refine OwnR.of (fun _ hr => XS.iloadN X3.here hx rfl (hb hby d8_20) rfl hr) ?_
      show OwnR _ _ _ _ _ _ _ (T3.setTop (mkF m 21 #[.val (.ref ea), .val (.int (Int32.ofNat xv))] [(.int (Int32.ofNat xv)), (.int (2 : Int32)), (.ref ea)]))
      obtain ⟨_, _, ⟨T5, L5, kc5, ns5⟩, -, X5, ⟨Lc5, hQ5, l5, y5, z5⟩, st5⟩ := Jvm.LawKit.callS X3 hx (y := (⟨"com/example/fast_taxonomy/fasttaxonomy/taxonomy/RelationTopologicalOrderPinLaw", "fromCycle", "([[ZII)Z"⟩ : MethodName)) hown (mvT hZ (hw _ (List.mem_of_getElem? (i := 46) rfl))) (mvT hZ (hw _ (List.mem_of_getElem? (i := 47) rfl))) (mvT hZ (hw _ (List.mem_of_getElem? (i := 29) rfl))) (mvT hZ (hw _ (List.mem_of_getElem? (i := 48) rfl))) (by decide) (backOf (W := 0) (rmFromC l Z a0 hw [] ea kE D kD M 2 xv h0 n0 (Nat.le_trans Z0 (Keep.refl h0 []).1) EE (by decide) hxv) hZ (hw _ (List.mem_of_getElem? (i := 48) rfl)) (hw _ (List.mem_of_getElem? (i := 29) rfl)) (by decide) (by decide)) (g := (mkF m 21 #[.val (.ref ea), .val (.int (Int32.ofNat xv))] [(.int (Int32.ofNat xv)), (.int (2 : Int32)), (.ref ea)])) rfl (by rw [hml]; rfl) (argsL := [(.ref ea), (.int (2 : Int32)), (.int (Int32.ofNat xv))]) (rest := []) (lenOf pd____ZII_Z rfl) rfl (by show 2 * 0 + _ ≤ _; exact Nat.le_of_eq rfl) (hb hby d8_21) (fun _ _ => ⟨rfl, e3, (by decide : 0 + 0 ≤ _), (by decide : 0 + 0 ≤ _)⟩)
      dsimp only [Pt.U, Pt.locs, Pt.cells, Pt.slots] at X5 l5 y5 z5 st5 hQ5
      rw [l5, y5, z5] at X5
      obtain ⟨rfl, N5q, e5⟩ := hQ5
      have N5 := Fr.app N3 N5q
      refine OwnR.of (st5) ?_
      show OwnR _ _ _ _ _ _ _ (T5.setTop (mkF m 24 #[.val (.ref ea), .val (.int (Int32.ofNat xv))] [(.int (own_bi (own_fromC M 2 xv)))]))
      by_cases hc24_6 : (own_bi (own_fromC M 2 xv)) = (0 : Int32)
      · skip
        refine OwnR.of (fun _ hr => XS.ifYes X5.here hx rfl (pc0 := 24) (pc' := 31) rfl (hb hby d8_24) rfl ((if0 _ _).trans (teq hc24_6).1) (by decide) (by decide) hr) ?_
        show OwnR _ _ _ _ _ _ _ (T5.setTop (mkF m 31 #[.val (.ref ea), .val (.int (Int32.ofNat xv))] []))
        refine OwnR.of (fun _ hr => XS.iconst X5.here hx rfl (hb hby d8_31) hr) ?_
        show OwnR _ _ _ _ _ _ _ (T5.setTop (mkF m 32 #[.val (.ref ea), .val (.int (Int32.ofNat xv))] [(.int (0 : Int32))]))
        refine own_leafN X5 hx hlk (t := .boolean) Bd.returns (by simp) (hb hby d8_32) (z' := (0 : Int32)) rfl (by decide) (by decide) ?_
        show QInB Z M xv h0 n0 _ T5.heap _
        rw [show T5.heap = h0 from e5]
        refine ⟨?_, N5, rfl⟩
        show (some (.int (0 : Int32)) : Option Value) = some (.int (own_bi (own_inB M xv)))
        simp only [own_bi0, Bool.not_eq_false] at hc6_2 hc15_4 hc24_6
        simp [own_inB, own_bi, hc6_2, hc15_4, hc24_6]
      · skip
        refine OwnR.of (fun _ hr => XS.ifNo X5.here hx rfl (hb hby d8_24) rfl ((if0 _ _).trans (feq hc24_6).1) hr) ?_
        show OwnR _ _ _ _ _ _ _ (T5.setTop (mkF m 27 #[.val (.ref ea), .val (.int (Int32.ofNat xv))] []))
        refine OwnR.of (fun _ hr => XS.iconst X5.here hx rfl (hb hby d8_27) hr) ?_
        show OwnR _ _ _ _ _ _ _ (T5.setTop (mkF m 28 #[.val (.ref ea), .val (.int (Int32.ofNat xv))] [(.int (1 : Int32))]))
        refine OwnR.of (fun _ hr => XS.goto X5.here hx rfl (pc0 := 28) (pc' := 32) rfl (hb hby d8_28) (by decide) (by decide) hr) ?_
        show OwnR _ _ _ _ _ _ _ (T5.setTop (mkF m 32 #[.val (.ref ea), .val (.int (Int32.ofNat xv))] [(.int (1 : Int32))]))
        refine own_leafN X5 hx hlk (t := .boolean) Bd.returns (by simp) (hb hby d8_32) (z' := (1 : Int32)) rfl (by decide) (by decide) ?_
        show QInB Z M xv h0 n0 _ T5.heap _
        rw [show T5.heap = h0 from e5]
        refine ⟨?_, N5, rfl⟩
        show (some (.int (1 : Int32)) : Option Value) = some (.int (own_bi (own_inB M xv)))
        simp only [own_bi0, Bool.not_eq_false] at hc6_2 hc15_4 hc24_6
        simp [own_inB, own_bi, hc6_2, hc15_4, hc24_6]
    · skip
      refine OwnR.of (fun _ hr => XS.ifYes X3.here hx rfl (pc0 := 15) (pc' := 27) rfl (hb hby d8_15) rfl ((if0 _ _).trans (feq hc15_4).2) (by decide) (by decide) hr) ?_
      show OwnR _ _ _ _ _ _ _ (T3.setTop (mkF m 27 #[.val (.ref ea), .val (.int (Int32.ofNat xv))] []))
      refine OwnR.of (fun _ hr => XS.iconst X3.here hx rfl (hb hby d8_27) hr) ?_
      show OwnR _ _ _ _ _ _ _ (T3.setTop (mkF m 28 #[.val (.ref ea), .val (.int (Int32.ofNat xv))] [(.int (1 : Int32))]))
      refine OwnR.of (fun _ hr => XS.goto X3.here hx rfl (pc0 := 28) (pc' := 32) rfl (hb hby d8_28) (by decide) (by decide) hr) ?_
      show OwnR _ _ _ _ _ _ _ (T3.setTop (mkF m 32 #[.val (.ref ea), .val (.int (Int32.ofNat xv))] [(.int (1 : Int32))]))
      refine own_leafN X3 hx hlk (t := .boolean) Bd.returns (by simp) (hb hby d8_32) (z' := (1 : Int32)) rfl (by decide) (by decide) ?_
      show QInB Z M xv h0 n0 _ T3.heap _
      rw [show T3.heap = h0 from e3]
      refine ⟨?_, N3, rfl⟩
      show (some (.int (1 : Int32)) : Option Value) = some (.int (own_bi (own_inB M xv)))
      simp only [own_bi0, Bool.not_eq_false] at hc6_2 hc15_4
      simp [own_inB, own_bi, hc6_2, hc15_4]
  · skip
    refine OwnR.of (fun _ hr => XS.ifYes X1.here hx rfl (pc0 := 6) (pc' := 27) rfl (hb hby d8_6) rfl ((if0 _ _).trans (feq hc6_2).2) (by decide) (by decide) hr) ?_
    show OwnR _ _ _ _ _ _ _ (T1.setTop (mkF m 27 #[.val (.ref ea), .val (.int (Int32.ofNat xv))] []))
    refine OwnR.of (fun _ hr => XS.iconst X1.here hx rfl (hb hby d8_27) hr) ?_
    show OwnR _ _ _ _ _ _ _ (T1.setTop (mkF m 28 #[.val (.ref ea), .val (.int (Int32.ofNat xv))] [(.int (1 : Int32))]))
    refine OwnR.of (fun _ hr => XS.goto X1.here hx rfl (pc0 := 28) (pc' := 32) rfl (hb hby d8_28) (by decide) (by decide) hr) ?_
    show OwnR _ _ _ _ _ _ _ (T1.setTop (mkF m 32 #[.val (.ref ea), .val (.int (Int32.ofNat xv))] [(.int (1 : Int32))]))
    refine own_leafN X1 hx hlk (t := .boolean) Bd.returns (by simp) (hb hby d8_32) (z' := (1 : Int32)) rfl (by decide) (by decide) ?_
    show QInB Z M xv h0 n0 _ T1.heap _
    rw [show T1.heap = h0 from e1]
    refine ⟨?_, N1, rfl⟩
    show (some (.int (1 : Int32)) : Option Value) = some (.int (own_bi (own_inB M xv)))
    simp only [own_bi0, Bool.not_eq_false] at hc6_2
    simp [own_inB, own_bi, hc6_2]
theorem own_0n {n : Nat} (h : n < 4) : ((0 : Int32) < Int32.ofNat n) = (0 < n) := propext (own_ltn (n := 0) (by decide) (by omega))
theorem own_1n {n : Nat} (h : n < 4) : ((1 : Int32) < Int32.ofNat n) = (1 < n) := propext (own_ltn (n := 1) (by decide) (by omega))
theorem own_2n {n : Nat} (h : n < 4) : ((2 : Int32) < Int32.ofNat n) = (2 < n) := propext (own_ltn (n := 2) (by decide) (by omega))
theorem own_kn {k n : Nat} (hk : k < 4) (h : n < 4) (q : Int32.ofNat k < Int32.ofNat n) : k < n := (own_ltn (by omega) (by omega)).mp q
theorem own_l4 {n : Nat} (hn : n < 4) : (Int32.ofNat n).toNatClampNeg = n := own_clamp (by omega)
theorem own_g4 {n : Nat} (hn : n < 4) : ¬ Int32.ofNat n < 0 := own_nneg (by omega)
theorem ef_rmPos (m : MethodId) (x0 : Addr) : entryFrame m #[(.ref x0), (.int (Int32.ofNat xv))] 2 = mkF m 0 #[.val (.ref x0), .val (.int (Int32.ofNat xv))] [] := by first | (simp [entryFrame, mkF, argsToLocals, Value.category]; done) | rfl
theorem d6_0 : decode method_4_code 0 = .ok (.aload_n 0, 1) := by decide +kernel
theorem d6_1 : decode method_4_code 1 = .ok (.arraylength, 1) := by decide +kernel
theorem d6_2 : decode method_4_code 2 = .ok (.ifCond .le 12, 3) := by decide +kernel
theorem d6_5 : decode method_4_code 5 = .ok (.aload_n 0, 1) := by decide +kernel
theorem d6_6 : decode method_4_code 6 = .ok (.iconst 0, 1) := by decide +kernel
theorem d6_7 : decode method_4_code 7 = .ok (.iaload, 1) := by decide +kernel
theorem d6_8 : decode method_4_code 8 = .ok (.iload_n 1, 1) := by decide +kernel
theorem d6_9 : decode method_4_code 9 = .ok (.if_icmp .ne 5, 3) := by decide +kernel
theorem d6_12 : decode method_4_code 12 = .ok (.iconst 0, 1) := by decide +kernel
theorem d6_13 : decode method_4_code 13 = .ok (.ireturn, 1) := by decide +kernel
theorem d6_14 : decode method_4_code 14 = .ok (.aload_n 0, 1) := by decide +kernel
theorem d6_15 : decode method_4_code 15 = .ok (.arraylength, 1) := by decide +kernel
theorem d6_16 : decode method_4_code 16 = .ok (.iconst 1, 1) := by decide +kernel
theorem d6_17 : decode method_4_code 17 = .ok (.if_icmp .le 12, 3) := by decide +kernel
theorem d6_20 : decode method_4_code 20 = .ok (.aload_n 0, 1) := by decide +kernel
theorem d6_21 : decode method_4_code 21 = .ok (.iconst 1, 1) := by decide +kernel
theorem d6_22 : decode method_4_code 22 = .ok (.iaload, 1) := by decide +kernel
theorem d6_23 : decode method_4_code 23 = .ok (.iload_n 1, 1) := by decide +kernel
theorem d6_24 : decode method_4_code 24 = .ok (.if_icmp .ne 5, 3) := by decide +kernel
theorem d6_27 : decode method_4_code 27 = .ok (.iconst 1, 1) := by decide +kernel
theorem d6_28 : decode method_4_code 28 = .ok (.ireturn, 1) := by decide +kernel
theorem d6_29 : decode method_4_code 29 = .ok (.aload_n 0, 1) := by decide +kernel
theorem d6_30 : decode method_4_code 30 = .ok (.arraylength, 1) := by decide +kernel
theorem d6_31 : decode method_4_code 31 = .ok (.iconst 2, 1) := by decide +kernel
theorem d6_32 : decode method_4_code 32 = .ok (.if_icmp .le 12, 3) := by decide +kernel
theorem d6_35 : decode method_4_code 35 = .ok (.aload_n 0, 1) := by decide +kernel
theorem d6_36 : decode method_4_code 36 = .ok (.iconst 2, 1) := by decide +kernel
theorem d6_37 : decode method_4_code 37 = .ok (.iaload, 1) := by decide +kernel
theorem d6_38 : decode method_4_code 38 = .ok (.iload_n 1, 1) := by decide +kernel
theorem d6_39 : decode method_4_code 39 = .ok (.if_icmp .ne 5, 3) := by decide +kernel
theorem d6_42 : decode method_4_code 42 = .ok (.iconst 2, 1) := by decide +kernel
theorem d6_43 : decode method_4_code 43 = .ok (.ireturn, 1) := by decide +kernel
theorem d6_44 : decode method_4_code 44 = .ok (.iconst (-1), 1) := by decide +kernel
theorem d6_45 : decode method_4_code 45 = .ok (.ireturn, 1) := by decide +kernel
def QPos (Z : State) (r : List Nat) (n : Nat) (xv : Nat) (h0 : Heap) (n0 : Nat) (v : Option Value) (h : Heap) (L : List Loc) : Prop := v = some (.int (own_pos n r xv)) ∧ Fr n0 L ∧ h = h0
set_option maxRecDepth 65536 in
set_option maxHeartbeats 40000000 in
theorem rmPos (l : Launch) (Z : State) (a0 : Array Value) (hw : ∀ d ∈ tables_1, d.before a0 Z = true) (ws : List Jvm.Cond) (ra : Addr) (kR : ClassId) (r : List Nat) (n xv : Nat) (h0 : Heap) (n0 : Nat) (Z0 : n0 ≤ h0.size) (FR : OwnF Z h0 ra kR .int n (fun k => .int (own_at r k))) (hn4 : n < 4) :
    MetFree l (⟨"com/example/fast_taxonomy/fasttaxonomy/taxonomy/RelationTopologicalOrderPinLaw", "pos", "([II)I"⟩ : MethodName) (head1 (Jvm.Cond.code (⟨"com/example/fast_taxonomy/fasttaxonomy/taxonomy/RelationTopologicalOrderPinLaw", "pos", "([II)I"⟩ : MethodName) method_4_code 2 (some .int) :: ws) ({ frames := 0, cells := 0, slots := 0, locals := 0 } : Room)) (fun a U => a = #[(.ref ra), (.int (Int32.ofNat xv))] ∧ Z.Warmed39 U.vm ∧ U.heap = h0) (fun _ _ _ _ _ => True) (fun _ U o U' => ∃ v L, o = .returned v ∧ QPos Z r n xv h0 n0 v U'.heap L ∧ FrameEnd U o U' L ({ frames := 0, cells := 0, slots := 0, locals := 0 } : Room).cells ({ frames := 0, cells := 0, slots := 0, locals := 0 } : Room).slots) := by
  refine MetFree.of_bodySF (plainFor_of_name pn_com_example_fast_taxonomy_fasttaxonomy_taxonomy_RelationTopologicalOrderPinLaw) hisR ?_
  intro p e s m args below meth c s₁ Bd hml0 hP hK
  obtain ⟨rfl, hZ, hh⟩ := hP
  have hx := Bd.exec
  have hby := Bd.bytes
  have hlk := BodyLoose.notSynchronized Bd
  have hml : c.maxLocals = 2 := hml0
  have hown : s.vm.findClass "com/example/fast_taxonomy/fasttaxonomy/taxonomy/RelationTopologicalOrderPinLaw" = some m.cls := findClass_of_methodNamed Bd.named
  have hnm := (name_of_methodNamed Bd.named Bd.method).1
  have X0 : Stand p l e ({ frames := 0, cells := 0, slots := 0, locals := 0 } : Room) s m #[(.ref ra), (.int (Int32.ofNat xv))] below meth c s₁ [] 0 0 := Stand.of_body Bd
  have e0 : s₁.heap = h0 := by rw [← hh, Bd.state]; rfl
  have N0 := Fr.nil n0
  refine OwnR.of (s := s) (Q := QPos Z r n xv h0 n0) (fun t k => castTop (ef_rmPos m ra) k) ?_
  show OwnR _ _ _ _ _ _ _ (s₁.setTop (mkF m 0 #[.val (.ref ra), .val (.int (Int32.ofNat xv))] []))
  refine OwnR.of (fun _ hr => XS.aloadN X0.here hx rfl (hb hby d6_0) rfl rfl hr) ?_
  show OwnR _ _ _ _ _ _ _ (s₁.setTop (mkF m 1 #[.val (.ref ra), .val (.int (Int32.ofNat xv))] [(.ref ra)]))
  refine OwnR.of (own_alen X0 hx hZ e0 FR (z := (Int32.ofNat n)) (own_l4 hn4) (own_g4 hn4) (g := (mkF m 1 #[.val (.ref ra), .val (.int (Int32.ofNat xv))] [(.ref ra)])) rfl rfl (hb hby d6_1)) ?_
  show OwnR _ _ _ _ _ _ _ (s₁.setTop (mkF m 2 #[.val (.ref ra), .val (.int (Int32.ofNat xv))] [(.int (Int32.ofNat n))]))
  by_cases hc2_1 : (0 : Int32) < (Int32.ofNat n)
  · skip
    refine OwnR.of (fun _ hr => XS.ifNo X0.here hx rfl (hb hby d6_2) rfl ((if0 _ _).trans (tlt hc2_1).2.2.2) hr) ?_
    show OwnR _ _ _ _ _ _ _ (s₁.setTop (mkF m 5 #[.val (.ref ra), .val (.int (Int32.ofNat xv))] []))
    refine OwnR.of (fun _ hr => XS.aloadN X0.here hx rfl (hb hby d6_5) rfl rfl hr) ?_
    show OwnR _ _ _ _ _ _ _ (s₁.setTop (mkF m 6 #[.val (.ref ra), .val (.int (Int32.ofNat xv))] [(.ref ra)]))
    refine OwnR.of (fun _ hr => XS.iconst X0.here hx rfl (hb hby d6_6) hr) ?_
    show OwnR _ _ _ _ _ _ _ (s₁.setTop (mkF m 7 #[.val (.ref ra), .val (.int (Int32.ofNat xv))] [(.int (0 : Int32)), (.ref ra)]))
    refine OwnR.of (own_iaload X0 hx hZ e0 FR (by decide) (by decide) (own_kn (k := 0) (by decide) hn4 hc2_1) (v := .int (own_at r 0)) rfl (g := (mkF m 7 #[.val (.ref ra), .val (.int (Int32.ofNat xv))] [(.int (0 : Int32)), (.ref ra)])) rfl rfl (hb hby d6_7)) ?_
    show OwnR _ _ _ _ _ _ _ (s₁.setTop (mkF m 8 #[.val (.ref ra), .val (.int (Int32.ofNat xv))] [(.int (own_at r 0))]))
    refine OwnR.of (fun _ hr => XS.iloadN X0.here hx rfl (hb hby d6_8) rfl hr) ?_
    show OwnR _ _ _ _ _ _ _ (s₁.setTop (mkF m 9 #[.val (.ref ra), .val (.int (Int32.ofNat xv))] [(.int (Int32.ofNat xv)), (.int (own_at r 0))]))
    by_cases hc9_2 : (own_at r 0) = (Int32.ofNat xv)
    · skip
      refine OwnR.of (fun _ hr => XS.icmpNo X0.here hx rfl (hb hby d6_9) rfl (teq hc9_2).2 hr) ?_
      show OwnR _ _ _ _ _ _ _ (s₁.setTop (mkF m 12 #[.val (.ref ra), .val (.int (Int32.ofNat xv))] []))
      refine OwnR.of (fun _ hr => XS.iconst X0.here hx rfl (hb hby d6_12) hr) ?_
      show OwnR _ _ _ _ _ _ _ (s₁.setTop (mkF m 13 #[.val (.ref ra), .val (.int (Int32.ofNat xv))] [(.int (0 : Int32))]))
      refine own_leafI X0 hx hlk Bd.returns (hb hby d6_13) (by decide) (by decide) ?_
      show QPos Z r n xv h0 n0 _ s₁.heap _
      rw [show s₁.heap = h0 from e0]
      refine ⟨?_, N0, rfl⟩
      show (some (.int (0 : Int32)) : Option Value) = some (.int (own_pos n r xv))
      try simp only [own_0n hn4, own_1n hn4, own_2n hn4] at hc2_1
      try simp only [own_0n hn4, own_1n hn4, own_2n hn4] at hc9_2
      simp [own_pos, hc2_1, hc9_2]
    · skip
      refine OwnR.of (fun _ hr => XS.icmpYes X0.here hx rfl (pc0 := 9) (pc' := 14) rfl (hb hby d6_9) rfl (feq hc9_2).2 (by decide) (by decide) hr) ?_
      show OwnR _ _ _ _ _ _ _ (s₁.setTop (mkF m 14 #[.val (.ref ra), .val (.int (Int32.ofNat xv))] []))
      refine OwnR.of (fun _ hr => XS.aloadN X0.here hx rfl (hb hby d6_14) rfl rfl hr) ?_
      show OwnR _ _ _ _ _ _ _ (s₁.setTop (mkF m 15 #[.val (.ref ra), .val (.int (Int32.ofNat xv))] [(.ref ra)]))
      refine OwnR.of (own_alen X0 hx hZ e0 FR (z := (Int32.ofNat n)) (own_l4 hn4) (own_g4 hn4) (g := (mkF m 15 #[.val (.ref ra), .val (.int (Int32.ofNat xv))] [(.ref ra)])) rfl rfl (hb hby d6_15)) ?_
      show OwnR _ _ _ _ _ _ _ (s₁.setTop (mkF m 16 #[.val (.ref ra), .val (.int (Int32.ofNat xv))] [(.int (Int32.ofNat n))]))
      refine OwnR.of (fun _ hr => XS.iconst X0.here hx rfl (hb hby d6_16) hr) ?_
      show OwnR _ _ _ _ _ _ _ (s₁.setTop (mkF m 17 #[.val (.ref ra), .val (.int (Int32.ofNat xv))] [(.int (1 : Int32)), (.int (Int32.ofNat n))]))
      by_cases hc17_3 : (1 : Int32) < (Int32.ofNat n)
      · skip
        refine OwnR.of (fun _ hr => XS.icmpNo X0.here hx rfl (hb hby d6_17) rfl (tlt hc17_3).2.2.2 hr) ?_
        show OwnR _ _ _ _ _ _ _ (s₁.setTop (mkF m 20 #[.val (.ref ra), .val (.int (Int32.ofNat xv))] []))
        refine OwnR.of (fun _ hr => XS.aloadN X0.here hx rfl (hb hby d6_20) rfl rfl hr) ?_
        show OwnR _ _ _ _ _ _ _ (s₁.setTop (mkF m 21 #[.val (.ref ra), .val (.int (Int32.ofNat xv))] [(.ref ra)]))
        refine OwnR.of (fun _ hr => XS.iconst X0.here hx rfl (hb hby d6_21) hr) ?_
        show OwnR _ _ _ _ _ _ _ (s₁.setTop (mkF m 22 #[.val (.ref ra), .val (.int (Int32.ofNat xv))] [(.int (1 : Int32)), (.ref ra)]))
        refine OwnR.of (own_iaload X0 hx hZ e0 FR (by decide) (by decide) (own_kn (k := 1) (by decide) hn4 hc17_3) (v := .int (own_at r 1)) rfl (g := (mkF m 22 #[.val (.ref ra), .val (.int (Int32.ofNat xv))] [(.int (1 : Int32)), (.ref ra)])) rfl rfl (hb hby d6_22)) ?_
        show OwnR _ _ _ _ _ _ _ (s₁.setTop (mkF m 23 #[.val (.ref ra), .val (.int (Int32.ofNat xv))] [(.int (own_at r 1))]))
        refine OwnR.of (fun _ hr => XS.iloadN X0.here hx rfl (hb hby d6_23) rfl hr) ?_
        show OwnR _ _ _ _ _ _ _ (s₁.setTop (mkF m 24 #[.val (.ref ra), .val (.int (Int32.ofNat xv))] [(.int (Int32.ofNat xv)), (.int (own_at r 1))]))
        by_cases hc24_4 : (own_at r 1) = (Int32.ofNat xv)
        · skip
          refine OwnR.of (fun _ hr => XS.icmpNo X0.here hx rfl (hb hby d6_24) rfl (teq hc24_4).2 hr) ?_
          show OwnR _ _ _ _ _ _ _ (s₁.setTop (mkF m 27 #[.val (.ref ra), .val (.int (Int32.ofNat xv))] []))
          refine OwnR.of (fun _ hr => XS.iconst X0.here hx rfl (hb hby d6_27) hr) ?_
          show OwnR _ _ _ _ _ _ _ (s₁.setTop (mkF m 28 #[.val (.ref ra), .val (.int (Int32.ofNat xv))] [(.int (1 : Int32))]))
          refine own_leafI X0 hx hlk Bd.returns (hb hby d6_28) (by decide) (by decide) ?_
          show QPos Z r n xv h0 n0 _ s₁.heap _
          rw [show s₁.heap = h0 from e0]
          refine ⟨?_, N0, rfl⟩
          show (some (.int (1 : Int32)) : Option Value) = some (.int (own_pos n r xv))
          try simp only [own_0n hn4, own_1n hn4, own_2n hn4] at hc2_1
          try simp only [own_0n hn4, own_1n hn4, own_2n hn4] at hc9_2
          try simp only [own_0n hn4, own_1n hn4, own_2n hn4] at hc17_3
          try simp only [own_0n hn4, own_1n hn4, own_2n hn4] at hc24_4
          simp [own_pos, hc2_1, hc9_2, hc17_3, hc24_4]
        · skip
          refine OwnR.of (fun _ hr => XS.icmpYes X0.here hx rfl (pc0 := 24) (pc' := 29) rfl (hb hby d6_24) rfl (feq hc24_4).2 (by decide) (by decide) hr) ?_
          show OwnR _ _ _ _ _ _ _ (s₁.setTop (mkF m 29 #[.val (.ref ra), .val (.int (Int32.ofNat xv))] []))
          refine OwnR.of (fun _ hr => XS.aloadN X0.here hx rfl (hb hby d6_29) rfl rfl hr) ?_
          show OwnR _ _ _ _ _ _ _ (s₁.setTop (mkF m 30 #[.val (.ref ra), .val (.int (Int32.ofNat xv))] [(.ref ra)]))
          refine OwnR.of (own_alen X0 hx hZ e0 FR (z := (Int32.ofNat n)) (own_l4 hn4) (own_g4 hn4) (g := (mkF m 30 #[.val (.ref ra), .val (.int (Int32.ofNat xv))] [(.ref ra)])) rfl rfl (hb hby d6_30)) ?_
          show OwnR _ _ _ _ _ _ _ (s₁.setTop (mkF m 31 #[.val (.ref ra), .val (.int (Int32.ofNat xv))] [(.int (Int32.ofNat n))]))
          refine OwnR.of (fun _ hr => XS.iconst X0.here hx rfl (hb hby d6_31) hr) ?_
          show OwnR _ _ _ _ _ _ _ (s₁.setTop (mkF m 32 #[.val (.ref ra), .val (.int (Int32.ofNat xv))] [(.int (2 : Int32)), (.int (Int32.ofNat n))]))
          by_cases hc32_5 : (2 : Int32) < (Int32.ofNat n)
          · skip
            refine OwnR.of (fun _ hr => XS.icmpNo X0.here hx rfl (hb hby d6_32) rfl (tlt hc32_5).2.2.2 hr) ?_
            show OwnR _ _ _ _ _ _ _ (s₁.setTop (mkF m 35 #[.val (.ref ra), .val (.int (Int32.ofNat xv))] []))
            refine OwnR.of (fun _ hr => XS.aloadN X0.here hx rfl (hb hby d6_35) rfl rfl hr) ?_
            show OwnR _ _ _ _ _ _ _ (s₁.setTop (mkF m 36 #[.val (.ref ra), .val (.int (Int32.ofNat xv))] [(.ref ra)]))
            refine OwnR.of (fun _ hr => XS.iconst X0.here hx rfl (hb hby d6_36) hr) ?_
            show OwnR _ _ _ _ _ _ _ (s₁.setTop (mkF m 37 #[.val (.ref ra), .val (.int (Int32.ofNat xv))] [(.int (2 : Int32)), (.ref ra)]))
            refine OwnR.of (own_iaload X0 hx hZ e0 FR (by decide) (by decide) (own_kn (k := 2) (by decide) hn4 hc32_5) (v := .int (own_at r 2)) rfl (g := (mkF m 37 #[.val (.ref ra), .val (.int (Int32.ofNat xv))] [(.int (2 : Int32)), (.ref ra)])) rfl rfl (hb hby d6_37)) ?_
            show OwnR _ _ _ _ _ _ _ (s₁.setTop (mkF m 38 #[.val (.ref ra), .val (.int (Int32.ofNat xv))] [(.int (own_at r 2))]))
            refine OwnR.of (fun _ hr => XS.iloadN X0.here hx rfl (hb hby d6_38) rfl hr) ?_
            show OwnR _ _ _ _ _ _ _ (s₁.setTop (mkF m 39 #[.val (.ref ra), .val (.int (Int32.ofNat xv))] [(.int (Int32.ofNat xv)), (.int (own_at r 2))]))
            by_cases hc39_6 : (own_at r 2) = (Int32.ofNat xv)
            · skip
              refine OwnR.of (fun _ hr => XS.icmpNo X0.here hx rfl (hb hby d6_39) rfl (teq hc39_6).2 hr) ?_
              show OwnR _ _ _ _ _ _ _ (s₁.setTop (mkF m 42 #[.val (.ref ra), .val (.int (Int32.ofNat xv))] []))
              refine OwnR.of (fun _ hr => XS.iconst X0.here hx rfl (hb hby d6_42) hr) ?_
              show OwnR _ _ _ _ _ _ _ (s₁.setTop (mkF m 43 #[.val (.ref ra), .val (.int (Int32.ofNat xv))] [(.int (2 : Int32))]))
              refine own_leafI X0 hx hlk Bd.returns (hb hby d6_43) (by decide) (by decide) ?_
              show QPos Z r n xv h0 n0 _ s₁.heap _
              rw [show s₁.heap = h0 from e0]
              refine ⟨?_, N0, rfl⟩
              show (some (.int (2 : Int32)) : Option Value) = some (.int (own_pos n r xv))
              try simp only [own_0n hn4, own_1n hn4, own_2n hn4] at hc2_1
              try simp only [own_0n hn4, own_1n hn4, own_2n hn4] at hc9_2
              try simp only [own_0n hn4, own_1n hn4, own_2n hn4] at hc17_3
              try simp only [own_0n hn4, own_1n hn4, own_2n hn4] at hc24_4
              try simp only [own_0n hn4, own_1n hn4, own_2n hn4] at hc32_5
              try simp only [own_0n hn4, own_1n hn4, own_2n hn4] at hc39_6
              simp [own_pos, hc2_1, hc9_2, hc17_3, hc24_4, hc32_5, hc39_6]
            · skip
              refine OwnR.of (fun _ hr => XS.icmpYes X0.here hx rfl (pc0 := 39) (pc' := 44) rfl (hb hby d6_39) rfl (feq hc39_6).2 (by decide) (by decide) hr) ?_
              show OwnR _ _ _ _ _ _ _ (s₁.setTop (mkF m 44 #[.val (.ref ra), .val (.int (Int32.ofNat xv))] []))
              refine OwnR.of (fun _ hr => XS.iconst X0.here hx rfl (hb hby d6_44) hr) ?_
              show OwnR _ _ _ _ _ _ _ (s₁.setTop (mkF m 45 #[.val (.ref ra), .val (.int (Int32.ofNat xv))] [(.int (-1 : Int32))]))
              refine own_leafI X0 hx hlk Bd.returns (hb hby d6_45) (by decide) (by decide) ?_
              show QPos Z r n xv h0 n0 _ s₁.heap _
              rw [show s₁.heap = h0 from e0]
              refine ⟨?_, N0, rfl⟩
              show (some (.int (-1 : Int32)) : Option Value) = some (.int (own_pos n r xv))
              try simp only [own_0n hn4, own_1n hn4, own_2n hn4] at hc2_1
              try simp only [own_0n hn4, own_1n hn4, own_2n hn4] at hc9_2
              try simp only [own_0n hn4, own_1n hn4, own_2n hn4] at hc17_3
              try simp only [own_0n hn4, own_1n hn4, own_2n hn4] at hc24_4
              try simp only [own_0n hn4, own_1n hn4, own_2n hn4] at hc32_5
              try simp only [own_0n hn4, own_1n hn4, own_2n hn4] at hc39_6
              simp [own_pos, hc2_1, hc9_2, hc17_3, hc24_4, hc32_5, hc39_6]
          · skip
            refine OwnR.of (fun _ hr => XS.icmpYes X0.here hx rfl (pc0 := 32) (pc' := 44) rfl (hb hby d6_32) rfl (flt hc32_5).2.2.2 (by decide) (by decide) hr) ?_
            show OwnR _ _ _ _ _ _ _ (s₁.setTop (mkF m 44 #[.val (.ref ra), .val (.int (Int32.ofNat xv))] []))
            refine OwnR.of (fun _ hr => XS.iconst X0.here hx rfl (hb hby d6_44) hr) ?_
            show OwnR _ _ _ _ _ _ _ (s₁.setTop (mkF m 45 #[.val (.ref ra), .val (.int (Int32.ofNat xv))] [(.int (-1 : Int32))]))
            refine own_leafI X0 hx hlk Bd.returns (hb hby d6_45) (by decide) (by decide) ?_
            show QPos Z r n xv h0 n0 _ s₁.heap _
            rw [show s₁.heap = h0 from e0]
            refine ⟨?_, N0, rfl⟩
            show (some (.int (-1 : Int32)) : Option Value) = some (.int (own_pos n r xv))
            try simp only [own_0n hn4, own_1n hn4, own_2n hn4] at hc2_1
            try simp only [own_0n hn4, own_1n hn4, own_2n hn4] at hc9_2
            try simp only [own_0n hn4, own_1n hn4, own_2n hn4] at hc17_3
            try simp only [own_0n hn4, own_1n hn4, own_2n hn4] at hc24_4
            try simp only [own_0n hn4, own_1n hn4, own_2n hn4] at hc32_5
            simp [own_pos, hc2_1, hc9_2, hc17_3, hc24_4, hc32_5]
      · skip
        refine OwnR.of (fun _ hr => XS.icmpYes X0.here hx rfl (pc0 := 17) (pc' := 29) rfl (hb hby d6_17) rfl (flt hc17_3).2.2.2 (by decide) (by decide) hr) ?_
        show OwnR _ _ _ _ _ _ _ (s₁.setTop (mkF m 29 #[.val (.ref ra), .val (.int (Int32.ofNat xv))] []))
        refine OwnR.of (fun _ hr => XS.aloadN X0.here hx rfl (hb hby d6_29) rfl rfl hr) ?_
        show OwnR _ _ _ _ _ _ _ (s₁.setTop (mkF m 30 #[.val (.ref ra), .val (.int (Int32.ofNat xv))] [(.ref ra)]))
        refine OwnR.of (own_alen X0 hx hZ e0 FR (z := (Int32.ofNat n)) (own_l4 hn4) (own_g4 hn4) (g := (mkF m 30 #[.val (.ref ra), .val (.int (Int32.ofNat xv))] [(.ref ra)])) rfl rfl (hb hby d6_30)) ?_
        show OwnR _ _ _ _ _ _ _ (s₁.setTop (mkF m 31 #[.val (.ref ra), .val (.int (Int32.ofNat xv))] [(.int (Int32.ofNat n))]))
        refine OwnR.of (fun _ hr => XS.iconst X0.here hx rfl (hb hby d6_31) hr) ?_
        show OwnR _ _ _ _ _ _ _ (s₁.setTop (mkF m 32 #[.val (.ref ra), .val (.int (Int32.ofNat xv))] [(.int (2 : Int32)), (.int (Int32.ofNat n))]))
        by_cases hc32_7 : (2 : Int32) < (Int32.ofNat n)
        · skip
          refine OwnR.of (fun _ hr => XS.icmpNo X0.here hx rfl (hb hby d6_32) rfl (tlt hc32_7).2.2.2 hr) ?_
          show OwnR _ _ _ _ _ _ _ (s₁.setTop (mkF m 35 #[.val (.ref ra), .val (.int (Int32.ofNat xv))] []))
          refine OwnR.of (fun _ hr => XS.aloadN X0.here hx rfl (hb hby d6_35) rfl rfl hr) ?_
          show OwnR _ _ _ _ _ _ _ (s₁.setTop (mkF m 36 #[.val (.ref ra), .val (.int (Int32.ofNat xv))] [(.ref ra)]))
          refine OwnR.of (fun _ hr => XS.iconst X0.here hx rfl (hb hby d6_36) hr) ?_
          show OwnR _ _ _ _ _ _ _ (s₁.setTop (mkF m 37 #[.val (.ref ra), .val (.int (Int32.ofNat xv))] [(.int (2 : Int32)), (.ref ra)]))
          refine OwnR.of (own_iaload X0 hx hZ e0 FR (by decide) (by decide) (own_kn (k := 2) (by decide) hn4 hc32_7) (v := .int (own_at r 2)) rfl (g := (mkF m 37 #[.val (.ref ra), .val (.int (Int32.ofNat xv))] [(.int (2 : Int32)), (.ref ra)])) rfl rfl (hb hby d6_37)) ?_
          show OwnR _ _ _ _ _ _ _ (s₁.setTop (mkF m 38 #[.val (.ref ra), .val (.int (Int32.ofNat xv))] [(.int (own_at r 2))]))
          refine OwnR.of (fun _ hr => XS.iloadN X0.here hx rfl (hb hby d6_38) rfl hr) ?_
          show OwnR _ _ _ _ _ _ _ (s₁.setTop (mkF m 39 #[.val (.ref ra), .val (.int (Int32.ofNat xv))] [(.int (Int32.ofNat xv)), (.int (own_at r 2))]))
          by_cases hc39_8 : (own_at r 2) = (Int32.ofNat xv)
          · skip
            refine OwnR.of (fun _ hr => XS.icmpNo X0.here hx rfl (hb hby d6_39) rfl (teq hc39_8).2 hr) ?_
            show OwnR _ _ _ _ _ _ _ (s₁.setTop (mkF m 42 #[.val (.ref ra), .val (.int (Int32.ofNat xv))] []))
            refine OwnR.of (fun _ hr => XS.iconst X0.here hx rfl (hb hby d6_42) hr) ?_
            show OwnR _ _ _ _ _ _ _ (s₁.setTop (mkF m 43 #[.val (.ref ra), .val (.int (Int32.ofNat xv))] [(.int (2 : Int32))]))
            refine own_leafI X0 hx hlk Bd.returns (hb hby d6_43) (by decide) (by decide) ?_
            show QPos Z r n xv h0 n0 _ s₁.heap _
            rw [show s₁.heap = h0 from e0]
            refine ⟨?_, N0, rfl⟩
            show (some (.int (2 : Int32)) : Option Value) = some (.int (own_pos n r xv))
            try simp only [own_0n hn4, own_1n hn4, own_2n hn4] at hc2_1
            try simp only [own_0n hn4, own_1n hn4, own_2n hn4] at hc9_2
            try simp only [own_0n hn4, own_1n hn4, own_2n hn4] at hc17_3
            try simp only [own_0n hn4, own_1n hn4, own_2n hn4] at hc32_7
            try simp only [own_0n hn4, own_1n hn4, own_2n hn4] at hc39_8
            simp [own_pos, hc2_1, hc9_2, hc17_3, hc32_7, hc39_8]
          · skip
            refine OwnR.of (fun _ hr => XS.icmpYes X0.here hx rfl (pc0 := 39) (pc' := 44) rfl (hb hby d6_39) rfl (feq hc39_8).2 (by decide) (by decide) hr) ?_
            show OwnR _ _ _ _ _ _ _ (s₁.setTop (mkF m 44 #[.val (.ref ra), .val (.int (Int32.ofNat xv))] []))
            refine OwnR.of (fun _ hr => XS.iconst X0.here hx rfl (hb hby d6_44) hr) ?_
            show OwnR _ _ _ _ _ _ _ (s₁.setTop (mkF m 45 #[.val (.ref ra), .val (.int (Int32.ofNat xv))] [(.int (-1 : Int32))]))
            refine own_leafI X0 hx hlk Bd.returns (hb hby d6_45) (by decide) (by decide) ?_
            show QPos Z r n xv h0 n0 _ s₁.heap _
            rw [show s₁.heap = h0 from e0]
            refine ⟨?_, N0, rfl⟩
            show (some (.int (-1 : Int32)) : Option Value) = some (.int (own_pos n r xv))
            try simp only [own_0n hn4, own_1n hn4, own_2n hn4] at hc2_1
            try simp only [own_0n hn4, own_1n hn4, own_2n hn4] at hc9_2
            try simp only [own_0n hn4, own_1n hn4, own_2n hn4] at hc17_3
            try simp only [own_0n hn4, own_1n hn4, own_2n hn4] at hc32_7
            try simp only [own_0n hn4, own_1n hn4, own_2n hn4] at hc39_8
            simp [own_pos, hc2_1, hc9_2, hc17_3, hc32_7, hc39_8]
        · skip
          refine OwnR.of (fun _ hr => XS.icmpYes X0.here hx rfl (pc0 := 32) (pc' := 44) rfl (hb hby d6_32) rfl (flt hc32_7).2.2.2 (by decide) (by decide) hr) ?_
          show OwnR _ _ _ _ _ _ _ (s₁.setTop (mkF m 44 #[.val (.ref ra), .val (.int (Int32.ofNat xv))] []))
          refine OwnR.of (fun _ hr => XS.iconst X0.here hx rfl (hb hby d6_44) hr) ?_
          show OwnR _ _ _ _ _ _ _ (s₁.setTop (mkF m 45 #[.val (.ref ra), .val (.int (Int32.ofNat xv))] [(.int (-1 : Int32))]))
          refine own_leafI X0 hx hlk Bd.returns (hb hby d6_45) (by decide) (by decide) ?_
          show QPos Z r n xv h0 n0 _ s₁.heap _
          rw [show s₁.heap = h0 from e0]
          refine ⟨?_, N0, rfl⟩
          show (some (.int (-1 : Int32)) : Option Value) = some (.int (own_pos n r xv))
          try simp only [own_0n hn4, own_1n hn4, own_2n hn4] at hc2_1
          try simp only [own_0n hn4, own_1n hn4, own_2n hn4] at hc9_2
          try simp only [own_0n hn4, own_1n hn4, own_2n hn4] at hc17_3
          try simp only [own_0n hn4, own_1n hn4, own_2n hn4] at hc32_7
          simp [own_pos, hc2_1, hc9_2, hc17_3, hc32_7]
  · skip
    refine OwnR.of (fun _ hr => XS.ifYes X0.here hx rfl (pc0 := 2) (pc' := 14) rfl (hb hby d6_2) rfl ((if0 _ _).trans (flt hc2_1).2.2.2) (by decide) (by decide) hr) ?_
    show OwnR _ _ _ _ _ _ _ (s₁.setTop (mkF m 14 #[.val (.ref ra), .val (.int (Int32.ofNat xv))] []))
    refine OwnR.of (fun _ hr => XS.aloadN X0.here hx rfl (hb hby d6_14) rfl rfl hr) ?_
    show OwnR _ _ _ _ _ _ _ (s₁.setTop (mkF m 15 #[.val (.ref ra), .val (.int (Int32.ofNat xv))] [(.ref ra)]))
    refine OwnR.of (own_alen X0 hx hZ e0 FR (z := (Int32.ofNat n)) (own_l4 hn4) (own_g4 hn4) (g := (mkF m 15 #[.val (.ref ra), .val (.int (Int32.ofNat xv))] [(.ref ra)])) rfl rfl (hb hby d6_15)) ?_
    show OwnR _ _ _ _ _ _ _ (s₁.setTop (mkF m 16 #[.val (.ref ra), .val (.int (Int32.ofNat xv))] [(.int (Int32.ofNat n))]))
    refine OwnR.of (fun _ hr => XS.iconst X0.here hx rfl (hb hby d6_16) hr) ?_
    show OwnR _ _ _ _ _ _ _ (s₁.setTop (mkF m 17 #[.val (.ref ra), .val (.int (Int32.ofNat xv))] [(.int (1 : Int32)), (.int (Int32.ofNat n))]))
    by_cases hc17_9 : (1 : Int32) < (Int32.ofNat n)
    · skip
      refine OwnR.of (fun _ hr => XS.icmpNo X0.here hx rfl (hb hby d6_17) rfl (tlt hc17_9).2.2.2 hr) ?_
      show OwnR _ _ _ _ _ _ _ (s₁.setTop (mkF m 20 #[.val (.ref ra), .val (.int (Int32.ofNat xv))] []))
      refine OwnR.of (fun _ hr => XS.aloadN X0.here hx rfl (hb hby d6_20) rfl rfl hr) ?_
      show OwnR _ _ _ _ _ _ _ (s₁.setTop (mkF m 21 #[.val (.ref ra), .val (.int (Int32.ofNat xv))] [(.ref ra)]))
      refine OwnR.of (fun _ hr => XS.iconst X0.here hx rfl (hb hby d6_21) hr) ?_
      show OwnR _ _ _ _ _ _ _ (s₁.setTop (mkF m 22 #[.val (.ref ra), .val (.int (Int32.ofNat xv))] [(.int (1 : Int32)), (.ref ra)]))
      refine OwnR.of (own_iaload X0 hx hZ e0 FR (by decide) (by decide) (own_kn (k := 1) (by decide) hn4 hc17_9) (v := .int (own_at r 1)) rfl (g := (mkF m 22 #[.val (.ref ra), .val (.int (Int32.ofNat xv))] [(.int (1 : Int32)), (.ref ra)])) rfl rfl (hb hby d6_22)) ?_
      show OwnR _ _ _ _ _ _ _ (s₁.setTop (mkF m 23 #[.val (.ref ra), .val (.int (Int32.ofNat xv))] [(.int (own_at r 1))]))
      refine OwnR.of (fun _ hr => XS.iloadN X0.here hx rfl (hb hby d6_23) rfl hr) ?_
      show OwnR _ _ _ _ _ _ _ (s₁.setTop (mkF m 24 #[.val (.ref ra), .val (.int (Int32.ofNat xv))] [(.int (Int32.ofNat xv)), (.int (own_at r 1))]))
      by_cases hc24_10 : (own_at r 1) = (Int32.ofNat xv)
      · skip
        refine OwnR.of (fun _ hr => XS.icmpNo X0.here hx rfl (hb hby d6_24) rfl (teq hc24_10).2 hr) ?_
        show OwnR _ _ _ _ _ _ _ (s₁.setTop (mkF m 27 #[.val (.ref ra), .val (.int (Int32.ofNat xv))] []))
        refine OwnR.of (fun _ hr => XS.iconst X0.here hx rfl (hb hby d6_27) hr) ?_
        show OwnR _ _ _ _ _ _ _ (s₁.setTop (mkF m 28 #[.val (.ref ra), .val (.int (Int32.ofNat xv))] [(.int (1 : Int32))]))
        refine own_leafI X0 hx hlk Bd.returns (hb hby d6_28) (by decide) (by decide) ?_
        show QPos Z r n xv h0 n0 _ s₁.heap _
        rw [show s₁.heap = h0 from e0]
        refine ⟨?_, N0, rfl⟩
        show (some (.int (1 : Int32)) : Option Value) = some (.int (own_pos n r xv))
        try simp only [own_0n hn4, own_1n hn4, own_2n hn4] at hc2_1
        try simp only [own_0n hn4, own_1n hn4, own_2n hn4] at hc17_9
        try simp only [own_0n hn4, own_1n hn4, own_2n hn4] at hc24_10
        simp [own_pos, hc2_1, hc17_9, hc24_10]
      · skip
        refine OwnR.of (fun _ hr => XS.icmpYes X0.here hx rfl (pc0 := 24) (pc' := 29) rfl (hb hby d6_24) rfl (feq hc24_10).2 (by decide) (by decide) hr) ?_
        show OwnR _ _ _ _ _ _ _ (s₁.setTop (mkF m 29 #[.val (.ref ra), .val (.int (Int32.ofNat xv))] []))
        refine OwnR.of (fun _ hr => XS.aloadN X0.here hx rfl (hb hby d6_29) rfl rfl hr) ?_
        show OwnR _ _ _ _ _ _ _ (s₁.setTop (mkF m 30 #[.val (.ref ra), .val (.int (Int32.ofNat xv))] [(.ref ra)]))
        refine OwnR.of (own_alen X0 hx hZ e0 FR (z := (Int32.ofNat n)) (own_l4 hn4) (own_g4 hn4) (g := (mkF m 30 #[.val (.ref ra), .val (.int (Int32.ofNat xv))] [(.ref ra)])) rfl rfl (hb hby d6_30)) ?_
        show OwnR _ _ _ _ _ _ _ (s₁.setTop (mkF m 31 #[.val (.ref ra), .val (.int (Int32.ofNat xv))] [(.int (Int32.ofNat n))]))
        refine OwnR.of (fun _ hr => XS.iconst X0.here hx rfl (hb hby d6_31) hr) ?_
        show OwnR _ _ _ _ _ _ _ (s₁.setTop (mkF m 32 #[.val (.ref ra), .val (.int (Int32.ofNat xv))] [(.int (2 : Int32)), (.int (Int32.ofNat n))]))
        by_cases hc32_11 : (2 : Int32) < (Int32.ofNat n)
        · skip
          refine OwnR.of (fun _ hr => XS.icmpNo X0.here hx rfl (hb hby d6_32) rfl (tlt hc32_11).2.2.2 hr) ?_
          show OwnR _ _ _ _ _ _ _ (s₁.setTop (mkF m 35 #[.val (.ref ra), .val (.int (Int32.ofNat xv))] []))
          refine OwnR.of (fun _ hr => XS.aloadN X0.here hx rfl (hb hby d6_35) rfl rfl hr) ?_
          show OwnR _ _ _ _ _ _ _ (s₁.setTop (mkF m 36 #[.val (.ref ra), .val (.int (Int32.ofNat xv))] [(.ref ra)]))
          refine OwnR.of (fun _ hr => XS.iconst X0.here hx rfl (hb hby d6_36) hr) ?_
          show OwnR _ _ _ _ _ _ _ (s₁.setTop (mkF m 37 #[.val (.ref ra), .val (.int (Int32.ofNat xv))] [(.int (2 : Int32)), (.ref ra)]))
          refine OwnR.of (own_iaload X0 hx hZ e0 FR (by decide) (by decide) (own_kn (k := 2) (by decide) hn4 hc32_11) (v := .int (own_at r 2)) rfl (g := (mkF m 37 #[.val (.ref ra), .val (.int (Int32.ofNat xv))] [(.int (2 : Int32)), (.ref ra)])) rfl rfl (hb hby d6_37)) ?_
          show OwnR _ _ _ _ _ _ _ (s₁.setTop (mkF m 38 #[.val (.ref ra), .val (.int (Int32.ofNat xv))] [(.int (own_at r 2))]))
          refine OwnR.of (fun _ hr => XS.iloadN X0.here hx rfl (hb hby d6_38) rfl hr) ?_
          show OwnR _ _ _ _ _ _ _ (s₁.setTop (mkF m 39 #[.val (.ref ra), .val (.int (Int32.ofNat xv))] [(.int (Int32.ofNat xv)), (.int (own_at r 2))]))
          by_cases hc39_12 : (own_at r 2) = (Int32.ofNat xv)
          · skip
            refine OwnR.of (fun _ hr => XS.icmpNo X0.here hx rfl (hb hby d6_39) rfl (teq hc39_12).2 hr) ?_
            show OwnR _ _ _ _ _ _ _ (s₁.setTop (mkF m 42 #[.val (.ref ra), .val (.int (Int32.ofNat xv))] []))
            refine OwnR.of (fun _ hr => XS.iconst X0.here hx rfl (hb hby d6_42) hr) ?_
            show OwnR _ _ _ _ _ _ _ (s₁.setTop (mkF m 43 #[.val (.ref ra), .val (.int (Int32.ofNat xv))] [(.int (2 : Int32))]))
            refine own_leafI X0 hx hlk Bd.returns (hb hby d6_43) (by decide) (by decide) ?_
            show QPos Z r n xv h0 n0 _ s₁.heap _
            rw [show s₁.heap = h0 from e0]
            refine ⟨?_, N0, rfl⟩
            show (some (.int (2 : Int32)) : Option Value) = some (.int (own_pos n r xv))
            try simp only [own_0n hn4, own_1n hn4, own_2n hn4] at hc2_1
            try simp only [own_0n hn4, own_1n hn4, own_2n hn4] at hc17_9
            try simp only [own_0n hn4, own_1n hn4, own_2n hn4] at hc24_10
            try simp only [own_0n hn4, own_1n hn4, own_2n hn4] at hc32_11
            try simp only [own_0n hn4, own_1n hn4, own_2n hn4] at hc39_12
            simp [own_pos, hc2_1, hc17_9, hc24_10, hc32_11, hc39_12]
          · skip
            refine OwnR.of (fun _ hr => XS.icmpYes X0.here hx rfl (pc0 := 39) (pc' := 44) rfl (hb hby d6_39) rfl (feq hc39_12).2 (by decide) (by decide) hr) ?_
            show OwnR _ _ _ _ _ _ _ (s₁.setTop (mkF m 44 #[.val (.ref ra), .val (.int (Int32.ofNat xv))] []))
            refine OwnR.of (fun _ hr => XS.iconst X0.here hx rfl (hb hby d6_44) hr) ?_
            show OwnR _ _ _ _ _ _ _ (s₁.setTop (mkF m 45 #[.val (.ref ra), .val (.int (Int32.ofNat xv))] [(.int (-1 : Int32))]))
            refine own_leafI X0 hx hlk Bd.returns (hb hby d6_45) (by decide) (by decide) ?_
            show QPos Z r n xv h0 n0 _ s₁.heap _
            rw [show s₁.heap = h0 from e0]
            refine ⟨?_, N0, rfl⟩
            show (some (.int (-1 : Int32)) : Option Value) = some (.int (own_pos n r xv))
            try simp only [own_0n hn4, own_1n hn4, own_2n hn4] at hc2_1
            try simp only [own_0n hn4, own_1n hn4, own_2n hn4] at hc17_9
            try simp only [own_0n hn4, own_1n hn4, own_2n hn4] at hc24_10
            try simp only [own_0n hn4, own_1n hn4, own_2n hn4] at hc32_11
            try simp only [own_0n hn4, own_1n hn4, own_2n hn4] at hc39_12
            simp [own_pos, hc2_1, hc17_9, hc24_10, hc32_11, hc39_12]
        · skip
          refine OwnR.of (fun _ hr => XS.icmpYes X0.here hx rfl (pc0 := 32) (pc' := 44) rfl (hb hby d6_32) rfl (flt hc32_11).2.2.2 (by decide) (by decide) hr) ?_
          show OwnR _ _ _ _ _ _ _ (s₁.setTop (mkF m 44 #[.val (.ref ra), .val (.int (Int32.ofNat xv))] []))
          refine OwnR.of (fun _ hr => XS.iconst X0.here hx rfl (hb hby d6_44) hr) ?_
          show OwnR _ _ _ _ _ _ _ (s₁.setTop (mkF m 45 #[.val (.ref ra), .val (.int (Int32.ofNat xv))] [(.int (-1 : Int32))]))
          refine own_leafI X0 hx hlk Bd.returns (hb hby d6_45) (by decide) (by decide) ?_
          show QPos Z r n xv h0 n0 _ s₁.heap _
          rw [show s₁.heap = h0 from e0]
          refine ⟨?_, N0, rfl⟩
          show (some (.int (-1 : Int32)) : Option Value) = some (.int (own_pos n r xv))
          try simp only [own_0n hn4, own_1n hn4, own_2n hn4] at hc2_1
          try simp only [own_0n hn4, own_1n hn4, own_2n hn4] at hc17_9
          try simp only [own_0n hn4, own_1n hn4, own_2n hn4] at hc24_10
          try simp only [own_0n hn4, own_1n hn4, own_2n hn4] at hc32_11
          simp [own_pos, hc2_1, hc17_9, hc24_10, hc32_11]
    · skip
      refine OwnR.of (fun _ hr => XS.icmpYes X0.here hx rfl (pc0 := 17) (pc' := 29) rfl (hb hby d6_17) rfl (flt hc17_9).2.2.2 (by decide) (by decide) hr) ?_
      show OwnR _ _ _ _ _ _ _ (s₁.setTop (mkF m 29 #[.val (.ref ra), .val (.int (Int32.ofNat xv))] []))
      refine OwnR.of (fun _ hr => XS.aloadN X0.here hx rfl (hb hby d6_29) rfl rfl hr) ?_
      show OwnR _ _ _ _ _ _ _ (s₁.setTop (mkF m 30 #[.val (.ref ra), .val (.int (Int32.ofNat xv))] [(.ref ra)]))
      refine OwnR.of (own_alen X0 hx hZ e0 FR (z := (Int32.ofNat n)) (own_l4 hn4) (own_g4 hn4) (g := (mkF m 30 #[.val (.ref ra), .val (.int (Int32.ofNat xv))] [(.ref ra)])) rfl rfl (hb hby d6_30)) ?_
      show OwnR _ _ _ _ _ _ _ (s₁.setTop (mkF m 31 #[.val (.ref ra), .val (.int (Int32.ofNat xv))] [(.int (Int32.ofNat n))]))
      refine OwnR.of (fun _ hr => XS.iconst X0.here hx rfl (hb hby d6_31) hr) ?_
      show OwnR _ _ _ _ _ _ _ (s₁.setTop (mkF m 32 #[.val (.ref ra), .val (.int (Int32.ofNat xv))] [(.int (2 : Int32)), (.int (Int32.ofNat n))]))
      by_cases hc32_13 : (2 : Int32) < (Int32.ofNat n)
      · skip
        refine OwnR.of (fun _ hr => XS.icmpNo X0.here hx rfl (hb hby d6_32) rfl (tlt hc32_13).2.2.2 hr) ?_
        show OwnR _ _ _ _ _ _ _ (s₁.setTop (mkF m 35 #[.val (.ref ra), .val (.int (Int32.ofNat xv))] []))
        refine OwnR.of (fun _ hr => XS.aloadN X0.here hx rfl (hb hby d6_35) rfl rfl hr) ?_
        show OwnR _ _ _ _ _ _ _ (s₁.setTop (mkF m 36 #[.val (.ref ra), .val (.int (Int32.ofNat xv))] [(.ref ra)]))
        refine OwnR.of (fun _ hr => XS.iconst X0.here hx rfl (hb hby d6_36) hr) ?_
        show OwnR _ _ _ _ _ _ _ (s₁.setTop (mkF m 37 #[.val (.ref ra), .val (.int (Int32.ofNat xv))] [(.int (2 : Int32)), (.ref ra)]))
        refine OwnR.of (own_iaload X0 hx hZ e0 FR (by decide) (by decide) (own_kn (k := 2) (by decide) hn4 hc32_13) (v := .int (own_at r 2)) rfl (g := (mkF m 37 #[.val (.ref ra), .val (.int (Int32.ofNat xv))] [(.int (2 : Int32)), (.ref ra)])) rfl rfl (hb hby d6_37)) ?_
        show OwnR _ _ _ _ _ _ _ (s₁.setTop (mkF m 38 #[.val (.ref ra), .val (.int (Int32.ofNat xv))] [(.int (own_at r 2))]))
        refine OwnR.of (fun _ hr => XS.iloadN X0.here hx rfl (hb hby d6_38) rfl hr) ?_
        show OwnR _ _ _ _ _ _ _ (s₁.setTop (mkF m 39 #[.val (.ref ra), .val (.int (Int32.ofNat xv))] [(.int (Int32.ofNat xv)), (.int (own_at r 2))]))
        by_cases hc39_14 : (own_at r 2) = (Int32.ofNat xv)
        · skip
          refine OwnR.of (fun _ hr => XS.icmpNo X0.here hx rfl (hb hby d6_39) rfl (teq hc39_14).2 hr) ?_
          show OwnR _ _ _ _ _ _ _ (s₁.setTop (mkF m 42 #[.val (.ref ra), .val (.int (Int32.ofNat xv))] []))
          refine OwnR.of (fun _ hr => XS.iconst X0.here hx rfl (hb hby d6_42) hr) ?_
          show OwnR _ _ _ _ _ _ _ (s₁.setTop (mkF m 43 #[.val (.ref ra), .val (.int (Int32.ofNat xv))] [(.int (2 : Int32))]))
          refine own_leafI X0 hx hlk Bd.returns (hb hby d6_43) (by decide) (by decide) ?_
          show QPos Z r n xv h0 n0 _ s₁.heap _
          rw [show s₁.heap = h0 from e0]
          refine ⟨?_, N0, rfl⟩
          show (some (.int (2 : Int32)) : Option Value) = some (.int (own_pos n r xv))
          try simp only [own_0n hn4, own_1n hn4, own_2n hn4] at hc2_1
          try simp only [own_0n hn4, own_1n hn4, own_2n hn4] at hc17_9
          try simp only [own_0n hn4, own_1n hn4, own_2n hn4] at hc32_13
          try simp only [own_0n hn4, own_1n hn4, own_2n hn4] at hc39_14
          simp [own_pos, hc2_1, hc17_9, hc32_13, hc39_14]
        · skip
          refine OwnR.of (fun _ hr => XS.icmpYes X0.here hx rfl (pc0 := 39) (pc' := 44) rfl (hb hby d6_39) rfl (feq hc39_14).2 (by decide) (by decide) hr) ?_
          show OwnR _ _ _ _ _ _ _ (s₁.setTop (mkF m 44 #[.val (.ref ra), .val (.int (Int32.ofNat xv))] []))
          refine OwnR.of (fun _ hr => XS.iconst X0.here hx rfl (hb hby d6_44) hr) ?_
          show OwnR _ _ _ _ _ _ _ (s₁.setTop (mkF m 45 #[.val (.ref ra), .val (.int (Int32.ofNat xv))] [(.int (-1 : Int32))]))
          refine own_leafI X0 hx hlk Bd.returns (hb hby d6_45) (by decide) (by decide) ?_
          show QPos Z r n xv h0 n0 _ s₁.heap _
          rw [show s₁.heap = h0 from e0]
          refine ⟨?_, N0, rfl⟩
          show (some (.int (-1 : Int32)) : Option Value) = some (.int (own_pos n r xv))
          try simp only [own_0n hn4, own_1n hn4, own_2n hn4] at hc2_1
          try simp only [own_0n hn4, own_1n hn4, own_2n hn4] at hc17_9
          try simp only [own_0n hn4, own_1n hn4, own_2n hn4] at hc32_13
          try simp only [own_0n hn4, own_1n hn4, own_2n hn4] at hc39_14
          simp [own_pos, hc2_1, hc17_9, hc32_13, hc39_14]
      · skip
        refine OwnR.of (fun _ hr => XS.icmpYes X0.here hx rfl (pc0 := 32) (pc' := 44) rfl (hb hby d6_32) rfl (flt hc32_13).2.2.2 (by decide) (by decide) hr) ?_
        show OwnR _ _ _ _ _ _ _ (s₁.setTop (mkF m 44 #[.val (.ref ra), .val (.int (Int32.ofNat xv))] []))
        refine OwnR.of (fun _ hr => XS.iconst X0.here hx rfl (hb hby d6_44) hr) ?_
        show OwnR _ _ _ _ _ _ _ (s₁.setTop (mkF m 45 #[.val (.ref ra), .val (.int (Int32.ofNat xv))] [(.int (-1 : Int32))]))
        refine own_leafI X0 hx hlk Bd.returns (hb hby d6_45) (by decide) (by decide) ?_
        show QPos Z r n xv h0 n0 _ s₁.heap _
        rw [show s₁.heap = h0 from e0]
        refine ⟨?_, N0, rfl⟩
        show (some (.int (-1 : Int32)) : Option Value) = some (.int (own_pos n r xv))
        try simp only [own_0n hn4, own_1n hn4, own_2n hn4] at hc2_1
        try simp only [own_0n hn4, own_1n hn4, own_2n hn4] at hc17_9
        try simp only [own_0n hn4, own_1n hn4, own_2n hn4] at hc32_13
        simp [own_pos, hc2_1, hc17_9, hc32_13]
theorem own_lt3n {i n : Nat} (h : i < 3) (hn : n < 4) : (Int32.ofNat i < Int32.ofNat n) = (i < n) := propext (own_ltn (by omega) (by omega))
theorem own_lt33 {i j : Nat} (h : i < 3) (hj : j < 3) : (Int32.ofNat i < Int32.ofNat j) = (i < j) := propext (own_ltn (by omega) (by omega))
theorem ef_rmPair (m : MethodId) (x0 : Addr) (x1 : Addr) : entryFrame m #[(.ref x0), (.ref x1), (.int (Int32.ofNat n)), (.int (Int32.ofNat i)), (.int (Int32.ofNat j))] 9 = mkF m 0 #[.val (.ref x0), .val (.ref x1), .val (.int (Int32.ofNat n)), .val (.int (Int32.ofNat i)), .val (.int (Int32.ofNat j)), .unset, .unset, .unset, .unset] [] := by first | (simp [entryFrame, mkF, argsToLocals, Value.category]; done) | rfl
theorem d7_0 : decode method_10_code 0 = .ok (.iload_n 3, 1) := by decide +kernel
theorem d7_1 : decode method_10_code 1 = .ok (.iload_n 2, 1) := by decide +kernel
theorem d7_2 : decode method_10_code 2 = .ok (.if_icmp .ge 9, 3) := by decide +kernel
theorem d7_5 : decode method_10_code 5 = .ok (.iload 4, 2) := by decide +kernel
theorem d7_7 : decode method_10_code 7 = .ok (.iload_n 2, 1) := by decide +kernel
theorem d7_8 : decode method_10_code 8 = .ok (.if_icmp .lt 5, 3) := by decide +kernel
theorem d7_13 : decode method_10_code 13 = .ok (.aload_n 0, 1) := by decide +kernel
theorem d7_14 : decode method_10_code 14 = .ok (.iload_n 3, 1) := by decide +kernel
theorem d7_15 : decode method_10_code 15 = .ok (.invokestatic 51, 3) := by decide +kernel
theorem pd____ZI_Z : parseMethodDescriptor "([[ZI)Z" = some ⟨[(.array (.array .boolean)), .int], some .boolean⟩ := by decide +kernel
theorem d7_18 : decode method_10_code 18 = .ok (.istore 5, 2) := by decide +kernel
theorem d7_20 : decode method_10_code 20 = .ok (.aload_n 0, 1) := by decide +kernel
theorem d7_21 : decode method_10_code 21 = .ok (.iload 4, 2) := by decide +kernel
theorem d7_23 : decode method_10_code 23 = .ok (.invokestatic 51, 3) := by decide +kernel
theorem d7_26 : decode method_10_code 26 = .ok (.istore 6, 2) := by decide +kernel
theorem d7_28 : decode method_10_code 28 = .ok (.aload_n 1, 1) := by decide +kernel
theorem d7_29 : decode method_10_code 29 = .ok (.iload_n 3, 1) := by decide +kernel
theorem d7_30 : decode method_10_code 30 = .ok (.invokestatic 25, 3) := by decide +kernel
theorem pd___II_I : parseMethodDescriptor "([II)I" = some ⟨[(.array .int), .int], some .int⟩ := by decide +kernel
theorem d7_33 : decode method_10_code 33 = .ok (.istore 7, 2) := by decide +kernel
theorem d7_35 : decode method_10_code 35 = .ok (.aload_n 1, 1) := by decide +kernel
theorem d7_36 : decode method_10_code 36 = .ok (.iload 4, 2) := by decide +kernel
theorem d7_38 : decode method_10_code 38 = .ok (.invokestatic 25, 3) := by decide +kernel
theorem d7_41 : decode method_10_code 41 = .ok (.istore 8, 2) := by decide +kernel
theorem d7_43 : decode method_10_code 43 = .ok (.iload 5, 2) := by decide +kernel
theorem d7_45 : decode method_10_code 45 = .ok (.ifCond .ne 21, 3) := by decide +kernel
theorem d7_48 : decode method_10_code 48 = .ok (.iload 6, 2) := by decide +kernel
theorem d7_50 : decode method_10_code 50 = .ok (.ifCond .eq 16, 3) := by decide +kernel
theorem d7_66 : decode method_10_code 66 = .ok (.iload 5, 2) := by decide +kernel
theorem d7_68 : decode method_10_code 68 = .ok (.ifCond .eq 27, 3) := by decide +kernel
theorem d7_95 : decode method_10_code 95 = .ok (.iload 5, 2) := by decide +kernel
theorem d7_97 : decode method_10_code 97 = .ok (.ifCond .ne 30, 3) := by decide +kernel
theorem d7_100 : decode method_10_code 100 = .ok (.iload 6, 2) := by decide +kernel
theorem d7_102 : decode method_10_code 102 = .ok (.ifCond .ne 25, 3) := by decide +kernel
theorem d7_105 : decode method_10_code 105 = .ok (.aload_n 0, 1) := by decide +kernel
theorem d7_106 : decode method_10_code 106 = .ok (.iload_n 3, 1) := by decide +kernel
theorem d7_107 : decode method_10_code 107 = .ok (.aaload, 1) := by decide +kernel
theorem d7_108 : decode method_10_code 108 = .ok (.iload 4, 2) := by decide +kernel
theorem d7_110 : decode method_10_code 110 = .ok (.baload, 1) := by decide +kernel
theorem d7_111 : decode method_10_code 111 = .ok (.ifCond .eq 16, 3) := by decide +kernel
theorem d7_127 : decode method_10_code 127 = .ok (.iconst 1, 1) := by decide +kernel
theorem d7_128 : decode method_10_code 128 = .ok (.ireturn, 1) := by decide +kernel
theorem d7_114 : decode method_10_code 114 = .ok (.iload 7, 2) := by decide +kernel
theorem d7_116 : decode method_10_code 116 = .ok (.iload 8, 2) := by decide +kernel
theorem d7_118 : decode method_10_code 118 = .ok (.if_icmp .ge 7, 3) := by decide +kernel
theorem d7_121 : decode method_10_code 121 = .ok (.iconst 1, 1) := by decide +kernel
theorem d7_122 : decode method_10_code 122 = .ok (.goto 4, 3) := by decide +kernel
theorem d7_126 : decode method_10_code 126 = .ok (.ireturn, 1) := by decide +kernel
theorem d7_125 : decode method_10_code 125 = .ok (.iconst 0, 1) := by decide +kernel
theorem d7_53 : decode method_10_code 53 = .ok (.iload 7, 2) := by decide +kernel
theorem d7_55 : decode method_10_code 55 = .ok (.iload 8, 2) := by decide +kernel
theorem d7_57 : decode method_10_code 57 = .ok (.if_icmp .ge 7, 3) := by decide +kernel
theorem d7_60 : decode method_10_code 60 = .ok (.iconst 1, 1) := by decide +kernel
theorem d7_61 : decode method_10_code 61 = .ok (.goto 4, 3) := by decide +kernel
theorem d7_65 : decode method_10_code 65 = .ok (.ireturn, 1) := by decide +kernel
theorem d7_64 : decode method_10_code 64 = .ok (.iconst 0, 1) := by decide +kernel
theorem d7_71 : decode method_10_code 71 = .ok (.iload 6, 2) := by decide +kernel
theorem d7_73 : decode method_10_code 73 = .ok (.ifCond .eq 22, 3) := by decide +kernel
theorem d7_76 : decode method_10_code 76 = .ok (.iload_n 3, 1) := by decide +kernel
theorem d7_77 : decode method_10_code 77 = .ok (.iload 4, 2) := by decide +kernel
theorem d7_79 : decode method_10_code 79 = .ok (.if_icmp .ge 16, 3) := by decide +kernel
theorem d7_82 : decode method_10_code 82 = .ok (.iload 7, 2) := by decide +kernel
theorem d7_84 : decode method_10_code 84 = .ok (.iload 8, 2) := by decide +kernel
theorem d7_86 : decode method_10_code 86 = .ok (.if_icmp .ge 7, 3) := by decide +kernel
theorem d7_89 : decode method_10_code 89 = .ok (.iconst 1, 1) := by decide +kernel
theorem d7_90 : decode method_10_code 90 = .ok (.goto 4, 3) := by decide +kernel
theorem d7_94 : decode method_10_code 94 = .ok (.ireturn, 1) := by decide +kernel
theorem d7_93 : decode method_10_code 93 = .ok (.iconst 0, 1) := by decide +kernel
theorem d7_11 : decode method_10_code 11 = .ok (.iconst 1, 1) := by decide +kernel
theorem d7_12 : decode method_10_code 12 = .ok (.ireturn, 1) := by decide +kernel
def QPair (Z : State) (M : Nat → Nat) (r : List Nat) (n : Nat) (i : Nat) (j : Nat) (h0 : Heap) (n0 : Nat) (v : Option Value) (h : Heap) (L : List Loc) : Prop := v = some (.int (own_bi (own_pairOk M r n i j))) ∧ Fr n0 L ∧ h = h0
set_option maxRecDepth 65536 in
set_option maxHeartbeats 40000000 in
theorem rmPair (l : Launch) (Z : State) (a0 : Array Value) (hw : ∀ d ∈ tables_1, d.before a0 Z = true) (ws : List Jvm.Cond) (ea : Addr) (ra : Addr) (kE : ClassId) (D : Nat → Addr) (kD : Nat → ClassId) (M : Nat → Nat) (kR : ClassId) (r : List Nat) (n : Nat) (i j : Nat) (h0 : Heap) (n0 : Nat) (Z0 : n0 ≤ h0.size) (EE : OwnE Z h0 ea kE D kD M) (hi : i < 3) (hj : j < 3) (FR : OwnF Z h0 ra kR .int n (fun k => .int (own_at r k))) (hn4 : n < 4) :
    MetFree l (⟨"com/example/fast_taxonomy/fasttaxonomy/taxonomy/RelationTopologicalOrderPinLaw", "pairOk", "([[Z[IIII)Z"⟩ : MethodName) (head1 (Jvm.Cond.code (⟨"com/example/fast_taxonomy/fasttaxonomy/taxonomy/RelationTopologicalOrderPinLaw", "pairOk", "([[Z[IIII)Z"⟩ : MethodName) method_10_code 9 (some .boolean) :: ws) ({ frames := 5, cells := 0, slots := 0, locals := 104 } : Room)) (fun a U => a = #[(.ref ea), (.ref ra), (.int (Int32.ofNat n)), (.int (Int32.ofNat i)), (.int (Int32.ofNat j))] ∧ Z.Warmed39 U.vm ∧ U.heap = h0) (fun _ _ _ _ _ => True) (fun _ U o U' => ∃ v L, o = .returned v ∧ QPair Z M r n i j h0 n0 v U'.heap L ∧ FrameEnd U o U' L ({ frames := 5, cells := 0, slots := 0, locals := 104 } : Room).cells ({ frames := 5, cells := 0, slots := 0, locals := 104 } : Room).slots) := by
  refine MetFree.of_bodySF (plainFor_of_name pn_com_example_fast_taxonomy_fasttaxonomy_taxonomy_RelationTopologicalOrderPinLaw) hisR ?_
  intro p e s m args below meth c s₁ Bd hml0 hP hK
  obtain ⟨rfl, hZ, hh⟩ := hP
  have hx := Bd.exec
  have hby := Bd.bytes
  have hlk := BodyLoose.notSynchronized Bd
  have hml : c.maxLocals = 9 := hml0
  have hown : s.vm.findClass "com/example/fast_taxonomy/fasttaxonomy/taxonomy/RelationTopologicalOrderPinLaw" = some m.cls := findClass_of_methodNamed Bd.named
  have hnm := (name_of_methodNamed Bd.named Bd.method).1
  have X0 : Stand p l e ({ frames := 5, cells := 0, slots := 0, locals := 104 } : Room) s m #[(.ref ea), (.ref ra), (.int (Int32.ofNat n)), (.int (Int32.ofNat i)), (.int (Int32.ofNat j))] below meth c s₁ [] 0 0 := Stand.of_body Bd
  have e0 : s₁.heap = h0 := by rw [← hh, Bd.state]; rfl
  have N0 := Fr.nil n0
  refine OwnR.of (s := s) (Q := QPair Z M r n i j h0 n0) (fun t k => castTop (ef_rmPair m ea ra) k) ?_
  show OwnR _ _ _ _ _ _ _ (s₁.setTop (mkF m 0 #[.val (.ref ea), .val (.ref ra), .val (.int (Int32.ofNat n)), .val (.int (Int32.ofNat i)), .val (.int (Int32.ofNat j)), .unset, .unset, .unset, .unset] []))
  refine OwnR.of (fun _ hr => XS.iloadN X0.here hx rfl (hb hby d7_0) rfl hr) ?_
  show OwnR _ _ _ _ _ _ _ (s₁.setTop (mkF m 1 #[.val (.ref ea), .val (.ref ra), .val (.int (Int32.ofNat n)), .val (.int (Int32.ofNat i)), .val (.int (Int32.ofNat j)), .unset, .unset, .unset, .unset] [(.int (Int32.ofNat i))]))
  refine OwnR.of (fun _ hr => XS.iloadN X0.here hx rfl (hb hby d7_1) rfl hr) ?_
  show OwnR _ _ _ _ _ _ _ (s₁.setTop (mkF m 2 #[.val (.ref ea), .val (.ref ra), .val (.int (Int32.ofNat n)), .val (.int (Int32.ofNat i)), .val (.int (Int32.ofNat j)), .unset, .unset, .unset, .unset] [(.int (Int32.ofNat n)), (.int (Int32.ofNat i))]))
  by_cases hc2_1 : (Int32.ofNat i) < (Int32.ofNat n)
  · skip
    refine OwnR.of (fun _ hr => XS.icmpNo X0.here hx rfl (hb hby d7_2) rfl (tlt hc2_1).2.1 hr) ?_
    show OwnR _ _ _ _ _ _ _ (s₁.setTop (mkF m 5 #[.val (.ref ea), .val (.ref ra), .val (.int (Int32.ofNat n)), .val (.int (Int32.ofNat i)), .val (.int (Int32.ofNat j)), .unset, .unset, .unset, .unset] []))
    refine OwnR.of (fun _ hr => XS.iload X0.here hx rfl (hb hby d7_5) rfl hr) ?_
    show OwnR _ _ _ _ _ _ _ (s₁.setTop (mkF m 7 #[.val (.ref ea), .val (.ref ra), .val (.int (Int32.ofNat n)), .val (.int (Int32.ofNat i)), .val (.int (Int32.ofNat j)), .unset, .unset, .unset, .unset] [(.int (Int32.ofNat j))]))
    refine OwnR.of (fun _ hr => XS.iloadN X0.here hx rfl (hb hby d7_7) rfl hr) ?_
    show OwnR _ _ _ _ _ _ _ (s₁.setTop (mkF m 8 #[.val (.ref ea), .val (.ref ra), .val (.int (Int32.ofNat n)), .val (.int (Int32.ofNat i)), .val (.int (Int32.ofNat j)), .unset, .unset, .unset, .unset] [(.int (Int32.ofNat n)), (.int (Int32.ofNat j))]))
    by_cases hc8_2 : (Int32.ofNat j) < (Int32.ofNat n)
    · skip
      refine OwnR.of (fun _ hr => XS.icmpYes X0.here hx rfl (pc0 := 8) (pc' := 13) rfl (hb hby d7_8) rfl (tlt hc8_2).1 (by decide) (by decide) hr) ?_
      show OwnR _ _ _ _ _ _ _ (s₁.setTop (mkF m 13 #[.val (.ref ea), .val (.ref ra), .val (.int (Int32.ofNat n)), .val (.int (Int32.ofNat i)), .val (.int (Int32.ofNat j)), .unset, .unset, .unset, .unset] []))
      refine OwnR.of (fun _ hr => XS.aloadN X0.here hx rfl (hb hby d7_13) rfl rfl hr) ?_
      show OwnR _ _ _ _ _ _ _ (s₁.setTop (mkF m 14 #[.val (.ref ea), .val (.ref ra), .val (.int (Int32.ofNat n)), .val (.int (Int32.ofNat i)), .val (.int (Int32.ofNat j)), .unset, .unset, .unset, .unset] [(.ref ea)]))
      refine OwnR.of (fun _ hr => XS.iloadN X0.here hx rfl (hb hby d7_14) rfl hr) ?_
      show OwnR _ _ _ _ _ _ _ (s₁.setTop (mkF m 15 #[.val (.ref ea), .val (.ref ra), .val (.int (Int32.ofNat n)), .val (.int (Int32.ofNat i)), .val (.int (Int32.ofNat j)), .unset, .unset, .unset, .unset] [(.int (Int32.ofNat i)), (.ref ea)]))
      obtain ⟨_, _, ⟨T3, L3, kc3, ns3⟩, -, X3, ⟨Lc3, hQ3, l3, y3, z3⟩, st3⟩ := Jvm.LawKit.callS X0 hx (y := (⟨"com/example/fast_taxonomy/fasttaxonomy/taxonomy/RelationTopologicalOrderPinLaw", "inB", "([[ZI)Z"⟩ : MethodName)) hown (mvT hZ (hw _ (List.mem_of_getElem? (i := 43) rfl))) (mvT hZ (hw _ (List.mem_of_getElem? (i := 44) rfl))) (mvT hZ (hw _ (List.mem_of_getElem? (i := 29) rfl))) (mvT hZ (hw _ (List.mem_of_getElem? (i := 45) rfl))) (by decide) (backOf (W := 0) (rmInB l Z a0 hw [] ea kE D kD M i h0 n0 (Nat.le_trans Z0 (Keep.refl h0 []).1) EE hi) hZ (hw _ (List.mem_of_getElem? (i := 45) rfl)) (hw _ (List.mem_of_getElem? (i := 29) rfl)) (by decide) (by decide)) (g := (mkF m 15 #[.val (.ref ea), .val (.ref ra), .val (.int (Int32.ofNat n)), .val (.int (Int32.ofNat i)), .val (.int (Int32.ofNat j)), .unset, .unset, .unset, .unset] [(.int (Int32.ofNat i)), (.ref ea)])) rfl (by rw [hml]; rfl) (argsL := [(.ref ea), (.int (Int32.ofNat i))]) (rest := []) (lenOf pd____ZI_Z rfl) rfl (by show 2 * 0 + _ ≤ _; exact Nat.le_of_eq rfl) (hb hby d7_15) (fun _ _ => ⟨rfl, e0, (by decide : 0 + 0 ≤ _), (by decide : 0 + 0 ≤ _)⟩)
      dsimp only [Pt.U, Pt.locs, Pt.cells, Pt.slots] at X3 l3 y3 z3 st3 hQ3
      rw [l3, y3, z3] at X3
      obtain ⟨rfl, N3q, e3⟩ := hQ3
      have N3 := Fr.app N0 N3q
      refine OwnR.of (st3) ?_
      show OwnR _ _ _ _ _ _ _ (T3.setTop (mkF m 18 #[.val (.ref ea), .val (.ref ra), .val (.int (Int32.ofNat n)), .val (.int (Int32.ofNat i)), .val (.int (Int32.ofNat j)), .unset, .unset, .unset, .unset] [(.int (own_bi (own_inB M i)))]))
      refine OwnR.of (fun _ hr => XS.istore X3.here hx rfl (hb hby d7_18) rfl (l' := #[.val (.ref ea), .val (.ref ra), .val (.int (Int32.ofNat n)), .val (.int (Int32.ofNat i)), .val (.int (Int32.ofNat j)), .val (.int (own_bi (own_inB M i))), .unset, .unset, .unset]) rfl hr) ?_
      show OwnR _ _ _ _ _ _ _ (T3.setTop (mkF m 20 #[.val (.ref ea), .val (.ref ra), .val (.int (Int32.ofNat n)), .val (.int (Int32.ofNat i)), .val (.int (Int32.ofNat j)), .val (.int (own_bi (own_inB M i))), .unset, .unset, .unset] []))
      refine OwnR.of (fun _ hr => XS.aloadN X3.here hx rfl (hb hby d7_20) rfl rfl hr) ?_
      show OwnR _ _ _ _ _ _ _ (T3.setTop (mkF m 21 #[.val (.ref ea), .val (.ref ra), .val (.int (Int32.ofNat n)), .val (.int (Int32.ofNat i)), .val (.int (Int32.ofNat j)), .val (.int (own_bi (own_inB M i))), .unset, .unset, .unset] [(.ref ea)]))
      refine OwnR.of (fun _ hr => XS.iload X3.here hx rfl (hb hby d7_21) rfl hr) ?_
      show OwnR _ _ _ _ _ _ _ (T3.setTop (mkF m 23 #[.val (.ref ea), .val (.ref ra), .val (.int (Int32.ofNat n)), .val (.int (Int32.ofNat i)), .val (.int (Int32.ofNat j)), .val (.int (own_bi (own_inB M i))), .unset, .unset, .unset] [(.int (Int32.ofNat j)), (.ref ea)]))
      obtain ⟨_, _, ⟨T4, L4, kc4, ns4⟩, -, X4, ⟨Lc4, hQ4, l4, y4, z4⟩, st4⟩ := Jvm.LawKit.callS X3 hx (y := (⟨"com/example/fast_taxonomy/fasttaxonomy/taxonomy/RelationTopologicalOrderPinLaw", "inB", "([[ZI)Z"⟩ : MethodName)) hown (mvT hZ (hw _ (List.mem_of_getElem? (i := 43) rfl))) (mvT hZ (hw _ (List.mem_of_getElem? (i := 44) rfl))) (mvT hZ (hw _ (List.mem_of_getElem? (i := 29) rfl))) (mvT hZ (hw _ (List.mem_of_getElem? (i := 45) rfl))) (by decide) (backOf (W := 0) (rmInB l Z a0 hw [] ea kE D kD M j h0 n0 (Nat.le_trans Z0 (Keep.refl h0 []).1) EE hj) hZ (hw _ (List.mem_of_getElem? (i := 45) rfl)) (hw _ (List.mem_of_getElem? (i := 29) rfl)) (by decide) (by decide)) (g := (mkF m 23 #[.val (.ref ea), .val (.ref ra), .val (.int (Int32.ofNat n)), .val (.int (Int32.ofNat i)), .val (.int (Int32.ofNat j)), .val (.int (own_bi (own_inB M i))), .unset, .unset, .unset] [(.int (Int32.ofNat j)), (.ref ea)])) rfl (by rw [hml]; rfl) (argsL := [(.ref ea), (.int (Int32.ofNat j))]) (rest := []) (lenOf pd____ZI_Z rfl) rfl (by show 2 * 0 + _ ≤ _; exact Nat.le_of_eq rfl) (hb hby d7_23) (fun _ _ => ⟨rfl, e3, (by decide : 0 + 0 ≤ _), (by decide : 0 + 0 ≤ _)⟩)
      dsimp only [Pt.U, Pt.locs, Pt.cells, Pt.slots] at X4 l4 y4 z4 st4 hQ4
      rw [l4, y4, z4] at X4
      obtain ⟨rfl, N4q, e4⟩ := hQ4
      have N4 := Fr.app N3 N4q
      refine OwnR.of (st4) ?_
      show OwnR _ _ _ _ _ _ _ (T4.setTop (mkF m 26 #[.val (.ref ea), .val (.ref ra), .val (.int (Int32.ofNat n)), .val (.int (Int32.ofNat i)), .val (.int (Int32.ofNat j)), .val (.int (own_bi (own_inB M i))), .unset, .unset, .unset] [(.int (own_bi (own_inB M j)))]))
      refine OwnR.of (fun _ hr => XS.istore X4.here hx rfl (hb hby d7_26) rfl (l' := #[.val (.ref ea), .val (.ref ra), .val (.int (Int32.ofNat n)), .val (.int (Int32.ofNat i)), .val (.int (Int32.ofNat j)), .val (.int (own_bi (own_inB M i))), .val (.int (own_bi (own_inB M j))), .unset, .unset]) rfl hr) ?_
      show OwnR _ _ _ _ _ _ _ (T4.setTop (mkF m 28 #[.val (.ref ea), .val (.ref ra), .val (.int (Int32.ofNat n)), .val (.int (Int32.ofNat i)), .val (.int (Int32.ofNat j)), .val (.int (own_bi (own_inB M i))), .val (.int (own_bi (own_inB M j))), .unset, .unset] []))
      refine OwnR.of (fun _ hr => XS.aloadN X4.here hx rfl (hb hby d7_28) rfl rfl hr) ?_
      show OwnR _ _ _ _ _ _ _ (T4.setTop (mkF m 29 #[.val (.ref ea), .val (.ref ra), .val (.int (Int32.ofNat n)), .val (.int (Int32.ofNat i)), .val (.int (Int32.ofNat j)), .val (.int (own_bi (own_inB M i))), .val (.int (own_bi (own_inB M j))), .unset, .unset] [(.ref ra)]))
      refine OwnR.of (fun _ hr => XS.iloadN X4.here hx rfl (hb hby d7_29) rfl hr) ?_
      show OwnR _ _ _ _ _ _ _ (T4.setTop (mkF m 30 #[.val (.ref ea), .val (.ref ra), .val (.int (Int32.ofNat n)), .val (.int (Int32.ofNat i)), .val (.int (Int32.ofNat j)), .val (.int (own_bi (own_inB M i))), .val (.int (own_bi (own_inB M j))), .unset, .unset] [(.int (Int32.ofNat i)), (.ref ra)]))
      obtain ⟨_, _, ⟨T5, L5, kc5, ns5⟩, -, X5, ⟨Lc5, hQ5, l5, y5, z5⟩, st5⟩ := Jvm.LawKit.callS X4 hx (y := (⟨"com/example/fast_taxonomy/fasttaxonomy/taxonomy/RelationTopologicalOrderPinLaw", "pos", "([II)I"⟩ : MethodName)) hown (mvT hZ (hw _ (List.mem_of_getElem? (i := 37) rfl))) (mvT hZ (hw _ (List.mem_of_getElem? (i := 38) rfl))) (mvT hZ (hw _ (List.mem_of_getElem? (i := 29) rfl))) (mvT hZ (hw _ (List.mem_of_getElem? (i := 39) rfl))) (by decide) (backOf (W := 0) (rmPos l Z a0 hw [] ra kR r n i h0 n0 (Nat.le_trans Z0 (Keep.refl h0 []).1) FR hn4) hZ (hw _ (List.mem_of_getElem? (i := 39) rfl)) (hw _ (List.mem_of_getElem? (i := 29) rfl)) (by decide) (by decide)) (g := (mkF m 30 #[.val (.ref ea), .val (.ref ra), .val (.int (Int32.ofNat n)), .val (.int (Int32.ofNat i)), .val (.int (Int32.ofNat j)), .val (.int (own_bi (own_inB M i))), .val (.int (own_bi (own_inB M j))), .unset, .unset] [(.int (Int32.ofNat i)), (.ref ra)])) rfl (by rw [hml]; rfl) (argsL := [(.ref ra), (.int (Int32.ofNat i))]) (rest := []) (lenOf pd___II_I rfl) rfl (by show 2 * 0 + _ ≤ _; exact Nat.le_of_eq rfl) (hb hby d7_30) (fun _ _ => ⟨rfl, e4, (by decide : 0 + 0 ≤ _), (by decide : 0 + 0 ≤ _)⟩)
      dsimp only [Pt.U, Pt.locs, Pt.cells, Pt.slots] at X5 l5 y5 z5 st5 hQ5
      rw [l5, y5, z5] at X5
      obtain ⟨rfl, N5q, e5⟩ := hQ5
      have N5 := Fr.app N4 N5q
      refine OwnR.of (st5) ?_
      show OwnR _ _ _ _ _ _ _ (T5.setTop (mkF m 33 #[.val (.ref ea), .val (.ref ra), .val (.int (Int32.ofNat n)), .val (.int (Int32.ofNat i)), .val (.int (Int32.ofNat j)), .val (.int (own_bi (own_inB M i))), .val (.int (own_bi (own_inB M j))), .unset, .unset] [(.int (own_pos n r i))]))
      refine OwnR.of (fun _ hr => XS.istore X5.here hx rfl (hb hby d7_33) rfl (l' := #[.val (.ref ea), .val (.ref ra), .val (.int (Int32.ofNat n)), .val (.int (Int32.ofNat i)), .val (.int (Int32.ofNat j)), .val (.int (own_bi (own_inB M i))), .val (.int (own_bi (own_inB M j))), .val (.int (own_pos n r i)), .unset]) rfl hr) ?_
      show OwnR _ _ _ _ _ _ _ (T5.setTop (mkF m 35 #[.val (.ref ea), .val (.ref ra), .val (.int (Int32.ofNat n)), .val (.int (Int32.ofNat i)), .val (.int (Int32.ofNat j)), .val (.int (own_bi (own_inB M i))), .val (.int (own_bi (own_inB M j))), .val (.int (own_pos n r i)), .unset] []))
      refine OwnR.of (fun _ hr => XS.aloadN X5.here hx rfl (hb hby d7_35) rfl rfl hr) ?_
      show OwnR _ _ _ _ _ _ _ (T5.setTop (mkF m 36 #[.val (.ref ea), .val (.ref ra), .val (.int (Int32.ofNat n)), .val (.int (Int32.ofNat i)), .val (.int (Int32.ofNat j)), .val (.int (own_bi (own_inB M i))), .val (.int (own_bi (own_inB M j))), .val (.int (own_pos n r i)), .unset] [(.ref ra)]))
      refine OwnR.of (fun _ hr => XS.iload X5.here hx rfl (hb hby d7_36) rfl hr) ?_
      show OwnR _ _ _ _ _ _ _ (T5.setTop (mkF m 38 #[.val (.ref ea), .val (.ref ra), .val (.int (Int32.ofNat n)), .val (.int (Int32.ofNat i)), .val (.int (Int32.ofNat j)), .val (.int (own_bi (own_inB M i))), .val (.int (own_bi (own_inB M j))), .val (.int (own_pos n r i)), .unset] [(.int (Int32.ofNat j)), (.ref ra)]))
      obtain ⟨_, _, ⟨T6, L6, kc6, ns6⟩, -, X6, ⟨Lc6, hQ6, l6, y6, z6⟩, st6⟩ := Jvm.LawKit.callS X5 hx (y := (⟨"com/example/fast_taxonomy/fasttaxonomy/taxonomy/RelationTopologicalOrderPinLaw", "pos", "([II)I"⟩ : MethodName)) hown (mvT hZ (hw _ (List.mem_of_getElem? (i := 37) rfl))) (mvT hZ (hw _ (List.mem_of_getElem? (i := 38) rfl))) (mvT hZ (hw _ (List.mem_of_getElem? (i := 29) rfl))) (mvT hZ (hw _ (List.mem_of_getElem? (i := 39) rfl))) (by decide) (backOf (W := 0) (rmPos l Z a0 hw [] ra kR r n j h0 n0 (Nat.le_trans Z0 (Keep.refl h0 []).1) FR hn4) hZ (hw _ (List.mem_of_getElem? (i := 39) rfl)) (hw _ (List.mem_of_getElem? (i := 29) rfl)) (by decide) (by decide)) (g := (mkF m 38 #[.val (.ref ea), .val (.ref ra), .val (.int (Int32.ofNat n)), .val (.int (Int32.ofNat i)), .val (.int (Int32.ofNat j)), .val (.int (own_bi (own_inB M i))), .val (.int (own_bi (own_inB M j))), .val (.int (own_pos n r i)), .unset] [(.int (Int32.ofNat j)), (.ref ra)])) rfl (by rw [hml]; rfl) (argsL := [(.ref ra), (.int (Int32.ofNat j))]) (rest := []) (lenOf pd___II_I rfl) rfl (by show 2 * 0 + _ ≤ _; exact Nat.le_of_eq rfl) (hb hby d7_38) (fun _ _ => ⟨rfl, e5, (by decide : 0 + 0 ≤ _), (by decide : 0 + 0 ≤ _)⟩)
      dsimp only [Pt.U, Pt.locs, Pt.cells, Pt.slots] at X6 l6 y6 z6 st6 hQ6
      rw [l6, y6, z6] at X6
      obtain ⟨rfl, N6q, e6⟩ := hQ6
      have N6 := Fr.app N5 N6q
      refine OwnR.of (st6) ?_
      show OwnR _ _ _ _ _ _ _ (T6.setTop (mkF m 41 #[.val (.ref ea), .val (.ref ra), .val (.int (Int32.ofNat n)), .val (.int (Int32.ofNat i)), .val (.int (Int32.ofNat j)), .val (.int (own_bi (own_inB M i))), .val (.int (own_bi (own_inB M j))), .val (.int (own_pos n r i)), .unset] [(.int (own_pos n r j))]))
      refine OwnR.of (fun _ hr => XS.istore X6.here hx rfl (hb hby d7_41) rfl (l' := #[.val (.ref ea), .val (.ref ra), .val (.int (Int32.ofNat n)), .val (.int (Int32.ofNat i)), .val (.int (Int32.ofNat j)), .val (.int (own_bi (own_inB M i))), .val (.int (own_bi (own_inB M j))), .val (.int (own_pos n r i)), .val (.int (own_pos n r j))]) rfl hr) ?_
      show OwnR _ _ _ _ _ _ _ (T6.setTop (mkF m 43 #[.val (.ref ea), .val (.ref ra), .val (.int (Int32.ofNat n)), .val (.int (Int32.ofNat i)), .val (.int (Int32.ofNat j)), .val (.int (own_bi (own_inB M i))), .val (.int (own_bi (own_inB M j))), .val (.int (own_pos n r i)), .val (.int (own_pos n r j))] []))
      refine OwnR.of (fun _ hr => XS.iload X6.here hx rfl (hb hby d7_43) rfl hr) ?_
      show OwnR _ _ _ _ _ _ _ (T6.setTop (mkF m 45 #[.val (.ref ea), .val (.ref ra), .val (.int (Int32.ofNat n)), .val (.int (Int32.ofNat i)), .val (.int (Int32.ofNat j)), .val (.int (own_bi (own_inB M i))), .val (.int (own_bi (own_inB M j))), .val (.int (own_pos n r i)), .val (.int (own_pos n r j))] [(.int (own_bi (own_inB M i)))]))
      by_cases hc45_7 : (own_bi (own_inB M i)) = (0 : Int32)
      · skip
        refine OwnR.of (fun _ hr => XS.ifNo X6.here hx rfl (hb hby d7_45) rfl ((if0 _ _).trans (teq hc45_7).2) hr) ?_
        show OwnR _ _ _ _ _ _ _ (T6.setTop (mkF m 48 #[.val (.ref ea), .val (.ref ra), .val (.int (Int32.ofNat n)), .val (.int (Int32.ofNat i)), .val (.int (Int32.ofNat j)), .val (.int (own_bi (own_inB M i))), .val (.int (own_bi (own_inB M j))), .val (.int (own_pos n r i)), .val (.int (own_pos n r j))] []))
        refine OwnR.of (fun _ hr => XS.iload X6.here hx rfl (hb hby d7_48) rfl hr) ?_
        show OwnR _ _ _ _ _ _ _ (T6.setTop (mkF m 50 #[.val (.ref ea), .val (.ref ra), .val (.int (Int32.ofNat n)), .val (.int (Int32.ofNat i)), .val (.int (Int32.ofNat j)), .val (.int (own_bi (own_inB M i))), .val (.int (own_bi (own_inB M j))), .val (.int (own_pos n r i)), .val (.int (own_pos n r j))] [(.int (own_bi (own_inB M j)))]))
        by_cases hc50_8 : (own_bi (own_inB M j)) = (0 : Int32)
        · skip
          refine OwnR.of (fun _ hr => XS.ifYes X6.here hx rfl (pc0 := 50) (pc' := 66) rfl (hb hby d7_50) rfl ((if0 _ _).trans (teq hc50_8).1) (by decide) (by decide) hr) ?_
          show OwnR _ _ _ _ _ _ _ (T6.setTop (mkF m 66 #[.val (.ref ea), .val (.ref ra), .val (.int (Int32.ofNat n)), .val (.int (Int32.ofNat i)), .val (.int (Int32.ofNat j)), .val (.int (own_bi (own_inB M i))), .val (.int (own_bi (own_inB M j))), .val (.int (own_pos n r i)), .val (.int (own_pos n r j))] []))
          refine OwnR.of (fun _ hr => XS.iload X6.here hx rfl (hb hby d7_66) rfl hr) ?_
          show OwnR _ _ _ _ _ _ _ (T6.setTop (mkF m 68 #[.val (.ref ea), .val (.ref ra), .val (.int (Int32.ofNat n)), .val (.int (Int32.ofNat i)), .val (.int (Int32.ofNat j)), .val (.int (own_bi (own_inB M i))), .val (.int (own_bi (own_inB M j))), .val (.int (own_pos n r i)), .val (.int (own_pos n r j))] [(.int (own_bi (own_inB M i)))]))
          refine OwnR.of (fun _ hr => XS.ifYes X6.here hx rfl (pc0 := 68) (pc' := 95) rfl (hb hby d7_68) rfl ((if0 _ _).trans (teq hc45_7).1) (by decide) (by decide) hr) ?_
          show OwnR _ _ _ _ _ _ _ (T6.setTop (mkF m 95 #[.val (.ref ea), .val (.ref ra), .val (.int (Int32.ofNat n)), .val (.int (Int32.ofNat i)), .val (.int (Int32.ofNat j)), .val (.int (own_bi (own_inB M i))), .val (.int (own_bi (own_inB M j))), .val (.int (own_pos n r i)), .val (.int (own_pos n r j))] []))
          refine OwnR.of (fun _ hr => XS.iload X6.here hx rfl (hb hby d7_95) rfl hr) ?_
          show OwnR _ _ _ _ _ _ _ (T6.setTop (mkF m 97 #[.val (.ref ea), .val (.ref ra), .val (.int (Int32.ofNat n)), .val (.int (Int32.ofNat i)), .val (.int (Int32.ofNat j)), .val (.int (own_bi (own_inB M i))), .val (.int (own_bi (own_inB M j))), .val (.int (own_pos n r i)), .val (.int (own_pos n r j))] [(.int (own_bi (own_inB M i)))]))
          refine OwnR.of (fun _ hr => XS.ifNo X6.here hx rfl (hb hby d7_97) rfl ((if0 _ _).trans (teq hc45_7).2) hr) ?_
          show OwnR _ _ _ _ _ _ _ (T6.setTop (mkF m 100 #[.val (.ref ea), .val (.ref ra), .val (.int (Int32.ofNat n)), .val (.int (Int32.ofNat i)), .val (.int (Int32.ofNat j)), .val (.int (own_bi (own_inB M i))), .val (.int (own_bi (own_inB M j))), .val (.int (own_pos n r i)), .val (.int (own_pos n r j))] []))
          refine OwnR.of (fun _ hr => XS.iload X6.here hx rfl (hb hby d7_100) rfl hr) ?_
          show OwnR _ _ _ _ _ _ _ (T6.setTop (mkF m 102 #[.val (.ref ea), .val (.ref ra), .val (.int (Int32.ofNat n)), .val (.int (Int32.ofNat i)), .val (.int (Int32.ofNat j)), .val (.int (own_bi (own_inB M i))), .val (.int (own_bi (own_inB M j))), .val (.int (own_pos n r i)), .val (.int (own_pos n r j))] [(.int (own_bi (own_inB M j)))]))
          refine OwnR.of (fun _ hr => XS.ifNo X6.here hx rfl (hb hby d7_102) rfl ((if0 _ _).trans (teq hc50_8).2) hr) ?_
          show OwnR _ _ _ _ _ _ _ (T6.setTop (mkF m 105 #[.val (.ref ea), .val (.ref ra), .val (.int (Int32.ofNat n)), .val (.int (Int32.ofNat i)), .val (.int (Int32.ofNat j)), .val (.int (own_bi (own_inB M i))), .val (.int (own_bi (own_inB M j))), .val (.int (own_pos n r i)), .val (.int (own_pos n r j))] []))
          refine OwnR.of (fun _ hr => XS.aloadN X6.here hx rfl (hb hby d7_105) rfl rfl hr) ?_
          show OwnR _ _ _ _ _ _ _ (T6.setTop (mkF m 106 #[.val (.ref ea), .val (.ref ra), .val (.int (Int32.ofNat n)), .val (.int (Int32.ofNat i)), .val (.int (Int32.ofNat j)), .val (.int (own_bi (own_inB M i))), .val (.int (own_bi (own_inB M j))), .val (.int (own_pos n r i)), .val (.int (own_pos n r j))] [(.ref ea)]))
          refine OwnR.of (fun _ hr => XS.iloadN X6.here hx rfl (hb hby d7_106) rfl hr) ?_
          show OwnR _ _ _ _ _ _ _ (T6.setTop (mkF m 107 #[.val (.ref ea), .val (.ref ra), .val (.int (Int32.ofNat n)), .val (.int (Int32.ofNat i)), .val (.int (Int32.ofNat j)), .val (.int (own_bi (own_inB M i))), .val (.int (own_bi (own_inB M j))), .val (.int (own_pos n r i)), .val (.int (own_pos n r j))] [(.int (Int32.ofNat i)), (.ref ea)]))
          refine OwnR.of (own_aaload rfl X6 hx hZ e6 EE.1 (own_c3 hi) (own_n3 hi) hi (v := .ref (D i)) rfl (g := (mkF m 107 #[.val (.ref ea), .val (.ref ra), .val (.int (Int32.ofNat n)), .val (.int (Int32.ofNat i)), .val (.int (Int32.ofNat j)), .val (.int (own_bi (own_inB M i))), .val (.int (own_bi (own_inB M j))), .val (.int (own_pos n r i)), .val (.int (own_pos n r j))] [(.int (Int32.ofNat i)), (.ref ea)])) rfl rfl (hb hby d7_107)) ?_
          show OwnR _ _ _ _ _ _ _ (T6.setTop (mkF m 108 #[.val (.ref ea), .val (.ref ra), .val (.int (Int32.ofNat n)), .val (.int (Int32.ofNat i)), .val (.int (Int32.ofNat j)), .val (.int (own_bi (own_inB M i))), .val (.int (own_bi (own_inB M j))), .val (.int (own_pos n r i)), .val (.int (own_pos n r j))] [(.ref (D i))]))
          refine OwnR.of (fun _ hr => XS.iload X6.here hx rfl (hb hby d7_108) rfl hr) ?_
          show OwnR _ _ _ _ _ _ _ (T6.setTop (mkF m 110 #[.val (.ref ea), .val (.ref ra), .val (.int (Int32.ofNat n)), .val (.int (Int32.ofNat i)), .val (.int (Int32.ofNat j)), .val (.int (own_bi (own_inB M i))), .val (.int (own_bi (own_inB M j))), .val (.int (own_pos n r i)), .val (.int (own_pos n r j))] [(.int (Int32.ofNat j)), (.ref (D i))]))
          refine OwnR.of (own_zaload X6 hx hZ e6 (EE.2 i hi) (own_c3 hj) (own_n3 hj) hj (v := .int (own_bi (own_e M i j))) rfl (g := (mkF m 110 #[.val (.ref ea), .val (.ref ra), .val (.int (Int32.ofNat n)), .val (.int (Int32.ofNat i)), .val (.int (Int32.ofNat j)), .val (.int (own_bi (own_inB M i))), .val (.int (own_bi (own_inB M j))), .val (.int (own_pos n r i)), .val (.int (own_pos n r j))] [(.int (Int32.ofNat j)), (.ref (D i))])) rfl rfl (hb hby d7_110)) ?_
          show OwnR _ _ _ _ _ _ _ (T6.setTop (mkF m 111 #[.val (.ref ea), .val (.ref ra), .val (.int (Int32.ofNat n)), .val (.int (Int32.ofNat i)), .val (.int (Int32.ofNat j)), .val (.int (own_bi (own_inB M i))), .val (.int (own_bi (own_inB M j))), .val (.int (own_pos n r i)), .val (.int (own_pos n r j))] [(.int (own_bi (own_e M i j)))]))
          by_cases hc111_9 : (own_bi (own_e M i j)) = (0 : Int32)
          · skip
            refine OwnR.of (fun _ hr => XS.ifYes X6.here hx rfl (pc0 := 111) (pc' := 127) rfl (hb hby d7_111) rfl ((if0 _ _).trans (teq hc111_9).1) (by decide) (by decide) hr) ?_
            show OwnR _ _ _ _ _ _ _ (T6.setTop (mkF m 127 #[.val (.ref ea), .val (.ref ra), .val (.int (Int32.ofNat n)), .val (.int (Int32.ofNat i)), .val (.int (Int32.ofNat j)), .val (.int (own_bi (own_inB M i))), .val (.int (own_bi (own_inB M j))), .val (.int (own_pos n r i)), .val (.int (own_pos n r j))] []))
            refine OwnR.of (fun _ hr => XS.iconst X6.here hx rfl (hb hby d7_127) hr) ?_
            show OwnR _ _ _ _ _ _ _ (T6.setTop (mkF m 128 #[.val (.ref ea), .val (.ref ra), .val (.int (Int32.ofNat n)), .val (.int (Int32.ofNat i)), .val (.int (Int32.ofNat j)), .val (.int (own_bi (own_inB M i))), .val (.int (own_bi (own_inB M j))), .val (.int (own_pos n r i)), .val (.int (own_pos n r j))] [(.int (1 : Int32))]))
            refine own_leafN X6 hx hlk (t := .boolean) Bd.returns (by simp) (hb hby d7_128) (z' := (1 : Int32)) rfl (by decide) (by decide) ?_
            show QPair Z M r n i j h0 n0 _ T6.heap _
            rw [show T6.heap = h0 from e6]
            refine ⟨?_, N6, rfl⟩
            show (some (.int (1 : Int32)) : Option Value) = some (.int (own_bi (own_pairOk M r n i j)))
            simp only [own_bi0, Bool.not_eq_false, own_lt3n hi hn4, own_lt3n hj hn4, own_lt33 hi hj, Nat.not_lt] at hc2_1 hc8_2 hc45_7 hc50_8 hc111_9
            simp [own_pairOk, own_bi, hc2_1, hc8_2, hc45_7, hc50_8, hc111_9]
          · skip
            refine OwnR.of (fun _ hr => XS.ifNo X6.here hx rfl (hb hby d7_111) rfl ((if0 _ _).trans (feq hc111_9).1) hr) ?_
            show OwnR _ _ _ _ _ _ _ (T6.setTop (mkF m 114 #[.val (.ref ea), .val (.ref ra), .val (.int (Int32.ofNat n)), .val (.int (Int32.ofNat i)), .val (.int (Int32.ofNat j)), .val (.int (own_bi (own_inB M i))), .val (.int (own_bi (own_inB M j))), .val (.int (own_pos n r i)), .val (.int (own_pos n r j))] []))
            refine OwnR.of (fun _ hr => XS.iload X6.here hx rfl (hb hby d7_114) rfl hr) ?_
            show OwnR _ _ _ _ _ _ _ (T6.setTop (mkF m 116 #[.val (.ref ea), .val (.ref ra), .val (.int (Int32.ofNat n)), .val (.int (Int32.ofNat i)), .val (.int (Int32.ofNat j)), .val (.int (own_bi (own_inB M i))), .val (.int (own_bi (own_inB M j))), .val (.int (own_pos n r i)), .val (.int (own_pos n r j))] [(.int (own_pos n r i))]))
            refine OwnR.of (fun _ hr => XS.iload X6.here hx rfl (hb hby d7_116) rfl hr) ?_
            show OwnR _ _ _ _ _ _ _ (T6.setTop (mkF m 118 #[.val (.ref ea), .val (.ref ra), .val (.int (Int32.ofNat n)), .val (.int (Int32.ofNat i)), .val (.int (Int32.ofNat j)), .val (.int (own_bi (own_inB M i))), .val (.int (own_bi (own_inB M j))), .val (.int (own_pos n r i)), .val (.int (own_pos n r j))] [(.int (own_pos n r j)), (.int (own_pos n r i))]))
            by_cases hc118_10 : (own_pos n r i) < (own_pos n r j)
            · skip
              refine OwnR.of (fun _ hr => XS.icmpNo X6.here hx rfl (hb hby d7_118) rfl (tlt hc118_10).2.1 hr) ?_
              show OwnR _ _ _ _ _ _ _ (T6.setTop (mkF m 121 #[.val (.ref ea), .val (.ref ra), .val (.int (Int32.ofNat n)), .val (.int (Int32.ofNat i)), .val (.int (Int32.ofNat j)), .val (.int (own_bi (own_inB M i))), .val (.int (own_bi (own_inB M j))), .val (.int (own_pos n r i)), .val (.int (own_pos n r j))] []))
              refine OwnR.of (fun _ hr => XS.iconst X6.here hx rfl (hb hby d7_121) hr) ?_
              show OwnR _ _ _ _ _ _ _ (T6.setTop (mkF m 122 #[.val (.ref ea), .val (.ref ra), .val (.int (Int32.ofNat n)), .val (.int (Int32.ofNat i)), .val (.int (Int32.ofNat j)), .val (.int (own_bi (own_inB M i))), .val (.int (own_bi (own_inB M j))), .val (.int (own_pos n r i)), .val (.int (own_pos n r j))] [(.int (1 : Int32))]))
              refine OwnR.of (fun _ hr => XS.goto X6.here hx rfl (pc0 := 122) (pc' := 126) rfl (hb hby d7_122) (by decide) (by decide) hr) ?_
              show OwnR _ _ _ _ _ _ _ (T6.setTop (mkF m 126 #[.val (.ref ea), .val (.ref ra), .val (.int (Int32.ofNat n)), .val (.int (Int32.ofNat i)), .val (.int (Int32.ofNat j)), .val (.int (own_bi (own_inB M i))), .val (.int (own_bi (own_inB M j))), .val (.int (own_pos n r i)), .val (.int (own_pos n r j))] [(.int (1 : Int32))]))
              refine own_leafN X6 hx hlk (t := .boolean) Bd.returns (by simp) (hb hby d7_126) (z' := (1 : Int32)) rfl (by decide) (by decide) ?_
              show QPair Z M r n i j h0 n0 _ T6.heap _
              rw [show T6.heap = h0 from e6]
              refine ⟨?_, N6, rfl⟩
              show (some (.int (1 : Int32)) : Option Value) = some (.int (own_bi (own_pairOk M r n i j)))
              simp only [own_bi0, Bool.not_eq_false, own_lt3n hi hn4, own_lt3n hj hn4, own_lt33 hi hj, Nat.not_lt] at hc2_1 hc8_2 hc45_7 hc50_8 hc111_9 hc118_10
              simp [own_pairOk, own_bi, hc2_1, hc8_2, hc45_7, hc50_8, hc111_9, hc118_10]
            · skip
              refine OwnR.of (fun _ hr => XS.icmpYes X6.here hx rfl (pc0 := 118) (pc' := 125) rfl (hb hby d7_118) rfl (flt hc118_10).2.1 (by decide) (by decide) hr) ?_
              show OwnR _ _ _ _ _ _ _ (T6.setTop (mkF m 125 #[.val (.ref ea), .val (.ref ra), .val (.int (Int32.ofNat n)), .val (.int (Int32.ofNat i)), .val (.int (Int32.ofNat j)), .val (.int (own_bi (own_inB M i))), .val (.int (own_bi (own_inB M j))), .val (.int (own_pos n r i)), .val (.int (own_pos n r j))] []))
              refine OwnR.of (fun _ hr => XS.iconst X6.here hx rfl (hb hby d7_125) hr) ?_
              show OwnR _ _ _ _ _ _ _ (T6.setTop (mkF m 126 #[.val (.ref ea), .val (.ref ra), .val (.int (Int32.ofNat n)), .val (.int (Int32.ofNat i)), .val (.int (Int32.ofNat j)), .val (.int (own_bi (own_inB M i))), .val (.int (own_bi (own_inB M j))), .val (.int (own_pos n r i)), .val (.int (own_pos n r j))] [(.int (0 : Int32))]))
              refine own_leafN X6 hx hlk (t := .boolean) Bd.returns (by simp) (hb hby d7_126) (z' := (0 : Int32)) rfl (by decide) (by decide) ?_
              show QPair Z M r n i j h0 n0 _ T6.heap _
              rw [show T6.heap = h0 from e6]
              refine ⟨?_, N6, rfl⟩
              show (some (.int (0 : Int32)) : Option Value) = some (.int (own_bi (own_pairOk M r n i j)))
              simp only [own_bi0, Bool.not_eq_false, own_lt3n hi hn4, own_lt3n hj hn4, own_lt33 hi hj, Nat.not_lt] at hc2_1 hc8_2 hc45_7 hc50_8 hc111_9 hc118_10
              simp [own_pairOk, own_bi, hc2_1, hc8_2, hc45_7, hc50_8, hc111_9, hc118_10]
        · skip
          refine OwnR.of (fun _ hr => XS.ifNo X6.here hx rfl (hb hby d7_50) rfl ((if0 _ _).trans (feq hc50_8).1) hr) ?_
          show OwnR _ _ _ _ _ _ _ (T6.setTop (mkF m 53 #[.val (.ref ea), .val (.ref ra), .val (.int (Int32.ofNat n)), .val (.int (Int32.ofNat i)), .val (.int (Int32.ofNat j)), .val (.int (own_bi (own_inB M i))), .val (.int (own_bi (own_inB M j))), .val (.int (own_pos n r i)), .val (.int (own_pos n r j))] []))
          refine OwnR.of (fun _ hr => XS.iload X6.here hx rfl (hb hby d7_53) rfl hr) ?_
          show OwnR _ _ _ _ _ _ _ (T6.setTop (mkF m 55 #[.val (.ref ea), .val (.ref ra), .val (.int (Int32.ofNat n)), .val (.int (Int32.ofNat i)), .val (.int (Int32.ofNat j)), .val (.int (own_bi (own_inB M i))), .val (.int (own_bi (own_inB M j))), .val (.int (own_pos n r i)), .val (.int (own_pos n r j))] [(.int (own_pos n r i))]))
          refine OwnR.of (fun _ hr => XS.iload X6.here hx rfl (hb hby d7_55) rfl hr) ?_
          show OwnR _ _ _ _ _ _ _ (T6.setTop (mkF m 57 #[.val (.ref ea), .val (.ref ra), .val (.int (Int32.ofNat n)), .val (.int (Int32.ofNat i)), .val (.int (Int32.ofNat j)), .val (.int (own_bi (own_inB M i))), .val (.int (own_bi (own_inB M j))), .val (.int (own_pos n r i)), .val (.int (own_pos n r j))] [(.int (own_pos n r j)), (.int (own_pos n r i))]))
          by_cases hc57_11 : (own_pos n r i) < (own_pos n r j)
          · skip
            refine OwnR.of (fun _ hr => XS.icmpNo X6.here hx rfl (hb hby d7_57) rfl (tlt hc57_11).2.1 hr) ?_
            show OwnR _ _ _ _ _ _ _ (T6.setTop (mkF m 60 #[.val (.ref ea), .val (.ref ra), .val (.int (Int32.ofNat n)), .val (.int (Int32.ofNat i)), .val (.int (Int32.ofNat j)), .val (.int (own_bi (own_inB M i))), .val (.int (own_bi (own_inB M j))), .val (.int (own_pos n r i)), .val (.int (own_pos n r j))] []))
            refine OwnR.of (fun _ hr => XS.iconst X6.here hx rfl (hb hby d7_60) hr) ?_
            show OwnR _ _ _ _ _ _ _ (T6.setTop (mkF m 61 #[.val (.ref ea), .val (.ref ra), .val (.int (Int32.ofNat n)), .val (.int (Int32.ofNat i)), .val (.int (Int32.ofNat j)), .val (.int (own_bi (own_inB M i))), .val (.int (own_bi (own_inB M j))), .val (.int (own_pos n r i)), .val (.int (own_pos n r j))] [(.int (1 : Int32))]))
            refine OwnR.of (fun _ hr => XS.goto X6.here hx rfl (pc0 := 61) (pc' := 65) rfl (hb hby d7_61) (by decide) (by decide) hr) ?_
            show OwnR _ _ _ _ _ _ _ (T6.setTop (mkF m 65 #[.val (.ref ea), .val (.ref ra), .val (.int (Int32.ofNat n)), .val (.int (Int32.ofNat i)), .val (.int (Int32.ofNat j)), .val (.int (own_bi (own_inB M i))), .val (.int (own_bi (own_inB M j))), .val (.int (own_pos n r i)), .val (.int (own_pos n r j))] [(.int (1 : Int32))]))
            refine own_leafN X6 hx hlk (t := .boolean) Bd.returns (by simp) (hb hby d7_65) (z' := (1 : Int32)) rfl (by decide) (by decide) ?_
            show QPair Z M r n i j h0 n0 _ T6.heap _
            rw [show T6.heap = h0 from e6]
            refine ⟨?_, N6, rfl⟩
            show (some (.int (1 : Int32)) : Option Value) = some (.int (own_bi (own_pairOk M r n i j)))
            simp only [own_bi0, Bool.not_eq_false, own_lt3n hi hn4, own_lt3n hj hn4, own_lt33 hi hj, Nat.not_lt] at hc2_1 hc8_2 hc45_7 hc50_8 hc57_11
            simp [own_pairOk, own_bi, hc2_1, hc8_2, hc45_7, hc50_8, hc57_11]
          · skip
            refine OwnR.of (fun _ hr => XS.icmpYes X6.here hx rfl (pc0 := 57) (pc' := 64) rfl (hb hby d7_57) rfl (flt hc57_11).2.1 (by decide) (by decide) hr) ?_
            show OwnR _ _ _ _ _ _ _ (T6.setTop (mkF m 64 #[.val (.ref ea), .val (.ref ra), .val (.int (Int32.ofNat n)), .val (.int (Int32.ofNat i)), .val (.int (Int32.ofNat j)), .val (.int (own_bi (own_inB M i))), .val (.int (own_bi (own_inB M j))), .val (.int (own_pos n r i)), .val (.int (own_pos n r j))] []))
            refine OwnR.of (fun _ hr => XS.iconst X6.here hx rfl (hb hby d7_64) hr) ?_
            show OwnR _ _ _ _ _ _ _ (T6.setTop (mkF m 65 #[.val (.ref ea), .val (.ref ra), .val (.int (Int32.ofNat n)), .val (.int (Int32.ofNat i)), .val (.int (Int32.ofNat j)), .val (.int (own_bi (own_inB M i))), .val (.int (own_bi (own_inB M j))), .val (.int (own_pos n r i)), .val (.int (own_pos n r j))] [(.int (0 : Int32))]))
            refine own_leafN X6 hx hlk (t := .boolean) Bd.returns (by simp) (hb hby d7_65) (z' := (0 : Int32)) rfl (by decide) (by decide) ?_
            show QPair Z M r n i j h0 n0 _ T6.heap _
            rw [show T6.heap = h0 from e6]
            refine ⟨?_, N6, rfl⟩
            show (some (.int (0 : Int32)) : Option Value) = some (.int (own_bi (own_pairOk M r n i j)))
            simp only [own_bi0, Bool.not_eq_false, own_lt3n hi hn4, own_lt3n hj hn4, own_lt33 hi hj, Nat.not_lt] at hc2_1 hc8_2 hc45_7 hc50_8 hc57_11
            simp [own_pairOk, own_bi, hc2_1, hc8_2, hc45_7, hc50_8, hc57_11]
      · skip
        refine OwnR.of (fun _ hr => XS.ifYes X6.here hx rfl (pc0 := 45) (pc' := 66) rfl (hb hby d7_45) rfl ((if0 _ _).trans (feq hc45_7).2) (by decide) (by decide) hr) ?_
        show OwnR _ _ _ _ _ _ _ (T6.setTop (mkF m 66 #[.val (.ref ea), .val (.ref ra), .val (.int (Int32.ofNat n)), .val (.int (Int32.ofNat i)), .val (.int (Int32.ofNat j)), .val (.int (own_bi (own_inB M i))), .val (.int (own_bi (own_inB M j))), .val (.int (own_pos n r i)), .val (.int (own_pos n r j))] []))
        refine OwnR.of (fun _ hr => XS.iload X6.here hx rfl (hb hby d7_66) rfl hr) ?_
        show OwnR _ _ _ _ _ _ _ (T6.setTop (mkF m 68 #[.val (.ref ea), .val (.ref ra), .val (.int (Int32.ofNat n)), .val (.int (Int32.ofNat i)), .val (.int (Int32.ofNat j)), .val (.int (own_bi (own_inB M i))), .val (.int (own_bi (own_inB M j))), .val (.int (own_pos n r i)), .val (.int (own_pos n r j))] [(.int (own_bi (own_inB M i)))]))
        refine OwnR.of (fun _ hr => XS.ifNo X6.here hx rfl (hb hby d7_68) rfl ((if0 _ _).trans (feq hc45_7).1) hr) ?_
        show OwnR _ _ _ _ _ _ _ (T6.setTop (mkF m 71 #[.val (.ref ea), .val (.ref ra), .val (.int (Int32.ofNat n)), .val (.int (Int32.ofNat i)), .val (.int (Int32.ofNat j)), .val (.int (own_bi (own_inB M i))), .val (.int (own_bi (own_inB M j))), .val (.int (own_pos n r i)), .val (.int (own_pos n r j))] []))
        refine OwnR.of (fun _ hr => XS.iload X6.here hx rfl (hb hby d7_71) rfl hr) ?_
        show OwnR _ _ _ _ _ _ _ (T6.setTop (mkF m 73 #[.val (.ref ea), .val (.ref ra), .val (.int (Int32.ofNat n)), .val (.int (Int32.ofNat i)), .val (.int (Int32.ofNat j)), .val (.int (own_bi (own_inB M i))), .val (.int (own_bi (own_inB M j))), .val (.int (own_pos n r i)), .val (.int (own_pos n r j))] [(.int (own_bi (own_inB M j)))]))
        by_cases hc73_12 : (own_bi (own_inB M j)) = (0 : Int32)
        · skip
          refine OwnR.of (fun _ hr => XS.ifYes X6.here hx rfl (pc0 := 73) (pc' := 95) rfl (hb hby d7_73) rfl ((if0 _ _).trans (teq hc73_12).1) (by decide) (by decide) hr) ?_
          show OwnR _ _ _ _ _ _ _ (T6.setTop (mkF m 95 #[.val (.ref ea), .val (.ref ra), .val (.int (Int32.ofNat n)), .val (.int (Int32.ofNat i)), .val (.int (Int32.ofNat j)), .val (.int (own_bi (own_inB M i))), .val (.int (own_bi (own_inB M j))), .val (.int (own_pos n r i)), .val (.int (own_pos n r j))] []))
          refine OwnR.of (fun _ hr => XS.iload X6.here hx rfl (hb hby d7_95) rfl hr) ?_
          show OwnR _ _ _ _ _ _ _ (T6.setTop (mkF m 97 #[.val (.ref ea), .val (.ref ra), .val (.int (Int32.ofNat n)), .val (.int (Int32.ofNat i)), .val (.int (Int32.ofNat j)), .val (.int (own_bi (own_inB M i))), .val (.int (own_bi (own_inB M j))), .val (.int (own_pos n r i)), .val (.int (own_pos n r j))] [(.int (own_bi (own_inB M i)))]))
          refine OwnR.of (fun _ hr => XS.ifYes X6.here hx rfl (pc0 := 97) (pc' := 127) rfl (hb hby d7_97) rfl ((if0 _ _).trans (feq hc45_7).2) (by decide) (by decide) hr) ?_
          show OwnR _ _ _ _ _ _ _ (T6.setTop (mkF m 127 #[.val (.ref ea), .val (.ref ra), .val (.int (Int32.ofNat n)), .val (.int (Int32.ofNat i)), .val (.int (Int32.ofNat j)), .val (.int (own_bi (own_inB M i))), .val (.int (own_bi (own_inB M j))), .val (.int (own_pos n r i)), .val (.int (own_pos n r j))] []))
          refine OwnR.of (fun _ hr => XS.iconst X6.here hx rfl (hb hby d7_127) hr) ?_
          show OwnR _ _ _ _ _ _ _ (T6.setTop (mkF m 128 #[.val (.ref ea), .val (.ref ra), .val (.int (Int32.ofNat n)), .val (.int (Int32.ofNat i)), .val (.int (Int32.ofNat j)), .val (.int (own_bi (own_inB M i))), .val (.int (own_bi (own_inB M j))), .val (.int (own_pos n r i)), .val (.int (own_pos n r j))] [(.int (1 : Int32))]))
          refine own_leafN X6 hx hlk (t := .boolean) Bd.returns (by simp) (hb hby d7_128) (z' := (1 : Int32)) rfl (by decide) (by decide) ?_
          show QPair Z M r n i j h0 n0 _ T6.heap _
          rw [show T6.heap = h0 from e6]
          refine ⟨?_, N6, rfl⟩
          show (some (.int (1 : Int32)) : Option Value) = some (.int (own_bi (own_pairOk M r n i j)))
          simp only [own_bi0, Bool.not_eq_false, own_lt3n hi hn4, own_lt3n hj hn4, own_lt33 hi hj, Nat.not_lt] at hc2_1 hc8_2 hc45_7 hc73_12
          simp [own_pairOk, own_bi, hc2_1, hc8_2, hc45_7, hc73_12]
        · skip
          refine OwnR.of (fun _ hr => XS.ifNo X6.here hx rfl (hb hby d7_73) rfl ((if0 _ _).trans (feq hc73_12).1) hr) ?_
          show OwnR _ _ _ _ _ _ _ (T6.setTop (mkF m 76 #[.val (.ref ea), .val (.ref ra), .val (.int (Int32.ofNat n)), .val (.int (Int32.ofNat i)), .val (.int (Int32.ofNat j)), .val (.int (own_bi (own_inB M i))), .val (.int (own_bi (own_inB M j))), .val (.int (own_pos n r i)), .val (.int (own_pos n r j))] []))
          refine OwnR.of (fun _ hr => XS.iloadN X6.here hx rfl (hb hby d7_76) rfl hr) ?_
          show OwnR _ _ _ _ _ _ _ (T6.setTop (mkF m 77 #[.val (.ref ea), .val (.ref ra), .val (.int (Int32.ofNat n)), .val (.int (Int32.ofNat i)), .val (.int (Int32.ofNat j)), .val (.int (own_bi (own_inB M i))), .val (.int (own_bi (own_inB M j))), .val (.int (own_pos n r i)), .val (.int (own_pos n r j))] [(.int (Int32.ofNat i))]))
          refine OwnR.of (fun _ hr => XS.iload X6.here hx rfl (hb hby d7_77) rfl hr) ?_
          show OwnR _ _ _ _ _ _ _ (T6.setTop (mkF m 79 #[.val (.ref ea), .val (.ref ra), .val (.int (Int32.ofNat n)), .val (.int (Int32.ofNat i)), .val (.int (Int32.ofNat j)), .val (.int (own_bi (own_inB M i))), .val (.int (own_bi (own_inB M j))), .val (.int (own_pos n r i)), .val (.int (own_pos n r j))] [(.int (Int32.ofNat j)), (.int (Int32.ofNat i))]))
          by_cases hc79_13 : (Int32.ofNat i) < (Int32.ofNat j)
          · skip
            refine OwnR.of (fun _ hr => XS.icmpNo X6.here hx rfl (hb hby d7_79) rfl (tlt hc79_13).2.1 hr) ?_
            show OwnR _ _ _ _ _ _ _ (T6.setTop (mkF m 82 #[.val (.ref ea), .val (.ref ra), .val (.int (Int32.ofNat n)), .val (.int (Int32.ofNat i)), .val (.int (Int32.ofNat j)), .val (.int (own_bi (own_inB M i))), .val (.int (own_bi (own_inB M j))), .val (.int (own_pos n r i)), .val (.int (own_pos n r j))] []))
            refine OwnR.of (fun _ hr => XS.iload X6.here hx rfl (hb hby d7_82) rfl hr) ?_
            show OwnR _ _ _ _ _ _ _ (T6.setTop (mkF m 84 #[.val (.ref ea), .val (.ref ra), .val (.int (Int32.ofNat n)), .val (.int (Int32.ofNat i)), .val (.int (Int32.ofNat j)), .val (.int (own_bi (own_inB M i))), .val (.int (own_bi (own_inB M j))), .val (.int (own_pos n r i)), .val (.int (own_pos n r j))] [(.int (own_pos n r i))]))
            refine OwnR.of (fun _ hr => XS.iload X6.here hx rfl (hb hby d7_84) rfl hr) ?_
            show OwnR _ _ _ _ _ _ _ (T6.setTop (mkF m 86 #[.val (.ref ea), .val (.ref ra), .val (.int (Int32.ofNat n)), .val (.int (Int32.ofNat i)), .val (.int (Int32.ofNat j)), .val (.int (own_bi (own_inB M i))), .val (.int (own_bi (own_inB M j))), .val (.int (own_pos n r i)), .val (.int (own_pos n r j))] [(.int (own_pos n r j)), (.int (own_pos n r i))]))
            by_cases hc86_14 : (own_pos n r i) < (own_pos n r j)
            · skip
              refine OwnR.of (fun _ hr => XS.icmpNo X6.here hx rfl (hb hby d7_86) rfl (tlt hc86_14).2.1 hr) ?_
              show OwnR _ _ _ _ _ _ _ (T6.setTop (mkF m 89 #[.val (.ref ea), .val (.ref ra), .val (.int (Int32.ofNat n)), .val (.int (Int32.ofNat i)), .val (.int (Int32.ofNat j)), .val (.int (own_bi (own_inB M i))), .val (.int (own_bi (own_inB M j))), .val (.int (own_pos n r i)), .val (.int (own_pos n r j))] []))
              refine OwnR.of (fun _ hr => XS.iconst X6.here hx rfl (hb hby d7_89) hr) ?_
              show OwnR _ _ _ _ _ _ _ (T6.setTop (mkF m 90 #[.val (.ref ea), .val (.ref ra), .val (.int (Int32.ofNat n)), .val (.int (Int32.ofNat i)), .val (.int (Int32.ofNat j)), .val (.int (own_bi (own_inB M i))), .val (.int (own_bi (own_inB M j))), .val (.int (own_pos n r i)), .val (.int (own_pos n r j))] [(.int (1 : Int32))]))
              refine OwnR.of (fun _ hr => XS.goto X6.here hx rfl (pc0 := 90) (pc' := 94) rfl (hb hby d7_90) (by decide) (by decide) hr) ?_
              show OwnR _ _ _ _ _ _ _ (T6.setTop (mkF m 94 #[.val (.ref ea), .val (.ref ra), .val (.int (Int32.ofNat n)), .val (.int (Int32.ofNat i)), .val (.int (Int32.ofNat j)), .val (.int (own_bi (own_inB M i))), .val (.int (own_bi (own_inB M j))), .val (.int (own_pos n r i)), .val (.int (own_pos n r j))] [(.int (1 : Int32))]))
              refine own_leafN X6 hx hlk (t := .boolean) Bd.returns (by simp) (hb hby d7_94) (z' := (1 : Int32)) rfl (by decide) (by decide) ?_
              show QPair Z M r n i j h0 n0 _ T6.heap _
              rw [show T6.heap = h0 from e6]
              refine ⟨?_, N6, rfl⟩
              show (some (.int (1 : Int32)) : Option Value) = some (.int (own_bi (own_pairOk M r n i j)))
              simp only [own_bi0, Bool.not_eq_false, own_lt3n hi hn4, own_lt3n hj hn4, own_lt33 hi hj, Nat.not_lt] at hc2_1 hc8_2 hc45_7 hc73_12 hc79_13 hc86_14
              simp [own_pairOk, own_bi, hc2_1, hc8_2, hc45_7, hc73_12, hc79_13, hc86_14]
            · skip
              refine OwnR.of (fun _ hr => XS.icmpYes X6.here hx rfl (pc0 := 86) (pc' := 93) rfl (hb hby d7_86) rfl (flt hc86_14).2.1 (by decide) (by decide) hr) ?_
              show OwnR _ _ _ _ _ _ _ (T6.setTop (mkF m 93 #[.val (.ref ea), .val (.ref ra), .val (.int (Int32.ofNat n)), .val (.int (Int32.ofNat i)), .val (.int (Int32.ofNat j)), .val (.int (own_bi (own_inB M i))), .val (.int (own_bi (own_inB M j))), .val (.int (own_pos n r i)), .val (.int (own_pos n r j))] []))
              refine OwnR.of (fun _ hr => XS.iconst X6.here hx rfl (hb hby d7_93) hr) ?_
              show OwnR _ _ _ _ _ _ _ (T6.setTop (mkF m 94 #[.val (.ref ea), .val (.ref ra), .val (.int (Int32.ofNat n)), .val (.int (Int32.ofNat i)), .val (.int (Int32.ofNat j)), .val (.int (own_bi (own_inB M i))), .val (.int (own_bi (own_inB M j))), .val (.int (own_pos n r i)), .val (.int (own_pos n r j))] [(.int (0 : Int32))]))
              refine own_leafN X6 hx hlk (t := .boolean) Bd.returns (by simp) (hb hby d7_94) (z' := (0 : Int32)) rfl (by decide) (by decide) ?_
              show QPair Z M r n i j h0 n0 _ T6.heap _
              rw [show T6.heap = h0 from e6]
              refine ⟨?_, N6, rfl⟩
              show (some (.int (0 : Int32)) : Option Value) = some (.int (own_bi (own_pairOk M r n i j)))
              simp only [own_bi0, Bool.not_eq_false, own_lt3n hi hn4, own_lt3n hj hn4, own_lt33 hi hj, Nat.not_lt] at hc2_1 hc8_2 hc45_7 hc73_12 hc79_13 hc86_14
              simp [own_pairOk, own_bi, hc2_1, hc8_2, hc45_7, hc73_12, hc79_13, hc86_14]
          · skip
            refine OwnR.of (fun _ hr => XS.icmpYes X6.here hx rfl (pc0 := 79) (pc' := 95) rfl (hb hby d7_79) rfl (flt hc79_13).2.1 (by decide) (by decide) hr) ?_
            show OwnR _ _ _ _ _ _ _ (T6.setTop (mkF m 95 #[.val (.ref ea), .val (.ref ra), .val (.int (Int32.ofNat n)), .val (.int (Int32.ofNat i)), .val (.int (Int32.ofNat j)), .val (.int (own_bi (own_inB M i))), .val (.int (own_bi (own_inB M j))), .val (.int (own_pos n r i)), .val (.int (own_pos n r j))] []))
            refine OwnR.of (fun _ hr => XS.iload X6.here hx rfl (hb hby d7_95) rfl hr) ?_
            show OwnR _ _ _ _ _ _ _ (T6.setTop (mkF m 97 #[.val (.ref ea), .val (.ref ra), .val (.int (Int32.ofNat n)), .val (.int (Int32.ofNat i)), .val (.int (Int32.ofNat j)), .val (.int (own_bi (own_inB M i))), .val (.int (own_bi (own_inB M j))), .val (.int (own_pos n r i)), .val (.int (own_pos n r j))] [(.int (own_bi (own_inB M i)))]))
            refine OwnR.of (fun _ hr => XS.ifYes X6.here hx rfl (pc0 := 97) (pc' := 127) rfl (hb hby d7_97) rfl ((if0 _ _).trans (feq hc45_7).2) (by decide) (by decide) hr) ?_
            show OwnR _ _ _ _ _ _ _ (T6.setTop (mkF m 127 #[.val (.ref ea), .val (.ref ra), .val (.int (Int32.ofNat n)), .val (.int (Int32.ofNat i)), .val (.int (Int32.ofNat j)), .val (.int (own_bi (own_inB M i))), .val (.int (own_bi (own_inB M j))), .val (.int (own_pos n r i)), .val (.int (own_pos n r j))] []))
            refine OwnR.of (fun _ hr => XS.iconst X6.here hx rfl (hb hby d7_127) hr) ?_
            show OwnR _ _ _ _ _ _ _ (T6.setTop (mkF m 128 #[.val (.ref ea), .val (.ref ra), .val (.int (Int32.ofNat n)), .val (.int (Int32.ofNat i)), .val (.int (Int32.ofNat j)), .val (.int (own_bi (own_inB M i))), .val (.int (own_bi (own_inB M j))), .val (.int (own_pos n r i)), .val (.int (own_pos n r j))] [(.int (1 : Int32))]))
            refine own_leafN X6 hx hlk (t := .boolean) Bd.returns (by simp) (hb hby d7_128) (z' := (1 : Int32)) rfl (by decide) (by decide) ?_
            show QPair Z M r n i j h0 n0 _ T6.heap _
            rw [show T6.heap = h0 from e6]
            refine ⟨?_, N6, rfl⟩
            show (some (.int (1 : Int32)) : Option Value) = some (.int (own_bi (own_pairOk M r n i j)))
            simp only [own_bi0, Bool.not_eq_false, own_lt3n hi hn4, own_lt3n hj hn4, own_lt33 hi hj, Nat.not_lt] at hc2_1 hc8_2 hc45_7 hc73_12 hc79_13
            simp [own_pairOk, own_bi, hc2_1, hc8_2, hc45_7, hc73_12, hc79_13]
    · skip
      refine OwnR.of (fun _ hr => XS.icmpNo X0.here hx rfl (hb hby d7_8) rfl (flt hc8_2).1 hr) ?_
      show OwnR _ _ _ _ _ _ _ (s₁.setTop (mkF m 11 #[.val (.ref ea), .val (.ref ra), .val (.int (Int32.ofNat n)), .val (.int (Int32.ofNat i)), .val (.int (Int32.ofNat j)), .unset, .unset, .unset, .unset] []))
      refine OwnR.of (fun _ hr => XS.iconst X0.here hx rfl (hb hby d7_11) hr) ?_
      show OwnR _ _ _ _ _ _ _ (s₁.setTop (mkF m 12 #[.val (.ref ea), .val (.ref ra), .val (.int (Int32.ofNat n)), .val (.int (Int32.ofNat i)), .val (.int (Int32.ofNat j)), .unset, .unset, .unset, .unset] [(.int (1 : Int32))]))
      refine own_leafN X0 hx hlk (t := .boolean) Bd.returns (by simp) (hb hby d7_12) (z' := (1 : Int32)) rfl (by decide) (by decide) ?_
      show QPair Z M r n i j h0 n0 _ s₁.heap _
      rw [show s₁.heap = h0 from e0]
      refine ⟨?_, N0, rfl⟩
      show (some (.int (1 : Int32)) : Option Value) = some (.int (own_bi (own_pairOk M r n i j)))
      simp only [own_bi0, Bool.not_eq_false, own_lt3n hi hn4, own_lt3n hj hn4, own_lt33 hi hj, Nat.not_lt] at hc2_1 hc8_2
      simp [own_pairOk, own_bi, hc2_1, hc8_2]
  · skip
    refine OwnR.of (fun _ hr => XS.icmpYes X0.here hx rfl (pc0 := 2) (pc' := 11) rfl (hb hby d7_2) rfl (flt hc2_1).2.1 (by decide) (by decide) hr) ?_
    show OwnR _ _ _ _ _ _ _ (s₁.setTop (mkF m 11 #[.val (.ref ea), .val (.ref ra), .val (.int (Int32.ofNat n)), .val (.int (Int32.ofNat i)), .val (.int (Int32.ofNat j)), .unset, .unset, .unset, .unset] []))
    refine OwnR.of (fun _ hr => XS.iconst X0.here hx rfl (hb hby d7_11) hr) ?_
    show OwnR _ _ _ _ _ _ _ (s₁.setTop (mkF m 12 #[.val (.ref ea), .val (.ref ra), .val (.int (Int32.ofNat n)), .val (.int (Int32.ofNat i)), .val (.int (Int32.ofNat j)), .unset, .unset, .unset, .unset] [(.int (1 : Int32))]))
    refine own_leafN X0 hx hlk (t := .boolean) Bd.returns (by simp) (hb hby d7_12) (z' := (1 : Int32)) rfl (by decide) (by decide) ?_
    show QPair Z M r n i j h0 n0 _ s₁.heap _
    rw [show s₁.heap = h0 from e0]
    refine ⟨?_, N0, rfl⟩
    show (some (.int (1 : Int32)) : Option Value) = some (.int (own_bi (own_pairOk M r n i j)))
    simp only [own_bi0, Bool.not_eq_false, own_lt3n hi hn4, own_lt3n hj hn4, own_lt33 hi hj, Nat.not_lt] at hc2_1
    simp [own_pairOk, own_bi, hc2_1]
theorem pn_jdk_internal_util_Preconditions : plainName "jdk/internal/util/Preconditions" = true := by first | (simp [plainName, overriddenIn]; done) | decide +kernel
theorem ef_rmPre (m : MethodId) (x0 : Int32) (x1 : Int32) : entryFrame m #[(.int x0), (.int x1), .null] 3 = mkF m 0 #[.val (.int x0), .val (.int x1), .val .null] [] := by first | (simp [entryFrame, mkF, argsToLocals, Value.category]; done) | rfl
theorem d17_0 : decode jdk_41_method_11_code 0 = .ok (.iload_n 0, 1) := by decide +kernel
theorem d17_1 : decode jdk_41_method_11_code 1 = .ok (.ifCond .lt 8, 3) := by decide +kernel
theorem d17_4 : decode jdk_41_method_11_code 4 = .ok (.iload_n 0, 1) := by decide +kernel
theorem d17_5 : decode jdk_41_method_11_code 5 = .ok (.iload_n 1, 1) := by decide +kernel
theorem d17_6 : decode jdk_41_method_11_code 6 = .ok (.if_icmp .lt 10, 3) := by decide +kernel
theorem d17_16 : decode jdk_41_method_11_code 16 = .ok (.iload_n 0, 1) := by decide +kernel
theorem d17_17 : decode jdk_41_method_11_code 17 = .ok (.ireturn, 1) := by decide +kernel
def QPre (Z : State) (p1 : Int32) (h0 : Heap) (n0 : Nat) (v : Option Value) (h : Heap) (L : List Loc) : Prop := v = some (.int p1) ∧ Fr n0 L ∧ h = h0
set_option maxRecDepth 65536 in
set_option maxHeartbeats 40000000 in
theorem rmPre (l : Launch) (Z : State) (a0 : Array Value) (hw : ∀ d ∈ tables_1, d.before a0 Z = true) (ws : List Jvm.Cond) (p1 : Int32) (p2 : Int32) (h0 : Heap) (n0 : Nat) (Z0 : n0 ≤ h0.size) (hn0 : ¬ p1 < (0 : Int32)) (hlt : p1 < p2) :
    MetFree l (⟨"jdk/internal/util/Preconditions", "checkIndex", "(IILjava/util/function/BiFunction;)I"⟩ : MethodName) (head1 (Jvm.Cond.code (⟨"jdk/internal/util/Preconditions", "checkIndex", "(IILjava/util/function/BiFunction;)I"⟩ : MethodName) jdk_41_method_11_code 3 (some .int) :: ws) ({ frames := 0, cells := 0, slots := 0, locals := 0 } : Room)) (fun a U => a = #[(.int p1), (.int p2), .null] ∧ Z.Warmed39 U.vm ∧ U.heap = h0) (fun _ _ _ _ _ => True) (fun _ U o U' => ∃ v L, o = .returned v ∧ QPre Z p1 h0 n0 v U'.heap L ∧ FrameEnd U o U' L ({ frames := 0, cells := 0, slots := 0, locals := 0 } : Room).cells ({ frames := 0, cells := 0, slots := 0, locals := 0 } : Room).slots) := by
  refine MetFree.of_bodySF (plainFor_of_name pn_jdk_internal_util_Preconditions) hisR ?_
  intro p e s m args below meth c s₁ Bd hml0 hP hK
  obtain ⟨rfl, hZ, hh⟩ := hP
  have hx := Bd.exec
  have hby := Bd.bytes
  have hlk := BodyLoose.notSynchronized Bd
  have hml : c.maxLocals = 3 := hml0
  have hown : s.vm.findClass "jdk/internal/util/Preconditions" = some m.cls := findClass_of_methodNamed Bd.named
  have hnm := (name_of_methodNamed Bd.named Bd.method).1
  have X0 : Stand p l e ({ frames := 0, cells := 0, slots := 0, locals := 0 } : Room) s m #[(.int p1), (.int p2), .null] below meth c s₁ [] 0 0 := Stand.of_body Bd
  have e0 : s₁.heap = h0 := by rw [← hh, Bd.state]; rfl
  have N0 := Fr.nil n0
  refine OwnR.of (s := s) (Q := QPre Z p1 h0 n0) (fun t k => castTop (ef_rmPre m p1 p2) k) ?_
  show OwnR _ _ _ _ _ _ _ (s₁.setTop (mkF m 0 #[.val (.int p1), .val (.int p2), .val .null] []))
  refine OwnR.of (fun _ hr => XS.iloadN X0.here hx rfl (hb hby d17_0) rfl hr) ?_
  show OwnR _ _ _ _ _ _ _ (s₁.setTop (mkF m 1 #[.val (.int p1), .val (.int p2), .val .null] [(.int p1)]))
  refine OwnR.of (fun _ hr => XS.ifNo X0.here hx rfl (hb hby d17_1) rfl ((if0 _ _).trans (flt hn0).1) hr) ?_
  show OwnR _ _ _ _ _ _ _ (s₁.setTop (mkF m 4 #[.val (.int p1), .val (.int p2), .val .null] []))
  refine OwnR.of (fun _ hr => XS.iloadN X0.here hx rfl (hb hby d17_4) rfl hr) ?_
  show OwnR _ _ _ _ _ _ _ (s₁.setTop (mkF m 5 #[.val (.int p1), .val (.int p2), .val .null] [(.int p1)]))
  refine OwnR.of (fun _ hr => XS.iloadN X0.here hx rfl (hb hby d17_5) rfl hr) ?_
  show OwnR _ _ _ _ _ _ _ (s₁.setTop (mkF m 6 #[.val (.int p1), .val (.int p2), .val .null] [(.int p2), (.int p1)]))
  refine OwnR.of (fun _ hr => XS.icmpYes X0.here hx rfl (pc0 := 6) (pc' := 16) rfl (hb hby d17_6) rfl (tlt hlt).1 (by decide) (by decide) hr) ?_
  show OwnR _ _ _ _ _ _ _ (s₁.setTop (mkF m 16 #[.val (.int p1), .val (.int p2), .val .null] []))
  refine OwnR.of (fun _ hr => XS.iloadN X0.here hx rfl (hb hby d17_16) rfl hr) ?_
  show OwnR _ _ _ _ _ _ _ (s₁.setTop (mkF m 17 #[.val (.int p1), .val (.int p2), .val .null] [(.int p1)]))
  refine own_leafI X0 hx hlk Bd.returns (hb hby d17_17) (by decide) (by decide) ?_
  show QPre Z p1 h0 n0 _ s₁.heap _
  rw [show s₁.heap = h0 from e0]
  refine ⟨?_, N0, rfl⟩
  show (some (.int p1) : Option Value) = some (.int p1)
  rfl
theorem pn_java_util_Objects : plainName "java/util/Objects" = true := by first | (simp [plainName, overriddenIn]; done) | decide +kernel
theorem ef_rmChk (m : MethodId) (x0 : Int32) (x1 : Int32) : entryFrame m #[(.int x0), (.int x1)] 2 = mkF m 0 #[.val (.int x0), .val (.int x1)] [] := by first | (simp [entryFrame, mkF, argsToLocals, Value.category]; done) | rfl
theorem d16_0 : decode jdk_31_method_17_code 0 = .ok (.iload_n 0, 1) := by decide +kernel
theorem d16_1 : decode jdk_31_method_17_code 1 = .ok (.iload_n 1, 1) := by decide +kernel
theorem d16_2 : decode jdk_31_method_17_code 2 = .ok (.aconst_null, 1) := by decide +kernel
theorem d16_3 : decode jdk_31_method_17_code 3 = .ok (.invokestatic 105, 3) := by decide +kernel
theorem pd__IILjava_util_function_BiFunction__I : parseMethodDescriptor "(IILjava/util/function/BiFunction;)I" = some ⟨[.int, .int, (.object "java/util/function/BiFunction")], some .int⟩ := by decide +kernel
theorem d16_6 : decode jdk_31_method_17_code 6 = .ok (.ireturn, 1) := by decide +kernel
def QChk (Z : State) (p1 : Int32) (h0 : Heap) (n0 : Nat) (v : Option Value) (h : Heap) (L : List Loc) : Prop := v = some (.int p1) ∧ Fr n0 L ∧ h = h0
set_option maxRecDepth 65536 in
set_option maxHeartbeats 40000000 in
theorem rmChk (l : Launch) (Z : State) (a0 : Array Value) (hw : ∀ d ∈ tables_1, d.before a0 Z = true) (ws : List Jvm.Cond) (p1 : Int32) (p2 : Int32) (h0 : Heap) (n0 : Nat) (Z0 : n0 ≤ h0.size) (hn0 : ¬ p1 < (0 : Int32)) (hlt : p1 < p2) :
    MetFree l (⟨"java/util/Objects", "checkIndex", "(II)I"⟩ : MethodName) (head1 (Jvm.Cond.code (⟨"java/util/Objects", "checkIndex", "(II)I"⟩ : MethodName) jdk_31_method_17_code 2 (some .int) :: ws) ({ frames := 1, cells := 0, slots := 0, locals := 20 } : Room)) (fun a U => a = #[(.int p1), (.int p2)] ∧ Z.Warmed39 U.vm ∧ U.heap = h0) (fun _ _ _ _ _ => True) (fun _ U o U' => ∃ v L, o = .returned v ∧ QChk Z p1 h0 n0 v U'.heap L ∧ FrameEnd U o U' L ({ frames := 1, cells := 0, slots := 0, locals := 20 } : Room).cells ({ frames := 1, cells := 0, slots := 0, locals := 20 } : Room).slots) := by
  refine MetFree.of_bodySF (plainFor_of_name pn_java_util_Objects) hisR ?_
  intro p e s m args below meth c s₁ Bd hml0 hP hK
  obtain ⟨rfl, hZ, hh⟩ := hP
  have hx := Bd.exec
  have hby := Bd.bytes
  have hlk := BodyLoose.notSynchronized Bd
  have hml : c.maxLocals = 2 := hml0
  have hown : s.vm.findClass "java/util/Objects" = some m.cls := findClass_of_methodNamed Bd.named
  have hnm := (name_of_methodNamed Bd.named Bd.method).1
  have X0 : Stand p l e ({ frames := 1, cells := 0, slots := 0, locals := 20 } : Room) s m #[(.int p1), (.int p2)] below meth c s₁ [] 0 0 := Stand.of_body Bd
  have e0 : s₁.heap = h0 := by rw [← hh, Bd.state]; rfl
  have N0 := Fr.nil n0
  refine OwnR.of (s := s) (Q := QChk Z p1 h0 n0) (fun t k => castTop (ef_rmChk m p1 p2) k) ?_
  show OwnR _ _ _ _ _ _ _ (s₁.setTop (mkF m 0 #[.val (.int p1), .val (.int p2)] []))
  refine OwnR.of (fun _ hr => XS.iloadN X0.here hx rfl (hb hby d16_0) rfl hr) ?_
  show OwnR _ _ _ _ _ _ _ (s₁.setTop (mkF m 1 #[.val (.int p1), .val (.int p2)] [(.int p1)]))
  refine OwnR.of (fun _ hr => XS.iloadN X0.here hx rfl (hb hby d16_1) rfl hr) ?_
  show OwnR _ _ _ _ _ _ _ (s₁.setTop (mkF m 2 #[.val (.int p1), .val (.int p2)] [(.int p2), (.int p1)]))
  refine OwnR.of (fun _ hr => XS.aconstNull X0.here hx rfl (hb hby d16_2) hr) ?_
  show OwnR _ _ _ _ _ _ _ (s₁.setTop (mkF m 3 #[.val (.int p1), .val (.int p2)] [.null, (.int p2), (.int p1)]))
  obtain ⟨_, _, ⟨T1, L1, kc1, ns1⟩, -, X1, ⟨Lc1, hQ1, l1, y1, z1⟩, st1⟩ := Jvm.LawKit.callS X0 hx (y := (⟨"jdk/internal/util/Preconditions", "checkIndex", "(IILjava/util/function/BiFunction;)I"⟩ : MethodName)) hown (mvT hZ (hw _ (List.mem_of_getElem? (i := 75) rfl))) (mvT hZ (hw _ (List.mem_of_getElem? (i := 76) rfl))) (mvT hZ (hw _ (List.mem_of_getElem? (i := 77) rfl))) (mvT hZ (hw _ (List.mem_of_getElem? (i := 78) rfl))) (by decide) (backOf (W := 0) (rmPre l Z a0 hw [] p1 p2 h0 n0 (Nat.le_trans Z0 (Keep.refl h0 []).1) hn0 hlt) hZ (hw _ (List.mem_of_getElem? (i := 78) rfl)) (hw _ (List.mem_of_getElem? (i := 77) rfl)) (by decide) (by decide)) (g := (mkF m 3 #[.val (.int p1), .val (.int p2)] [.null, (.int p2), (.int p1)])) rfl (by rw [hml]; rfl) (argsL := [(.int p1), (.int p2), .null]) (rest := []) (lenOf pd__IILjava_util_function_BiFunction__I rfl) rfl (by show 2 * 0 + _ ≤ _; exact Nat.le_of_eq rfl) (hb hby d16_3) (fun _ _ => ⟨rfl, e0, (by decide : 0 + 0 ≤ _), (by decide : 0 + 0 ≤ _)⟩)
  dsimp only [Pt.U, Pt.locs, Pt.cells, Pt.slots] at X1 l1 y1 z1 st1 hQ1
  rw [l1, y1, z1] at X1
  obtain ⟨rfl, N1q, e1⟩ := hQ1
  have N1 := Fr.app N0 N1q
  refine OwnR.of (st1) ?_
  show OwnR _ _ _ _ _ _ _ (T1.setTop (mkF m 6 #[.val (.int p1), .val (.int p2)] [(.int p1)]))
  refine own_leafI X1 hx hlk Bd.returns (hb hby d16_6) (by decide) (by decide) ?_
  show QChk Z p1 h0 n0 _ T1.heap _
  rw [show T1.heap = h0 from e1]
  refine ⟨?_, N1, rfl⟩
  show (some (.int p1) : Option Value) = some (.int p1)
  rfl
theorem pn_java_util_Arrays : plainName "java/util/Arrays" = true := by first | (simp [plainName, overriddenIn]; done) | decide +kernel
theorem ef_rmRng (m : MethodId) (x0 : Int32) (x2 : Int32) : entryFrame m #[(.int x0), (.int (0 : Int32)), (.int x2)] 3 = mkF m 0 #[.val (.int x0), .val (.int (0 : Int32)), .val (.int x2)] [] := by first | (simp [entryFrame, mkF, argsToLocals, Value.category]; done) | rfl
theorem d19_0 : decode jdk_65_method_30_code 0 = .ok (.iload_n 1, 1) := by decide +kernel
theorem d19_1 : decode jdk_65_method_30_code 1 = .ok (.iload_n 2, 1) := by decide +kernel
theorem d19_2 : decode jdk_65_method_30_code 2 = .ok (.if_icmp .le 44, 3) := by decide +kernel
theorem d19_46 : decode jdk_65_method_30_code 46 = .ok (.iload_n 1, 1) := by decide +kernel
theorem d19_47 : decode jdk_65_method_30_code 47 = .ok (.ifCond .ge 12, 3) := by decide +kernel
theorem d19_59 : decode jdk_65_method_30_code 59 = .ok (.iload_n 2, 1) := by decide +kernel
theorem d19_60 : decode jdk_65_method_30_code 60 = .ok (.iload_n 0, 1) := by decide +kernel
theorem d19_61 : decode jdk_65_method_30_code 61 = .ok (.if_icmp .le 12, 3) := by decide +kernel
theorem d19_73 : decode jdk_65_method_30_code 73 = .ok (.return_, 1) := by decide +kernel
def QRng (Z : State)  (h0 : Heap) (n0 : Nat) (v : Option Value) (h : Heap) (L : List Loc) : Prop := v = none ∧ Fr n0 L ∧ h = h0
set_option maxRecDepth 65536 in
set_option maxHeartbeats 40000000 in
theorem rmRng (l : Launch) (Z : State) (a0 : Array Value) (hw : ∀ d ∈ tables_1, d.before a0 Z = true) (ws : List Jvm.Cond) (p1 : Int32) (p3 : Int32) (h0 : Heap) (n0 : Nat) (Z0 : n0 ≤ h0.size) (hle : ¬ p1 < p3) (hn0 : ¬ p3 < (0 : Int32)) :
    MetFree l (⟨"java/util/Arrays", "rangeCheck", "(III)V"⟩ : MethodName) (head1 (Jvm.Cond.code (⟨"java/util/Arrays", "rangeCheck", "(III)V"⟩ : MethodName) jdk_65_method_30_code 3 none :: ws) ({ frames := 0, cells := 0, slots := 0, locals := 0 } : Room)) (fun a U => a = #[(.int p1), (.int (0 : Int32)), (.int p3)] ∧ Z.Warmed39 U.vm ∧ U.heap = h0) (fun _ _ _ _ _ => True) (fun _ U o U' => ∃ v L, o = .returned v ∧ QRng Z  h0 n0 v U'.heap L ∧ FrameEnd U o U' L ({ frames := 0, cells := 0, slots := 0, locals := 0 } : Room).cells ({ frames := 0, cells := 0, slots := 0, locals := 0 } : Room).slots) := by
  refine MetFree.of_bodySF (plainFor_of_name pn_java_util_Arrays) hisR ?_
  intro p e s m args below meth c s₁ Bd hml0 hP hK
  obtain ⟨rfl, hZ, hh⟩ := hP
  have hx := Bd.exec
  have hby := Bd.bytes
  have hlk := BodyLoose.notSynchronized Bd
  have hml : c.maxLocals = 3 := hml0
  have hown : s.vm.findClass "java/util/Arrays" = some m.cls := findClass_of_methodNamed Bd.named
  have hnm := (name_of_methodNamed Bd.named Bd.method).1
  have X0 : Stand p l e ({ frames := 0, cells := 0, slots := 0, locals := 0 } : Room) s m #[(.int p1), (.int (0 : Int32)), (.int p3)] below meth c s₁ [] 0 0 := Stand.of_body Bd
  have e0 : s₁.heap = h0 := by rw [← hh, Bd.state]; rfl
  have N0 := Fr.nil n0
  refine OwnR.of (s := s) (Q := QRng Z  h0 n0) (fun t k => castTop (ef_rmRng m p1 p3) k) ?_
  show OwnR _ _ _ _ _ _ _ (s₁.setTop (mkF m 0 #[.val (.int p1), .val (.int (0 : Int32)), .val (.int p3)] []))
  refine OwnR.of (fun _ hr => XS.iloadN X0.here hx rfl (hb hby d19_0) rfl hr) ?_
  show OwnR _ _ _ _ _ _ _ (s₁.setTop (mkF m 1 #[.val (.int p1), .val (.int (0 : Int32)), .val (.int p3)] [(.int (0 : Int32))]))
  refine OwnR.of (fun _ hr => XS.iloadN X0.here hx rfl (hb hby d19_1) rfl hr) ?_
  show OwnR _ _ _ _ _ _ _ (s₁.setTop (mkF m 2 #[.val (.int p1), .val (.int (0 : Int32)), .val (.int p3)] [(.int p3), (.int (0 : Int32))]))
  refine OwnR.of (fun _ hr => XS.icmpYes X0.here hx rfl (pc0 := 2) (pc' := 46) rfl (hb hby d19_2) rfl (flt hn0).2.2.2 (by decide) (by decide) hr) ?_
  show OwnR _ _ _ _ _ _ _ (s₁.setTop (mkF m 46 #[.val (.int p1), .val (.int (0 : Int32)), .val (.int p3)] []))
  refine OwnR.of (fun _ hr => XS.iloadN X0.here hx rfl (hb hby d19_46) rfl hr) ?_
  show OwnR _ _ _ _ _ _ _ (s₁.setTop (mkF m 47 #[.val (.int p1), .val (.int (0 : Int32)), .val (.int p3)] [(.int (0 : Int32))]))
  refine OwnR.of (fun _ hr => XS.ifYes X0.here hx rfl (pc0 := 47) (pc' := 59) rfl (hb hby d19_47) rfl ((if0 _ _).trans (flt (by decide : ¬ ((0 : Int32) < (0 : Int32)))).2.1) (by decide) (by decide) hr) ?_
  show OwnR _ _ _ _ _ _ _ (s₁.setTop (mkF m 59 #[.val (.int p1), .val (.int (0 : Int32)), .val (.int p3)] []))
  refine OwnR.of (fun _ hr => XS.iloadN X0.here hx rfl (hb hby d19_59) rfl hr) ?_
  show OwnR _ _ _ _ _ _ _ (s₁.setTop (mkF m 60 #[.val (.int p1), .val (.int (0 : Int32)), .val (.int p3)] [(.int p3)]))
  refine OwnR.of (fun _ hr => XS.iloadN X0.here hx rfl (hb hby d19_60) rfl hr) ?_
  show OwnR _ _ _ _ _ _ _ (s₁.setTop (mkF m 61 #[.val (.int p1), .val (.int (0 : Int32)), .val (.int p3)] [(.int p1), (.int p3)]))
  refine OwnR.of (fun _ hr => XS.icmpYes X0.here hx rfl (pc0 := 61) (pc' := 73) rfl (hb hby d19_61) rfl (flt hle).2.2.2 (by decide) (by decide) hr) ?_
  show OwnR _ _ _ _ _ _ _ (s₁.setTop (mkF m 73 #[.val (.int p1), .val (.int (0 : Int32)), .val (.int p3)] []))
  refine own_leafV X0 hx hlk Bd.returns (hb hby d19_73) (by decide) (by decide) ?_
  show QRng Z  h0 n0 _ s₁.heap _
  rw [show s₁.heap = h0 from e0]
  refine ⟨rfl, N0, rfl⟩
theorem own_selp {a0 : Array Value} {Z : State} (hw : ∀ d ∈ tables_1, d.before a0 Z = true) {y : MethodName} (hy : y.cls = "com/example/fast_taxonomy/fasttaxonomy/taxonomy/Relation") (hp : (Jvm.Cond.privateMethod y).before a0 Z = true) (hi : (Jvm.Cond.instanceMethod y).before a0 Z = true) : (Jvm.Cond.selects y.cls y y).before a0 Z = true := by
  obtain ⟨c2, r2, m2, -, -, q3, -, kP, hkP, hkPi⟩ := Cond.selects_spec (hw _ (List.mem_of_getElem? (i := 35) rfl))
  refine selects_self_of_private (c := m2.cls) (k := kP) ?_ hkP hkPi (Cond.privateMethod_at hp) hi (by rw [hy]; decide)
  rw [hy]; exact findClass_of_methodNamed q3
theorem ef_rmMaxJ (m : MethodId) (x0 : Int64) (x1 : Int64) : entryFrame m #[(.long x0), (.long x1)] 4 = mkF m 0 #[.val (.long x0), .second, .val (.long x1), .second] [] := by first | (simp [entryFrame, mkF, argsToLocals, Value.category]; done) | rfl
theorem d21_0 : decode jdk_29_method_66_code 0 = .ok (.lload_n 0, 1) := by decide +kernel
theorem d21_1 : decode jdk_29_method_66_code 1 = .ok (.lload_n 2, 1) := by decide +kernel
theorem d21_2 : decode jdk_29_method_66_code 2 = .ok (.lcmp, 1) := by decide +kernel
theorem d21_3 : decode jdk_29_method_66_code 3 = .ok (.ifCond .lt 7, 3) := by decide +kernel
theorem d21_10 : decode jdk_29_method_66_code 10 = .ok (.lload_n 2, 1) := by decide +kernel
theorem d21_11 : decode jdk_29_method_66_code 11 = .ok (.lreturn, 1) := by decide +kernel
theorem d21_6 : decode jdk_29_method_66_code 6 = .ok (.lload_n 0, 1) := by decide +kernel
theorem d21_7 : decode jdk_29_method_66_code 7 = .ok (.goto 4, 3) := by decide +kernel
def QMaxJ (Z : State) (q1 : Int64) (q2 : Int64) (h0 : Heap) (n0 : Nat) (v : Option Value) (h : Heap) (L : List Loc) : Prop := v = some (.long (own_max q1 q2)) ∧ Fr n0 L ∧ h = h0
set_option maxRecDepth 65536 in
set_option maxHeartbeats 40000000 in
theorem rmMaxJ (l : Launch) (Z : State) (a0 : Array Value) (hw : ∀ d ∈ tables_1, d.before a0 Z = true) (ws : List Jvm.Cond) (q1 : Int64) (q2 : Int64) (h0 : Heap) (n0 : Nat) (Z0 : n0 ≤ h0.size) :
    MetFree l (⟨"java/lang/Math", "max", "(JJ)J"⟩ : MethodName) (head1 (Jvm.Cond.code (⟨"java/lang/Math", "max", "(JJ)J"⟩ : MethodName) jdk_29_method_66_code 4 (some .long) :: ws) ({ frames := 0, cells := 0, slots := 0, locals := 0 } : Room)) (fun a U => a = #[(.long q1), (.long q2)] ∧ Z.Warmed39 U.vm ∧ U.heap = h0) (fun _ _ _ _ _ => True) (fun _ U o U' => ∃ v L, o = .returned v ∧ QMaxJ Z q1 q2 h0 n0 v U'.heap L ∧ FrameEnd U o U' L ({ frames := 0, cells := 0, slots := 0, locals := 0 } : Room).cells ({ frames := 0, cells := 0, slots := 0, locals := 0 } : Room).slots) := by
  refine MetFree.of_bodySF (Jvm.Free.JP.mathPlain rfl (by decide +kernel)) hisR ?_
  intro p e s m args below meth c s₁ Bd hml0 hP hK
  obtain ⟨rfl, hZ, hh⟩ := hP
  have hx := Bd.exec
  have hby := Bd.bytes
  have hlk := BodyLoose.notSynchronized Bd
  have hml : c.maxLocals = 4 := hml0
  have hown : s.vm.findClass "java/lang/Math" = some m.cls := findClass_of_methodNamed Bd.named
  have hnm := (name_of_methodNamed Bd.named Bd.method).1
  have X0 : Stand p l e ({ frames := 0, cells := 0, slots := 0, locals := 0 } : Room) s m #[(.long q1), (.long q2)] below meth c s₁ [] 0 0 := Stand.of_body Bd
  have e0 : s₁.heap = h0 := by rw [← hh, Bd.state]; rfl
  have N0 := Fr.nil n0
  refine OwnR.of (s := s) (Q := QMaxJ Z q1 q2 h0 n0) (fun t k => castTop (ef_rmMaxJ m q1 q2) k) ?_
  show OwnR _ _ _ _ _ _ _ (s₁.setTop (mkF m 0 #[.val (.long q1), .second, .val (.long q2), .second] []))
  refine OwnR.of (fun _ hr => XS.lloadN X0.here hx rfl (hb hby d21_0) rfl hr) ?_
  show OwnR _ _ _ _ _ _ _ (s₁.setTop (mkF m 1 #[.val (.long q1), .second, .val (.long q2), .second] [(.long q1)]))
  refine OwnR.of (fun _ hr => XS.lloadN X0.here hx rfl (hb hby d21_1) rfl hr) ?_
  show OwnR _ _ _ _ _ _ _ (s₁.setTop (mkF m 2 #[.val (.long q1), .second, .val (.long q2), .second] [(.long q2), (.long q1)]))
  refine OwnR.of (fun _ hr => XS.lcmp X0.here hx rfl (hb hby d21_2) rfl hr) ?_
  show OwnR _ _ _ _ _ _ _ (s₁.setTop (mkF m 3 #[.val (.long q1), .second, .val (.long q2), .second] [(.int (lcmpW q1 q2))]))
  by_cases hc3_3 : q1 < q2
  · skip
    refine OwnR.of (fun _ hr => XS.ifYes X0.here hx rfl (pc0 := 3) (pc' := 10) rfl (hb hby d21_3) rfl ((if0 _ _).trans (tlt ((own_lclt _ _).mpr hc3_3)).1) (by decide) (by decide) hr) ?_
    show OwnR _ _ _ _ _ _ _ (s₁.setTop (mkF m 10 #[.val (.long q1), .second, .val (.long q2), .second] []))
    refine OwnR.of (fun _ hr => XS.lloadN X0.here hx rfl (hb hby d21_10) rfl hr) ?_
    show OwnR _ _ _ _ _ _ _ (s₁.setTop (mkF m 11 #[.val (.long q1), .second, .val (.long q2), .second] [(.long q2)]))
    refine own_leafJ X0 hx hlk Bd.returns (hb hby d21_11) (by decide) (by decide) ?_
    show QMaxJ Z q1 q2 h0 n0 _ s₁.heap _
    rw [show s₁.heap = h0 from e0]
    refine ⟨?_, N0, rfl⟩
    show (some (.long q2) : Option Value) = some (.long (own_max q1 q2))
    simp only [own_max, if_pos hc3_3]
  · skip
    refine OwnR.of (fun _ hr => XS.ifNo X0.here hx rfl (hb hby d21_3) rfl ((if0 _ _).trans (flt ((not_congr (own_lclt _ _)).mpr hc3_3)).1) hr) ?_
    show OwnR _ _ _ _ _ _ _ (s₁.setTop (mkF m 6 #[.val (.long q1), .second, .val (.long q2), .second] []))
    refine OwnR.of (fun _ hr => XS.lloadN X0.here hx rfl (hb hby d21_6) rfl hr) ?_
    show OwnR _ _ _ _ _ _ _ (s₁.setTop (mkF m 7 #[.val (.long q1), .second, .val (.long q2), .second] [(.long q1)]))
    refine OwnR.of (fun _ hr => XS.goto X0.here hx rfl (pc0 := 7) (pc' := 11) rfl (hb hby d21_7) (by decide) (by decide) hr) ?_
    show OwnR _ _ _ _ _ _ _ (s₁.setTop (mkF m 11 #[.val (.long q1), .second, .val (.long q2), .second] [(.long q1)]))
    refine own_leafJ X0 hx hlk Bd.returns (hb hby d21_11) (by decide) (by decide) ?_
    show QMaxJ Z q1 q2 h0 n0 _ s₁.heap _
    rw [show s₁.heap = h0 from e0]
    refine ⟨?_, N0, rfl⟩
    show (some (.long q1) : Option Value) = some (.long (own_max q1 q2))
    simp only [own_max, if_neg hc3_3]
theorem ef_rmMinJ (m : MethodId) (x0 : Int64) (x1 : Int64) : entryFrame m #[(.long x0), (.long x1)] 4 = mkF m 0 #[.val (.long x0), .second, .val (.long x1), .second] [] := by first | (simp [entryFrame, mkF, argsToLocals, Value.category]; done) | rfl
theorem d22_0 : decode jdk_29_method_70_code 0 = .ok (.lload_n 0, 1) := by decide +kernel
theorem d22_1 : decode jdk_29_method_70_code 1 = .ok (.lload_n 2, 1) := by decide +kernel
theorem d22_2 : decode jdk_29_method_70_code 2 = .ok (.lcmp, 1) := by decide +kernel
theorem d22_3 : decode jdk_29_method_70_code 3 = .ok (.ifCond .gt 7, 3) := by decide +kernel
theorem d22_10 : decode jdk_29_method_70_code 10 = .ok (.lload_n 2, 1) := by decide +kernel
theorem d22_11 : decode jdk_29_method_70_code 11 = .ok (.lreturn, 1) := by decide +kernel
theorem d22_6 : decode jdk_29_method_70_code 6 = .ok (.lload_n 0, 1) := by decide +kernel
theorem d22_7 : decode jdk_29_method_70_code 7 = .ok (.goto 4, 3) := by decide +kernel
def QMinJ (Z : State) (q1 : Int64) (q2 : Int64) (h0 : Heap) (n0 : Nat) (v : Option Value) (h : Heap) (L : List Loc) : Prop := v = some (.long (own_min q1 q2)) ∧ Fr n0 L ∧ h = h0
set_option maxRecDepth 65536 in
set_option maxHeartbeats 40000000 in
theorem rmMinJ (l : Launch) (Z : State) (a0 : Array Value) (hw : ∀ d ∈ tables_1, d.before a0 Z = true) (ws : List Jvm.Cond) (q1 : Int64) (q2 : Int64) (h0 : Heap) (n0 : Nat) (Z0 : n0 ≤ h0.size) :
    MetFree l (⟨"java/lang/Math", "min", "(JJ)J"⟩ : MethodName) (head1 (Jvm.Cond.code (⟨"java/lang/Math", "min", "(JJ)J"⟩ : MethodName) jdk_29_method_70_code 4 (some .long) :: ws) ({ frames := 0, cells := 0, slots := 0, locals := 0 } : Room)) (fun a U => a = #[(.long q1), (.long q2)] ∧ Z.Warmed39 U.vm ∧ U.heap = h0) (fun _ _ _ _ _ => True) (fun _ U o U' => ∃ v L, o = .returned v ∧ QMinJ Z q1 q2 h0 n0 v U'.heap L ∧ FrameEnd U o U' L ({ frames := 0, cells := 0, slots := 0, locals := 0 } : Room).cells ({ frames := 0, cells := 0, slots := 0, locals := 0 } : Room).slots) := by
  refine MetFree.of_bodySF (Jvm.Free.JP.mathPlain rfl (by decide +kernel)) hisR ?_
  intro p e s m args below meth c s₁ Bd hml0 hP hK
  obtain ⟨rfl, hZ, hh⟩ := hP
  have hx := Bd.exec
  have hby := Bd.bytes
  have hlk := BodyLoose.notSynchronized Bd
  have hml : c.maxLocals = 4 := hml0
  have hown : s.vm.findClass "java/lang/Math" = some m.cls := findClass_of_methodNamed Bd.named
  have hnm := (name_of_methodNamed Bd.named Bd.method).1
  have X0 : Stand p l e ({ frames := 0, cells := 0, slots := 0, locals := 0 } : Room) s m #[(.long q1), (.long q2)] below meth c s₁ [] 0 0 := Stand.of_body Bd
  have e0 : s₁.heap = h0 := by rw [← hh, Bd.state]; rfl
  have N0 := Fr.nil n0
  refine OwnR.of (s := s) (Q := QMinJ Z q1 q2 h0 n0) (fun t k => castTop (ef_rmMinJ m q1 q2) k) ?_
  show OwnR _ _ _ _ _ _ _ (s₁.setTop (mkF m 0 #[.val (.long q1), .second, .val (.long q2), .second] []))
  refine OwnR.of (fun _ hr => XS.lloadN X0.here hx rfl (hb hby d22_0) rfl hr) ?_
  show OwnR _ _ _ _ _ _ _ (s₁.setTop (mkF m 1 #[.val (.long q1), .second, .val (.long q2), .second] [(.long q1)]))
  refine OwnR.of (fun _ hr => XS.lloadN X0.here hx rfl (hb hby d22_1) rfl hr) ?_
  show OwnR _ _ _ _ _ _ _ (s₁.setTop (mkF m 2 #[.val (.long q1), .second, .val (.long q2), .second] [(.long q2), (.long q1)]))
  refine OwnR.of (fun _ hr => XS.lcmp X0.here hx rfl (hb hby d22_2) rfl hr) ?_
  show OwnR _ _ _ _ _ _ _ (s₁.setTop (mkF m 3 #[.val (.long q1), .second, .val (.long q2), .second] [(.int (lcmpW q1 q2))]))
  by_cases hc3_3 : q2 < q1
  · skip
    refine OwnR.of (fun _ hr => XS.ifYes X0.here hx rfl (pc0 := 3) (pc' := 10) rfl (hb hby d22_3) rfl ((if0 _ _).trans (tlt ((own_lcgt _ _).mpr hc3_3)).2.2.1) (by decide) (by decide) hr) ?_
    show OwnR _ _ _ _ _ _ _ (s₁.setTop (mkF m 10 #[.val (.long q1), .second, .val (.long q2), .second] []))
    refine OwnR.of (fun _ hr => XS.lloadN X0.here hx rfl (hb hby d22_10) rfl hr) ?_
    show OwnR _ _ _ _ _ _ _ (s₁.setTop (mkF m 11 #[.val (.long q1), .second, .val (.long q2), .second] [(.long q2)]))
    refine own_leafJ X0 hx hlk Bd.returns (hb hby d22_11) (by decide) (by decide) ?_
    show QMinJ Z q1 q2 h0 n0 _ s₁.heap _
    rw [show s₁.heap = h0 from e0]
    refine ⟨?_, N0, rfl⟩
    show (some (.long q2) : Option Value) = some (.long (own_min q1 q2))
    simp only [own_min, if_pos hc3_3]
  · skip
    refine OwnR.of (fun _ hr => XS.ifNo X0.here hx rfl (hb hby d22_3) rfl ((if0 _ _).trans (flt ((not_congr (own_lcgt _ _)).mpr hc3_3)).2.2.1) hr) ?_
    show OwnR _ _ _ _ _ _ _ (s₁.setTop (mkF m 6 #[.val (.long q1), .second, .val (.long q2), .second] []))
    refine OwnR.of (fun _ hr => XS.lloadN X0.here hx rfl (hb hby d22_6) rfl hr) ?_
    show OwnR _ _ _ _ _ _ _ (s₁.setTop (mkF m 7 #[.val (.long q1), .second, .val (.long q2), .second] [(.long q1)]))
    refine OwnR.of (fun _ hr => XS.goto X0.here hx rfl (pc0 := 7) (pc' := 11) rfl (hb hby d22_7) (by decide) (by decide) hr) ?_
    show OwnR _ _ _ _ _ _ _ (s₁.setTop (mkF m 11 #[.val (.long q1), .second, .val (.long q2), .second] [(.long q1)]))
    refine own_leafJ X0 hx hlk Bd.returns (hb hby d22_11) (by decide) (by decide) ?_
    show QMinJ Z q1 q2 h0 n0 _ s₁.heap _
    rw [show s₁.heap = h0 from e0]
    refine ⟨?_, N0, rfl⟩
    show (some (.long q1) : Option Value) = some (.long (own_min q1 q2))
    simp only [own_min, if_neg hc3_3]
theorem ef_rmMinI (m : MethodId) (x0 : Int32) (x1 : Int32) : entryFrame m #[(.int x0), (.int x1)] 2 = mkF m 0 #[.val (.int x0), .val (.int x1)] [] := by first | (simp [entryFrame, mkF, argsToLocals, Value.category]; done) | rfl
theorem d24_0 : decode jdk_29_method_69_code 0 = .ok (.iload_n 0, 1) := by decide +kernel
theorem d24_1 : decode jdk_29_method_69_code 1 = .ok (.iload_n 1, 1) := by decide +kernel
theorem d24_2 : decode jdk_29_method_69_code 2 = .ok (.if_icmp .gt 7, 3) := by decide +kernel
theorem d24_9 : decode jdk_29_method_69_code 9 = .ok (.iload_n 1, 1) := by decide +kernel
theorem d24_10 : decode jdk_29_method_69_code 10 = .ok (.ireturn, 1) := by decide +kernel
theorem d24_5 : decode jdk_29_method_69_code 5 = .ok (.iload_n 0, 1) := by decide +kernel
theorem d24_6 : decode jdk_29_method_69_code 6 = .ok (.goto 4, 3) := by decide +kernel
def QMinI (Z : State) (p1 : Int32) (p2 : Int32) (h0 : Heap) (n0 : Nat) (v : Option Value) (h : Heap) (L : List Loc) : Prop := v = some (.int (own_imin p1 p2)) ∧ Fr n0 L ∧ h = h0
set_option maxRecDepth 65536 in
set_option maxHeartbeats 40000000 in
theorem rmMinI (l : Launch) (Z : State) (a0 : Array Value) (hw : ∀ d ∈ tables_1, d.before a0 Z = true) (ws : List Jvm.Cond) (p1 : Int32) (p2 : Int32) (h0 : Heap) (n0 : Nat) (Z0 : n0 ≤ h0.size) :
    MetFree l (⟨"java/lang/Math", "min", "(II)I"⟩ : MethodName) (head1 (Jvm.Cond.code (⟨"java/lang/Math", "min", "(II)I"⟩ : MethodName) jdk_29_method_69_code 2 (some .int) :: ws) ({ frames := 0, cells := 0, slots := 0, locals := 0 } : Room)) (fun a U => a = #[(.int p1), (.int p2)] ∧ Z.Warmed39 U.vm ∧ U.heap = h0) (fun _ _ _ _ _ => True) (fun _ U o U' => ∃ v L, o = .returned v ∧ QMinI Z p1 p2 h0 n0 v U'.heap L ∧ FrameEnd U o U' L ({ frames := 0, cells := 0, slots := 0, locals := 0 } : Room).cells ({ frames := 0, cells := 0, slots := 0, locals := 0 } : Room).slots) := by
  refine MetFree.of_bodySF (Jvm.Free.JP.mathPlain rfl (by decide +kernel)) hisR ?_
  intro p e s m args below meth c s₁ Bd hml0 hP hK
  obtain ⟨rfl, hZ, hh⟩ := hP
  have hx := Bd.exec
  have hby := Bd.bytes
  have hlk := BodyLoose.notSynchronized Bd
  have hml : c.maxLocals = 2 := hml0
  have hown : s.vm.findClass "java/lang/Math" = some m.cls := findClass_of_methodNamed Bd.named
  have hnm := (name_of_methodNamed Bd.named Bd.method).1
  have X0 : Stand p l e ({ frames := 0, cells := 0, slots := 0, locals := 0 } : Room) s m #[(.int p1), (.int p2)] below meth c s₁ [] 0 0 := Stand.of_body Bd
  have e0 : s₁.heap = h0 := by rw [← hh, Bd.state]; rfl
  have N0 := Fr.nil n0
  refine OwnR.of (s := s) (Q := QMinI Z p1 p2 h0 n0) (fun t k => castTop (ef_rmMinI m p1 p2) k) ?_
  show OwnR _ _ _ _ _ _ _ (s₁.setTop (mkF m 0 #[.val (.int p1), .val (.int p2)] []))
  refine OwnR.of (fun _ hr => XS.iloadN X0.here hx rfl (hb hby d24_0) rfl hr) ?_
  show OwnR _ _ _ _ _ _ _ (s₁.setTop (mkF m 1 #[.val (.int p1), .val (.int p2)] [(.int p1)]))
  refine OwnR.of (fun _ hr => XS.iloadN X0.here hx rfl (hb hby d24_1) rfl hr) ?_
  show OwnR _ _ _ _ _ _ _ (s₁.setTop (mkF m 2 #[.val (.int p1), .val (.int p2)] [(.int p2), (.int p1)]))
  by_cases hc2_3 : p2 < p1
  · skip
    refine OwnR.of (fun _ hr => XS.icmpYes X0.here hx rfl (pc0 := 2) (pc' := 9) rfl (hb hby d24_2) rfl (tlt hc2_3).2.2.1 (by decide) (by decide) hr) ?_
    show OwnR _ _ _ _ _ _ _ (s₁.setTop (mkF m 9 #[.val (.int p1), .val (.int p2)] []))
    refine OwnR.of (fun _ hr => XS.iloadN X0.here hx rfl (hb hby d24_9) rfl hr) ?_
    show OwnR _ _ _ _ _ _ _ (s₁.setTop (mkF m 10 #[.val (.int p1), .val (.int p2)] [(.int p2)]))
    refine own_leafI X0 hx hlk Bd.returns (hb hby d24_10) (by decide) (by decide) ?_
    show QMinI Z p1 p2 h0 n0 _ s₁.heap _
    rw [show s₁.heap = h0 from e0]
    refine ⟨?_, N0, rfl⟩
    show (some (.int p2) : Option Value) = some (.int (own_imin p1 p2))
    simp only [own_imin, if_pos hc2_3]
  · skip
    refine OwnR.of (fun _ hr => XS.icmpNo X0.here hx rfl (hb hby d24_2) rfl (flt hc2_3).2.2.1 hr) ?_
    show OwnR _ _ _ _ _ _ _ (s₁.setTop (mkF m 5 #[.val (.int p1), .val (.int p2)] []))
    refine OwnR.of (fun _ hr => XS.iloadN X0.here hx rfl (hb hby d24_5) rfl hr) ?_
    show OwnR _ _ _ _ _ _ _ (s₁.setTop (mkF m 6 #[.val (.int p1), .val (.int p2)] [(.int p1)]))
    refine OwnR.of (fun _ hr => XS.goto X0.here hx rfl (pc0 := 6) (pc' := 10) rfl (hb hby d24_6) (by decide) (by decide) hr) ?_
    show OwnR _ _ _ _ _ _ _ (s₁.setTop (mkF m 10 #[.val (.int p1), .val (.int p2)] [(.int p1)]))
    refine own_leafI X0 hx hlk Bd.returns (hb hby d24_10) (by decide) (by decide) ?_
    show QMinI Z p1 p2 h0 n0 _ s₁.heap _
    rw [show s₁.heap = h0 from e0]
    refine ⟨?_, N0, rfl⟩
    show (some (.int p1) : Option Value) = some (.int (own_imin p1 p2))
    simp only [own_imin, if_neg hc2_3]
theorem ef_rmBs0 (m : MethodId) (x0 : Addr) : entryFrame m #[(.ref x0), (.int (0 : Int32)), (.int (Int32.ofNat (own_sz mq))), (.int (Int32.ofNat ti))] 8 = mkF m 0 #[.val (.ref x0), .val (.int (0 : Int32)), .val (.int (Int32.ofNat (own_sz mq))), .val (.int (Int32.ofNat ti)), .unset, .unset, .unset, .unset] [] := by first | (simp [entryFrame, mkF, argsToLocals, Value.category]; done) | rfl
theorem d20_0 : decode jdk_65_method_59_code 0 = .ok (.iload_n 1, 1) := by decide +kernel
theorem d20_1 : decode jdk_65_method_59_code 1 = .ok (.istore 4, 2) := by decide +kernel
theorem d20_3 : decode jdk_65_method_59_code 3 = .ok (.iload_n 2, 1) := by decide +kernel
theorem d20_4 : decode jdk_65_method_59_code 4 = .ok (.iconst 1, 1) := by decide +kernel
theorem d20_5 : decode jdk_65_method_59_code 5 = .ok (.isub, 1) := by decide +kernel
theorem d20_6 : decode jdk_65_method_59_code 6 = .ok (.istore 5, 2) := by decide +kernel
theorem d20_8 : decode jdk_65_method_59_code 8 = .ok (.iload 4, 2) := by decide +kernel
theorem d20_10 : decode jdk_65_method_59_code 10 = .ok (.iload 5, 2) := by decide +kernel
theorem d20_12 : decode jdk_65_method_59_code 12 = .ok (.if_icmp .gt 54, 3) := by decide +kernel
theorem d20_15 : decode jdk_65_method_59_code 15 = .ok (.iload 4, 2) := by decide +kernel
theorem d20_17 : decode jdk_65_method_59_code 17 = .ok (.iload 5, 2) := by decide +kernel
theorem d20_19 : decode jdk_65_method_59_code 19 = .ok (.iadd, 1) := by decide +kernel
theorem d20_20 : decode jdk_65_method_59_code 20 = .ok (.iconst 1, 1) := by decide +kernel
theorem d20_21 : decode jdk_65_method_59_code 21 = .ok (.iushr, 1) := by decide +kernel
theorem d20_22 : decode jdk_65_method_59_code 22 = .ok (.istore 6, 2) := by decide +kernel
theorem d20_24 : decode jdk_65_method_59_code 24 = .ok (.aload_n 0, 1) := by decide +kernel
theorem d20_25 : decode jdk_65_method_59_code 25 = .ok (.iload 6, 2) := by decide +kernel
theorem d20_27 : decode jdk_65_method_59_code 27 = .ok (.iaload, 1) := by decide +kernel
theorem d20_28 : decode jdk_65_method_59_code 28 = .ok (.istore 7, 2) := by decide +kernel
theorem d20_30 : decode jdk_65_method_59_code 30 = .ok (.iload 7, 2) := by decide +kernel
theorem d20_32 : decode jdk_65_method_59_code 32 = .ok (.iload_n 3, 1) := by decide +kernel
theorem d20_33 : decode jdk_65_method_59_code 33 = .ok (.if_icmp .ge 12, 3) := by decide +kernel
theorem d20_36 : decode jdk_65_method_59_code 36 = .ok (.iload 6, 2) := by decide +kernel
theorem d20_38 : decode jdk_65_method_59_code 38 = .ok (.iconst 1, 1) := by decide +kernel
theorem d20_39 : decode jdk_65_method_59_code 39 = .ok (.iadd, 1) := by decide +kernel
theorem d20_40 : decode jdk_65_method_59_code 40 = .ok (.istore 4, 2) := by decide +kernel
theorem d20_42 : decode jdk_65_method_59_code 42 = .ok (.goto 21, 3) := by decide +kernel
theorem d20_63 : decode jdk_65_method_59_code 63 = .ok (.goto (-55), 3) := by decide +kernel
theorem d20_45 : decode jdk_65_method_59_code 45 = .ok (.iload 7, 2) := by decide +kernel
theorem d20_47 : decode jdk_65_method_59_code 47 = .ok (.iload_n 3, 1) := by decide +kernel
theorem d20_48 : decode jdk_65_method_59_code 48 = .ok (.if_icmp .le 12, 3) := by decide +kernel
theorem d20_51 : decode jdk_65_method_59_code 51 = .ok (.iload 6, 2) := by decide +kernel
theorem d20_53 : decode jdk_65_method_59_code 53 = .ok (.iconst 1, 1) := by decide +kernel
theorem d20_54 : decode jdk_65_method_59_code 54 = .ok (.isub, 1) := by decide +kernel
theorem d20_55 : decode jdk_65_method_59_code 55 = .ok (.istore 5, 2) := by decide +kernel
theorem d20_57 : decode jdk_65_method_59_code 57 = .ok (.goto 6, 3) := by decide +kernel
theorem d20_60 : decode jdk_65_method_59_code 60 = .ok (.iload 6, 2) := by decide +kernel
theorem d20_62 : decode jdk_65_method_59_code 62 = .ok (.ireturn, 1) := by decide +kernel
theorem d20_66 : decode jdk_65_method_59_code 66 = .ok (.iload 4, 2) := by decide +kernel
theorem d20_68 : decode jdk_65_method_59_code 68 = .ok (.iconst 1, 1) := by decide +kernel
theorem d20_69 : decode jdk_65_method_59_code 69 = .ok (.iadd, 1) := by decide +kernel
theorem d20_70 : decode jdk_65_method_59_code 70 = .ok (.ineg, 1) := by decide +kernel
theorem d20_71 : decode jdk_65_method_59_code 71 = .ok (.ireturn, 1) := by decide +kernel
def QBs0 (Z : State) (mq : Nat) (ti : Nat) (h0 : Heap) (n0 : Nat) (v : Option Value) (h : Heap) (L : List Loc) : Prop := v = some (.int (own_bs mq ti)) ∧ Fr n0 L ∧ h = h0
set_option maxRecDepth 65536 in
set_option maxHeartbeats 40000000 in
theorem rmBs0 (l : Launch) (Z : State) (a0 : Array Value) (hw : ∀ d ∈ tables_1, d.before a0 Z = true) (ws : List Jvm.Cond) (ra : Addr) (kb : ClassId) (Lb mq ti : Nat) (h0 : Heap) (n0 : Nat) (Z0 : n0 ≤ h0.size) (FB : OwnF Z h0 ra kb .int Lb (own_rowv mq)) (hL : own_sz mq ≤ Lb) (hL4 : Lb < 4) (hm : mq < 8) (ht : ti < 3) :
    MetFree l (⟨"java/util/Arrays", "binarySearch0", "([IIII)I"⟩ : MethodName) (head1 (Jvm.Cond.code (⟨"java/util/Arrays", "binarySearch0", "([IIII)I"⟩ : MethodName) jdk_65_method_59_code 8 (some .int) :: ws) ({ frames := 0, cells := 0, slots := 0, locals := 0 } : Room)) (fun a U => a = #[(.ref ra), (.int (0 : Int32)), (.int (Int32.ofNat (own_sz mq))), (.int (Int32.ofNat ti))] ∧ Z.Warmed39 U.vm ∧ U.heap = h0) (fun _ _ _ _ _ => True) (fun _ U o U' => ∃ v L, o = .returned v ∧ QBs0 Z mq ti h0 n0 v U'.heap L ∧ FrameEnd U o U' L ({ frames := 0, cells := 0, slots := 0, locals := 0 } : Room).cells ({ frames := 0, cells := 0, slots := 0, locals := 0 } : Room).slots) := by
  refine MetFree.of_bodySF (plainFor_of_name pn_java_util_Arrays) hisR ?_
  intro p e s m args below meth c s₁ Bd hml0 hP hK
  obtain ⟨rfl, hZ, hh⟩ := hP
  have hx := Bd.exec
  have hby := Bd.bytes
  have hlk := BodyLoose.notSynchronized Bd
  have hml : c.maxLocals = 8 := hml0
  have hown : s.vm.findClass "java/util/Arrays" = some m.cls := findClass_of_methodNamed Bd.named
  have hnm := (name_of_methodNamed Bd.named Bd.method).1
  have X0 : Stand p l e ({ frames := 0, cells := 0, slots := 0, locals := 0 } : Room) s m #[(.ref ra), (.int (0 : Int32)), (.int (Int32.ofNat (own_sz mq))), (.int (Int32.ofNat ti))] below meth c s₁ [] 0 0 := Stand.of_body Bd
  have e0 : s₁.heap = h0 := by rw [← hh, Bd.state]; rfl
  have N0 := Fr.nil n0
  refine OwnR.of (s := s) (Q := QBs0 Z mq ti h0 n0) (fun t k => castTop (ef_rmBs0 m ra) k) ?_
  show OwnR _ _ _ _ _ _ _ (s₁.setTop (mkF m 0 #[.val (.ref ra), .val (.int (0 : Int32)), .val (.int (Int32.ofNat (own_sz mq))), .val (.int (Int32.ofNat ti)), .unset, .unset, .unset, .unset] []))
  refine OwnR.of (fun _ hr => XS.iloadN X0.here hx rfl (hb hby d20_0) rfl hr) ?_
  show OwnR _ _ _ _ _ _ _ (s₁.setTop (mkF m 1 #[.val (.ref ra), .val (.int (0 : Int32)), .val (.int (Int32.ofNat (own_sz mq))), .val (.int (Int32.ofNat ti)), .unset, .unset, .unset, .unset] [(.int (0 : Int32))]))
  refine OwnR.of (fun _ hr => XS.istore X0.here hx rfl (hb hby d20_1) rfl (l' := #[.val (.ref ra), .val (.int (0 : Int32)), .val (.int (Int32.ofNat (own_sz mq))), .val (.int (Int32.ofNat ti)), .val (.int (0 : Int32)), .unset, .unset, .unset]) rfl hr) ?_
  show OwnR _ _ _ _ _ _ _ (s₁.setTop (mkF m 3 #[.val (.ref ra), .val (.int (0 : Int32)), .val (.int (Int32.ofNat (own_sz mq))), .val (.int (Int32.ofNat ti)), .val (.int (0 : Int32)), .unset, .unset, .unset] []))
  refine OwnR.of (fun _ hr => XS.iloadN X0.here hx rfl (hb hby d20_3) rfl hr) ?_
  show OwnR _ _ _ _ _ _ _ (s₁.setTop (mkF m 4 #[.val (.ref ra), .val (.int (0 : Int32)), .val (.int (Int32.ofNat (own_sz mq))), .val (.int (Int32.ofNat ti)), .val (.int (0 : Int32)), .unset, .unset, .unset] [(.int (Int32.ofNat (own_sz mq)))]))
  refine OwnR.of (fun _ hr => XS.iconst X0.here hx rfl (hb hby d20_4) hr) ?_
  show OwnR _ _ _ _ _ _ _ (s₁.setTop (mkF m 5 #[.val (.ref ra), .val (.int (0 : Int32)), .val (.int (Int32.ofNat (own_sz mq))), .val (.int (Int32.ofNat ti)), .val (.int (0 : Int32)), .unset, .unset, .unset] [(.int (1 : Int32)), (.int (Int32.ofNat (own_sz mq)))]))
  refine OwnR.of (fun _ hr => XS.isub X0.here hx rfl (hb hby d20_5) rfl hr) ?_
  show OwnR _ _ _ _ _ _ _ (s₁.setTop (mkF m 6 #[.val (.ref ra), .val (.int (0 : Int32)), .val (.int (Int32.ofNat (own_sz mq))), .val (.int (Int32.ofNat ti)), .val (.int (0 : Int32)), .unset, .unset, .unset] [(.int ((Int32.ofNat (own_sz mq)) - (1 : Int32)))]))
  refine OwnR.of (fun _ hr => XS.istore X0.here hx rfl (hb hby d20_6) rfl (l' := #[.val (.ref ra), .val (.int (0 : Int32)), .val (.int (Int32.ofNat (own_sz mq))), .val (.int (Int32.ofNat ti)), .val (.int (0 : Int32)), .val (.int ((Int32.ofNat (own_sz mq)) - (1 : Int32))), .unset, .unset]) rfl hr) ?_
  show OwnR _ _ _ _ _ _ _ (s₁.setTop (mkF m 8 #[.val (.ref ra), .val (.int (0 : Int32)), .val (.int (Int32.ofNat (own_sz mq))), .val (.int (Int32.ofNat ti)), .val (.int (0 : Int32)), .val (.int ((Int32.ofNat (own_sz mq)) - (1 : Int32))), .unset, .unset] []))
  suffices loop : ∀ (fu lo up : Nat) (TA : State) (z6 z7 : Slot), (z6 = .unset ∨ ∃ x, z6 = .val (.int x)) → (z7 = .unset ∨ ∃ x, z7 = .val (.int x)) → up ≤ own_sz mq → lo < 4 → up - lo < fu → Stand p l e ({ frames := 0, cells := 0, slots := 0, locals := 0 } : Room) s m #[(.ref ra), (.int (0 : Int32)), (.int (Int32.ofNat (own_sz mq))), (.int (Int32.ofNat ti))] below meth c TA [] 0 0 → TA.heap = h0 → own_bsl mq ti fu lo up = own_bs mq ti → OwnR p e below s (QBs0 Z mq ti h0 n0) ({ frames := 0, cells := 0, slots := 0, locals := 0 } : Room).cells ({ frames := 0, cells := 0, slots := 0, locals := 0 } : Room).slots (TA.setTop (mkF m 8 #[.val (.ref ra), .val (.int (0 : Int32)), .val (.int (Int32.ofNat (own_sz mq))), .val (.int (Int32.ofNat ti)), .val (.int (Int32.ofNat lo)), .val (.int ((Int32.ofNat up) - (1 : Int32))), z6, z7] [])) by
    exact loop 4 0 (own_sz mq) _ _ _ (Or.inl rfl) (Or.inl rfl) (Nat.le_refl _) (by decide) (own_sz3 mq hm) X0 e0 (own_bsl_eq mq hm ti ht)
  intro fu
  induction fu with
  | zero =>
    intro lo up TA z6 z7 hz6 hz7 hup hlo hfu XA eA hR
    exact absurd hfu (Nat.not_lt_zero _)
  | succ fu ih =>
    intro lo up TA z6 z7 hz6 hz7 hup hlo hfu XA eA hR
    have hup4 : up < 4 := Nat.lt_of_le_of_lt hup (own_sz3 mq hm)
    by_cases hlt : lo < up
    · skip
      obtain ⟨md, hmd⟩ : ∃ z, z = (lo + up - 1) / 2 := ⟨_, rfl⟩
      have q3 := own_b3 up hup4 lo hlt
      rw [← hmd] at q3
      obtain ⟨hmu, hm4⟩ := own_mid hlt hup4
      obtain ⟨mu1, mu2, mu3⟩ := own_mu1 hlt hfu
      rw [← hmd] at hmu hm4 mu1 mu2 mu3
      have hms : md < own_sz mq := Nat.lt_of_lt_of_le hmu hup
      have hve := own_el3 mq hm md hm4
      show OwnR _ _ _ _ _ _ _ (TA.setTop (mkF m 8 #[.val (.ref ra), .val (.int (0 : Int32)), .val (.int (Int32.ofNat (own_sz mq))), .val (.int (Int32.ofNat ti)), .val (.int (Int32.ofNat lo)), .val (.int ((Int32.ofNat up) - (1 : Int32))), z6, z7] []))
      refine OwnR.of (fun _ hr => XS.iload XA.here hx rfl (hb hby d20_8) rfl hr) ?_
      show OwnR _ _ _ _ _ _ _ (TA.setTop (mkF m 10 #[.val (.ref ra), .val (.int (0 : Int32)), .val (.int (Int32.ofNat (own_sz mq))), .val (.int (Int32.ofNat ti)), .val (.int (Int32.ofNat lo)), .val (.int ((Int32.ofNat up) - (1 : Int32))), z6, z7] [(.int (Int32.ofNat lo))]))
      refine OwnR.of (fun _ hr => XS.iload XA.here hx rfl (hb hby d20_10) rfl hr) ?_
      show OwnR _ _ _ _ _ _ _ (TA.setTop (mkF m 12 #[.val (.ref ra), .val (.int (0 : Int32)), .val (.int (Int32.ofNat (own_sz mq))), .val (.int (Int32.ofNat ti)), .val (.int (Int32.ofNat lo)), .val (.int ((Int32.ofNat up) - (1 : Int32))), z6, z7] [(.int ((Int32.ofNat up) - (1 : Int32))), (.int (Int32.ofNat lo))]))
      refine OwnR.of (fun _ hr => XS.icmpNo XA.here hx rfl (hb hby d20_12) rfl (flt (own_b1 up hup4 lo hlt)).2.2.1 hr) ?_
      show OwnR _ _ _ _ _ _ _ (TA.setTop (mkF m 15 #[.val (.ref ra), .val (.int (0 : Int32)), .val (.int (Int32.ofNat (own_sz mq))), .val (.int (Int32.ofNat ti)), .val (.int (Int32.ofNat lo)), .val (.int ((Int32.ofNat up) - (1 : Int32))), z6, z7] []))
      refine OwnR.of (fun _ hr => XS.iload XA.here hx rfl (hb hby d20_15) rfl hr) ?_
      show OwnR _ _ _ _ _ _ _ (TA.setTop (mkF m 17 #[.val (.ref ra), .val (.int (0 : Int32)), .val (.int (Int32.ofNat (own_sz mq))), .val (.int (Int32.ofNat ti)), .val (.int (Int32.ofNat lo)), .val (.int ((Int32.ofNat up) - (1 : Int32))), z6, z7] [(.int (Int32.ofNat lo))]))
      refine OwnR.of (fun _ hr => XS.iload XA.here hx rfl (hb hby d20_17) rfl hr) ?_
      show OwnR _ _ _ _ _ _ _ (TA.setTop (mkF m 19 #[.val (.ref ra), .val (.int (0 : Int32)), .val (.int (Int32.ofNat (own_sz mq))), .val (.int (Int32.ofNat ti)), .val (.int (Int32.ofNat lo)), .val (.int ((Int32.ofNat up) - (1 : Int32))), z6, z7] [(.int ((Int32.ofNat up) - (1 : Int32))), (.int (Int32.ofNat lo))]))
      refine OwnR.of (fun _ hr => XS.iadd XA.here hx rfl (hb hby d20_19) rfl hr) ?_
      show OwnR _ _ _ _ _ _ _ (TA.setTop (mkF m 20 #[.val (.ref ra), .val (.int (0 : Int32)), .val (.int (Int32.ofNat (own_sz mq))), .val (.int (Int32.ofNat ti)), .val (.int (Int32.ofNat lo)), .val (.int ((Int32.ofNat up) - (1 : Int32))), z6, z7] [(.int ((Int32.ofNat lo) + ((Int32.ofNat up) - (1 : Int32))))]))
      refine OwnR.of (fun _ hr => XS.iconst XA.here hx rfl (hb hby d20_20) hr) ?_
      show OwnR _ _ _ _ _ _ _ (TA.setTop (mkF m 21 #[.val (.ref ra), .val (.int (0 : Int32)), .val (.int (Int32.ofNat (own_sz mq))), .val (.int (Int32.ofNat ti)), .val (.int (Int32.ofNat lo)), .val (.int ((Int32.ofNat up) - (1 : Int32))), z6, z7] [(.int (1 : Int32)), (.int ((Int32.ofNat lo) + ((Int32.ofNat up) - (1 : Int32))))]))
      refine OwnR.of (fun _ hr => XS.iushr XA.here hx rfl (hb hby d20_21) rfl hr) ?_
      show OwnR _ _ _ _ _ _ _ (TA.setTop (mkF m 22 #[.val (.ref ra), .val (.int (0 : Int32)), .val (.int (Int32.ofNat (own_sz mq))), .val (.int (Int32.ofNat ti)), .val (.int (Int32.ofNat lo)), .val (.int ((Int32.ofNat up) - (1 : Int32))), z6, z7] [(.int ((((Int32.ofNat lo) + ((Int32.ofNat up) - (1 : Int32))).toUInt32 >>> ((1 : Int32) &&& 31).toUInt32).toInt32))]))
      rw [q3]
      show OwnR _ _ _ _ _ _ _ (TA.setTop (mkF m 22 #[.val (.ref ra), .val (.int (0 : Int32)), .val (.int (Int32.ofNat (own_sz mq))), .val (.int (Int32.ofNat ti)), .val (.int (Int32.ofNat lo)), .val (.int ((Int32.ofNat up) - (1 : Int32))), z6, z7] [(.int (Int32.ofNat md))]))
      refine OwnR.of (fun _ hr => XS.istore XA.here hx rfl (hb hby d20_22) rfl (l' := #[.val (.ref ra), .val (.int (0 : Int32)), .val (.int (Int32.ofNat (own_sz mq))), .val (.int (Int32.ofNat ti)), .val (.int (Int32.ofNat lo)), .val (.int ((Int32.ofNat up) - (1 : Int32))), .val (.int (Int32.ofNat md)), z7]) (by rcases hz6 with rfl | ⟨x, rfl⟩ <;> rfl) hr) ?_
      show OwnR _ _ _ _ _ _ _ (TA.setTop (mkF m 24 #[.val (.ref ra), .val (.int (0 : Int32)), .val (.int (Int32.ofNat (own_sz mq))), .val (.int (Int32.ofNat ti)), .val (.int (Int32.ofNat lo)), .val (.int ((Int32.ofNat up) - (1 : Int32))), .val (.int (Int32.ofNat md)), z7] []))
      refine OwnR.of (fun _ hr => XS.aloadN XA.here hx rfl (hb hby d20_24) rfl rfl hr) ?_
      show OwnR _ _ _ _ _ _ _ (TA.setTop (mkF m 25 #[.val (.ref ra), .val (.int (0 : Int32)), .val (.int (Int32.ofNat (own_sz mq))), .val (.int (Int32.ofNat ti)), .val (.int (Int32.ofNat lo)), .val (.int ((Int32.ofNat up) - (1 : Int32))), .val (.int (Int32.ofNat md)), z7] [(.ref ra)]))
      refine OwnR.of (fun _ hr => XS.iload XA.here hx rfl (hb hby d20_25) rfl hr) ?_
      show OwnR _ _ _ _ _ _ _ (TA.setTop (mkF m 27 #[.val (.ref ra), .val (.int (0 : Int32)), .val (.int (Int32.ofNat (own_sz mq))), .val (.int (Int32.ofNat ti)), .val (.int (Int32.ofNat lo)), .val (.int ((Int32.ofNat up) - (1 : Int32))), .val (.int (Int32.ofNat md)), z7] [(.int (Int32.ofNat md)), (.ref ra)]))
      refine OwnR.of (own_iaload XA hx hZ eA FB (own_c4 hm4) (own_n4 hm4) (Nat.lt_of_lt_of_le hms hL) (v := (.int (Int32.ofNat ((own_els mq).getD md 0)))) rfl (g := (mkF m 27 #[.val (.ref ra), .val (.int (0 : Int32)), .val (.int (Int32.ofNat (own_sz mq))), .val (.int (Int32.ofNat ti)), .val (.int (Int32.ofNat lo)), .val (.int ((Int32.ofNat up) - (1 : Int32))), .val (.int (Int32.ofNat md)), z7] [(.int (Int32.ofNat md)), (.ref ra)])) rfl rfl (hb hby d20_27)) ?_
      show OwnR _ _ _ _ _ _ _ (TA.setTop (mkF m 28 #[.val (.ref ra), .val (.int (0 : Int32)), .val (.int (Int32.ofNat (own_sz mq))), .val (.int (Int32.ofNat ti)), .val (.int (Int32.ofNat lo)), .val (.int ((Int32.ofNat up) - (1 : Int32))), .val (.int (Int32.ofNat md)), z7] [(.int (Int32.ofNat ((own_els mq).getD md 0)))]))
      refine OwnR.of (fun _ hr => XS.istore XA.here hx rfl (hb hby d20_28) rfl (l' := #[.val (.ref ra), .val (.int (0 : Int32)), .val (.int (Int32.ofNat (own_sz mq))), .val (.int (Int32.ofNat ti)), .val (.int (Int32.ofNat lo)), .val (.int ((Int32.ofNat up) - (1 : Int32))), .val (.int (Int32.ofNat md)), .val (.int (Int32.ofNat ((own_els mq).getD md 0)))]) (by rcases hz7 with rfl | ⟨x, rfl⟩ <;> rfl) hr) ?_
      show OwnR _ _ _ _ _ _ _ (TA.setTop (mkF m 30 #[.val (.ref ra), .val (.int (0 : Int32)), .val (.int (Int32.ofNat (own_sz mq))), .val (.int (Int32.ofNat ti)), .val (.int (Int32.ofNat lo)), .val (.int ((Int32.ofNat up) - (1 : Int32))), .val (.int (Int32.ofNat md)), .val (.int (Int32.ofNat ((own_els mq).getD md 0)))] []))
      refine OwnR.of (fun _ hr => XS.iload XA.here hx rfl (hb hby d20_30) rfl hr) ?_
      show OwnR _ _ _ _ _ _ _ (TA.setTop (mkF m 32 #[.val (.ref ra), .val (.int (0 : Int32)), .val (.int (Int32.ofNat (own_sz mq))), .val (.int (Int32.ofNat ti)), .val (.int (Int32.ofNat lo)), .val (.int ((Int32.ofNat up) - (1 : Int32))), .val (.int (Int32.ofNat md)), .val (.int (Int32.ofNat ((own_els mq).getD md 0)))] [(.int (Int32.ofNat ((own_els mq).getD md 0)))]))
      refine OwnR.of (fun _ hr => XS.iloadN XA.here hx rfl (hb hby d20_32) rfl hr) ?_
      show OwnR _ _ _ _ _ _ _ (TA.setTop (mkF m 33 #[.val (.ref ra), .val (.int (0 : Int32)), .val (.int (Int32.ofNat (own_sz mq))), .val (.int (Int32.ofNat ti)), .val (.int (Int32.ofNat lo)), .val (.int ((Int32.ofNat up) - (1 : Int32))), .val (.int (Int32.ofNat md)), .val (.int (Int32.ofNat ((own_els mq).getD md 0)))] [(.int (Int32.ofNat ti)), (.int (Int32.ofNat ((own_els mq).getD md 0)))]))
      by_cases hc33_1 : (Int32.ofNat ((own_els mq).getD md 0)) < (Int32.ofNat ti)
      · skip
        refine OwnR.of (fun _ hr => XS.icmpNo XA.here hx rfl (hb hby d20_33) rfl (tlt hc33_1).2.1 hr) ?_
        show OwnR _ _ _ _ _ _ _ (TA.setTop (mkF m 36 #[.val (.ref ra), .val (.int (0 : Int32)), .val (.int (Int32.ofNat (own_sz mq))), .val (.int (Int32.ofNat ti)), .val (.int (Int32.ofNat lo)), .val (.int ((Int32.ofNat up) - (1 : Int32))), .val (.int (Int32.ofNat md)), .val (.int (Int32.ofNat ((own_els mq).getD md 0)))] []))
        have hv1 : (own_els mq).getD md 0 < ti := (own_ltn (Nat.lt_trans hve (by decide)) (Nat.lt_trans ht (by decide))).mp hc33_1
        refine OwnR.of (fun _ hr => XS.iload XA.here hx rfl (hb hby d20_36) rfl hr) ?_
        show OwnR _ _ _ _ _ _ _ (TA.setTop (mkF m 38 #[.val (.ref ra), .val (.int (0 : Int32)), .val (.int (Int32.ofNat (own_sz mq))), .val (.int (Int32.ofNat ti)), .val (.int (Int32.ofNat lo)), .val (.int ((Int32.ofNat up) - (1 : Int32))), .val (.int (Int32.ofNat md)), .val (.int (Int32.ofNat ((own_els mq).getD md 0)))] [(.int (Int32.ofNat md))]))
        refine OwnR.of (fun _ hr => XS.iconst XA.here hx rfl (hb hby d20_38) hr) ?_
        show OwnR _ _ _ _ _ _ _ (TA.setTop (mkF m 39 #[.val (.ref ra), .val (.int (0 : Int32)), .val (.int (Int32.ofNat (own_sz mq))), .val (.int (Int32.ofNat ti)), .val (.int (Int32.ofNat lo)), .val (.int ((Int32.ofNat up) - (1 : Int32))), .val (.int (Int32.ofNat md)), .val (.int (Int32.ofNat ((own_els mq).getD md 0)))] [(.int (1 : Int32)), (.int (Int32.ofNat md))]))
        refine OwnR.of (fun _ hr => XS.iadd XA.here hx rfl (hb hby d20_39) rfl hr) ?_
        show OwnR _ _ _ _ _ _ _ (TA.setTop (mkF m 40 #[.val (.ref ra), .val (.int (0 : Int32)), .val (.int (Int32.ofNat (own_sz mq))), .val (.int (Int32.ofNat ti)), .val (.int (Int32.ofNat lo)), .val (.int ((Int32.ofNat up) - (1 : Int32))), .val (.int (Int32.ofNat md)), .val (.int (Int32.ofNat ((own_els mq).getD md 0)))] [(.int ((Int32.ofNat md) + (1 : Int32)))]))
        refine OwnR.of (fun _ hr => XS.istore XA.here hx rfl (hb hby d20_40) rfl (l' := #[.val (.ref ra), .val (.int (0 : Int32)), .val (.int (Int32.ofNat (own_sz mq))), .val (.int (Int32.ofNat ti)), .val (.int ((Int32.ofNat md) + (1 : Int32))), .val (.int ((Int32.ofNat up) - (1 : Int32))), .val (.int (Int32.ofNat md)), .val (.int (Int32.ofNat ((own_els mq).getD md 0)))]) rfl hr) ?_
        show OwnR _ _ _ _ _ _ _ (TA.setTop (mkF m 42 #[.val (.ref ra), .val (.int (0 : Int32)), .val (.int (Int32.ofNat (own_sz mq))), .val (.int (Int32.ofNat ti)), .val (.int ((Int32.ofNat md) + (1 : Int32))), .val (.int ((Int32.ofNat up) - (1 : Int32))), .val (.int (Int32.ofNat md)), .val (.int (Int32.ofNat ((own_els mq).getD md 0)))] []))
        refine OwnR.of (fun _ hr => XS.goto XA.here hx rfl (pc0 := 42) (pc' := 63) rfl (hb hby d20_42) (by decide) (by decide) hr) ?_
        show OwnR _ _ _ _ _ _ _ (TA.setTop (mkF m 63 #[.val (.ref ra), .val (.int (0 : Int32)), .val (.int (Int32.ofNat (own_sz mq))), .val (.int (Int32.ofNat ti)), .val (.int ((Int32.ofNat md) + (1 : Int32))), .val (.int ((Int32.ofNat up) - (1 : Int32))), .val (.int (Int32.ofNat md)), .val (.int (Int32.ofNat ((own_els mq).getD md 0)))] []))
        refine OwnR.of (fun _ hr => XS.goto XA.here hx rfl (pc0 := 63) (pc' := 8) rfl (hb hby d20_63) (by decide) (by decide) hr) ?_
        show OwnR _ _ _ _ _ _ _ (TA.setTop (mkF m 8 #[.val (.ref ra), .val (.int (0 : Int32)), .val (.int (Int32.ofNat (own_sz mq))), .val (.int (Int32.ofNat ti)), .val (.int ((Int32.ofNat md) + (1 : Int32))), .val (.int ((Int32.ofNat up) - (1 : Int32))), .val (.int (Int32.ofNat md)), .val (.int (Int32.ofNat ((own_els mq).getD md 0)))] []))
        rw [own_succ md]
        exact ih (md + 1) up _ _ _ (Or.inr ⟨_, rfl⟩) (Or.inr ⟨_, rfl⟩) hup (Nat.lt_of_le_of_lt mu3 hup4) mu1 XA eA (by rw [hmd] at hv1 ⊢; exact own_bslL hR hlt hv1)
      · skip
        refine OwnR.of (fun _ hr => XS.icmpYes XA.here hx rfl (pc0 := 33) (pc' := 45) rfl (hb hby d20_33) rfl (flt hc33_1).2.1 (by decide) (by decide) hr) ?_
        show OwnR _ _ _ _ _ _ _ (TA.setTop (mkF m 45 #[.val (.ref ra), .val (.int (0 : Int32)), .val (.int (Int32.ofNat (own_sz mq))), .val (.int (Int32.ofNat ti)), .val (.int (Int32.ofNat lo)), .val (.int ((Int32.ofNat up) - (1 : Int32))), .val (.int (Int32.ofNat md)), .val (.int (Int32.ofNat ((own_els mq).getD md 0)))] []))
        have hv1 : ¬ (own_els mq).getD md 0 < ti := fun q => hc33_1 ((own_ltn (Nat.lt_trans hve (by decide)) (Nat.lt_trans ht (by decide))).mpr q)
        refine OwnR.of (fun _ hr => XS.iload XA.here hx rfl (hb hby d20_45) rfl hr) ?_
        show OwnR _ _ _ _ _ _ _ (TA.setTop (mkF m 47 #[.val (.ref ra), .val (.int (0 : Int32)), .val (.int (Int32.ofNat (own_sz mq))), .val (.int (Int32.ofNat ti)), .val (.int (Int32.ofNat lo)), .val (.int ((Int32.ofNat up) - (1 : Int32))), .val (.int (Int32.ofNat md)), .val (.int (Int32.ofNat ((own_els mq).getD md 0)))] [(.int (Int32.ofNat ((own_els mq).getD md 0)))]))
        refine OwnR.of (fun _ hr => XS.iloadN XA.here hx rfl (hb hby d20_47) rfl hr) ?_
        show OwnR _ _ _ _ _ _ _ (TA.setTop (mkF m 48 #[.val (.ref ra), .val (.int (0 : Int32)), .val (.int (Int32.ofNat (own_sz mq))), .val (.int (Int32.ofNat ti)), .val (.int (Int32.ofNat lo)), .val (.int ((Int32.ofNat up) - (1 : Int32))), .val (.int (Int32.ofNat md)), .val (.int (Int32.ofNat ((own_els mq).getD md 0)))] [(.int (Int32.ofNat ti)), (.int (Int32.ofNat ((own_els mq).getD md 0)))]))
        by_cases hc48_2 : (Int32.ofNat ti) < (Int32.ofNat ((own_els mq).getD md 0))
        · skip
          refine OwnR.of (fun _ hr => XS.icmpNo XA.here hx rfl (hb hby d20_48) rfl (tlt hc48_2).2.2.2 hr) ?_
          show OwnR _ _ _ _ _ _ _ (TA.setTop (mkF m 51 #[.val (.ref ra), .val (.int (0 : Int32)), .val (.int (Int32.ofNat (own_sz mq))), .val (.int (Int32.ofNat ti)), .val (.int (Int32.ofNat lo)), .val (.int ((Int32.ofNat up) - (1 : Int32))), .val (.int (Int32.ofNat md)), .val (.int (Int32.ofNat ((own_els mq).getD md 0)))] []))
          have hv2 : ti < (own_els mq).getD md 0 := (own_ltn (Nat.lt_trans ht (by decide)) (Nat.lt_trans hve (by decide))).mp hc48_2
          refine OwnR.of (fun _ hr => XS.iload XA.here hx rfl (hb hby d20_51) rfl hr) ?_
          show OwnR _ _ _ _ _ _ _ (TA.setTop (mkF m 53 #[.val (.ref ra), .val (.int (0 : Int32)), .val (.int (Int32.ofNat (own_sz mq))), .val (.int (Int32.ofNat ti)), .val (.int (Int32.ofNat lo)), .val (.int ((Int32.ofNat up) - (1 : Int32))), .val (.int (Int32.ofNat md)), .val (.int (Int32.ofNat ((own_els mq).getD md 0)))] [(.int (Int32.ofNat md))]))
          refine OwnR.of (fun _ hr => XS.iconst XA.here hx rfl (hb hby d20_53) hr) ?_
          show OwnR _ _ _ _ _ _ _ (TA.setTop (mkF m 54 #[.val (.ref ra), .val (.int (0 : Int32)), .val (.int (Int32.ofNat (own_sz mq))), .val (.int (Int32.ofNat ti)), .val (.int (Int32.ofNat lo)), .val (.int ((Int32.ofNat up) - (1 : Int32))), .val (.int (Int32.ofNat md)), .val (.int (Int32.ofNat ((own_els mq).getD md 0)))] [(.int (1 : Int32)), (.int (Int32.ofNat md))]))
          refine OwnR.of (fun _ hr => XS.isub XA.here hx rfl (hb hby d20_54) rfl hr) ?_
          show OwnR _ _ _ _ _ _ _ (TA.setTop (mkF m 55 #[.val (.ref ra), .val (.int (0 : Int32)), .val (.int (Int32.ofNat (own_sz mq))), .val (.int (Int32.ofNat ti)), .val (.int (Int32.ofNat lo)), .val (.int ((Int32.ofNat up) - (1 : Int32))), .val (.int (Int32.ofNat md)), .val (.int (Int32.ofNat ((own_els mq).getD md 0)))] [(.int ((Int32.ofNat md) - (1 : Int32)))]))
          refine OwnR.of (fun _ hr => XS.istore XA.here hx rfl (hb hby d20_55) rfl (l' := #[.val (.ref ra), .val (.int (0 : Int32)), .val (.int (Int32.ofNat (own_sz mq))), .val (.int (Int32.ofNat ti)), .val (.int (Int32.ofNat lo)), .val (.int ((Int32.ofNat md) - (1 : Int32))), .val (.int (Int32.ofNat md)), .val (.int (Int32.ofNat ((own_els mq).getD md 0)))]) rfl hr) ?_
          show OwnR _ _ _ _ _ _ _ (TA.setTop (mkF m 57 #[.val (.ref ra), .val (.int (0 : Int32)), .val (.int (Int32.ofNat (own_sz mq))), .val (.int (Int32.ofNat ti)), .val (.int (Int32.ofNat lo)), .val (.int ((Int32.ofNat md) - (1 : Int32))), .val (.int (Int32.ofNat md)), .val (.int (Int32.ofNat ((own_els mq).getD md 0)))] []))
          refine OwnR.of (fun _ hr => XS.goto XA.here hx rfl (pc0 := 57) (pc' := 63) rfl (hb hby d20_57) (by decide) (by decide) hr) ?_
          show OwnR _ _ _ _ _ _ _ (TA.setTop (mkF m 63 #[.val (.ref ra), .val (.int (0 : Int32)), .val (.int (Int32.ofNat (own_sz mq))), .val (.int (Int32.ofNat ti)), .val (.int (Int32.ofNat lo)), .val (.int ((Int32.ofNat md) - (1 : Int32))), .val (.int (Int32.ofNat md)), .val (.int (Int32.ofNat ((own_els mq).getD md 0)))] []))
          refine OwnR.of (fun _ hr => XS.goto XA.here hx rfl (pc0 := 63) (pc' := 8) rfl (hb hby d20_63) (by decide) (by decide) hr) ?_
          show OwnR _ _ _ _ _ _ _ (TA.setTop (mkF m 8 #[.val (.ref ra), .val (.int (0 : Int32)), .val (.int (Int32.ofNat (own_sz mq))), .val (.int (Int32.ofNat ti)), .val (.int (Int32.ofNat lo)), .val (.int ((Int32.ofNat md) - (1 : Int32))), .val (.int (Int32.ofNat md)), .val (.int (Int32.ofNat ((own_els mq).getD md 0)))] []))
          exact ih lo md _ _ _ (Or.inr ⟨_, rfl⟩) (Or.inr ⟨_, rfl⟩) (Nat.le_trans (Nat.le_of_lt hmu) hup) hlo mu2 XA eA (by rw [hmd] at hv1 hv2 ⊢; exact own_bslG hR hlt hv1 hv2)
        · skip
          refine OwnR.of (fun _ hr => XS.icmpYes XA.here hx rfl (pc0 := 48) (pc' := 60) rfl (hb hby d20_48) rfl (flt hc48_2).2.2.2 (by decide) (by decide) hr) ?_
          show OwnR _ _ _ _ _ _ _ (TA.setTop (mkF m 60 #[.val (.ref ra), .val (.int (0 : Int32)), .val (.int (Int32.ofNat (own_sz mq))), .val (.int (Int32.ofNat ti)), .val (.int (Int32.ofNat lo)), .val (.int ((Int32.ofNat up) - (1 : Int32))), .val (.int (Int32.ofNat md)), .val (.int (Int32.ofNat ((own_els mq).getD md 0)))] []))
          have hv2 : ¬ ti < (own_els mq).getD md 0 := fun q => hc48_2 ((own_ltn (Nat.lt_trans ht (by decide)) (Nat.lt_trans hve (by decide))).mpr q)
          refine OwnR.of (fun _ hr => XS.iload XA.here hx rfl (hb hby d20_60) rfl hr) ?_
          show OwnR _ _ _ _ _ _ _ (TA.setTop (mkF m 62 #[.val (.ref ra), .val (.int (0 : Int32)), .val (.int (Int32.ofNat (own_sz mq))), .val (.int (Int32.ofNat ti)), .val (.int (Int32.ofNat lo)), .val (.int ((Int32.ofNat up) - (1 : Int32))), .val (.int (Int32.ofNat md)), .val (.int (Int32.ofNat ((own_els mq).getD md 0)))] [(.int (Int32.ofNat md))]))
          refine own_leafI XA hx hlk Bd.returns (hb hby d20_62) (by decide) (by decide) ?_
          show QBs0 Z mq ti h0 n0 _ TA.heap _
          rw [show TA.heap = h0 from eA]
          refine ⟨?_, N0, rfl⟩
          show (some (.int (Int32.ofNat md)) : Option Value) = some (.int (own_bs mq ti))
          exact congrArg (fun z => some (Value.int z)) (by rw [hmd] at hv1 hv2 ⊢; exact own_bslE hR hlt hv1 hv2)
    · skip
      show OwnR _ _ _ _ _ _ _ (TA.setTop (mkF m 8 #[.val (.ref ra), .val (.int (0 : Int32)), .val (.int (Int32.ofNat (own_sz mq))), .val (.int (Int32.ofNat ti)), .val (.int (Int32.ofNat lo)), .val (.int ((Int32.ofNat up) - (1 : Int32))), z6, z7] []))
      refine OwnR.of (fun _ hr => XS.iload XA.here hx rfl (hb hby d20_8) rfl hr) ?_
      show OwnR _ _ _ _ _ _ _ (TA.setTop (mkF m 10 #[.val (.ref ra), .val (.int (0 : Int32)), .val (.int (Int32.ofNat (own_sz mq))), .val (.int (Int32.ofNat ti)), .val (.int (Int32.ofNat lo)), .val (.int ((Int32.ofNat up) - (1 : Int32))), z6, z7] [(.int (Int32.ofNat lo))]))
      refine OwnR.of (fun _ hr => XS.iload XA.here hx rfl (hb hby d20_10) rfl hr) ?_
      show OwnR _ _ _ _ _ _ _ (TA.setTop (mkF m 12 #[.val (.ref ra), .val (.int (0 : Int32)), .val (.int (Int32.ofNat (own_sz mq))), .val (.int (Int32.ofNat ti)), .val (.int (Int32.ofNat lo)), .val (.int ((Int32.ofNat up) - (1 : Int32))), z6, z7] [(.int ((Int32.ofNat up) - (1 : Int32))), (.int (Int32.ofNat lo))]))
      refine OwnR.of (fun _ hr => XS.icmpYes XA.here hx rfl (pc0 := 12) (pc' := 66) rfl (hb hby d20_12) rfl (tlt (own_b2 up hup4 lo hlo hlt)).2.2.1 (by decide) (by decide) hr) ?_
      show OwnR _ _ _ _ _ _ _ (TA.setTop (mkF m 66 #[.val (.ref ra), .val (.int (0 : Int32)), .val (.int (Int32.ofNat (own_sz mq))), .val (.int (Int32.ofNat ti)), .val (.int (Int32.ofNat lo)), .val (.int ((Int32.ofNat up) - (1 : Int32))), z6, z7] []))
      refine OwnR.of (fun _ hr => XS.iload XA.here hx rfl (hb hby d20_66) rfl hr) ?_
      show OwnR _ _ _ _ _ _ _ (TA.setTop (mkF m 68 #[.val (.ref ra), .val (.int (0 : Int32)), .val (.int (Int32.ofNat (own_sz mq))), .val (.int (Int32.ofNat ti)), .val (.int (Int32.ofNat lo)), .val (.int ((Int32.ofNat up) - (1 : Int32))), z6, z7] [(.int (Int32.ofNat lo))]))
      refine OwnR.of (fun _ hr => XS.iconst XA.here hx rfl (hb hby d20_68) hr) ?_
      show OwnR _ _ _ _ _ _ _ (TA.setTop (mkF m 69 #[.val (.ref ra), .val (.int (0 : Int32)), .val (.int (Int32.ofNat (own_sz mq))), .val (.int (Int32.ofNat ti)), .val (.int (Int32.ofNat lo)), .val (.int ((Int32.ofNat up) - (1 : Int32))), z6, z7] [(.int (1 : Int32)), (.int (Int32.ofNat lo))]))
      refine OwnR.of (fun _ hr => XS.iadd XA.here hx rfl (hb hby d20_69) rfl hr) ?_
      show OwnR _ _ _ _ _ _ _ (TA.setTop (mkF m 70 #[.val (.ref ra), .val (.int (0 : Int32)), .val (.int (Int32.ofNat (own_sz mq))), .val (.int (Int32.ofNat ti)), .val (.int (Int32.ofNat lo)), .val (.int ((Int32.ofNat up) - (1 : Int32))), z6, z7] [(.int ((Int32.ofNat lo) + (1 : Int32)))]))
      refine OwnR.of (fun _ hr => XS.ineg XA.here hx rfl (hb hby d20_70) rfl hr) ?_
      show OwnR _ _ _ _ _ _ _ (TA.setTop (mkF m 71 #[.val (.ref ra), .val (.int (0 : Int32)), .val (.int (Int32.ofNat (own_sz mq))), .val (.int (Int32.ofNat ti)), .val (.int (Int32.ofNat lo)), .val (.int ((Int32.ofNat up) - (1 : Int32))), z6, z7] [(.int (-((Int32.ofNat lo) + (1 : Int32))))]))
      refine own_leafI XA hx hlk Bd.returns (hb hby d20_71) (by decide) (by decide) ?_
      show QBs0 Z mq ti h0 n0 _ TA.heap _
      rw [show TA.heap = h0 from eA]
      refine ⟨?_, N0, rfl⟩
      show (some (.int (-((Int32.ofNat lo) + (1 : Int32)))) : Option Value) = some (.int (own_bs mq ti))
      exact congrArg (fun z => some (Value.int z)) (own_bslN hR hlt)
theorem ef_rmBs (m : MethodId) (x0 : Addr) : entryFrame m #[(.ref x0), (.int (0 : Int32)), (.int (Int32.ofNat (own_sz mq))), (.int (Int32.ofNat ti))] 4 = mkF m 0 #[.val (.ref x0), .val (.int (0 : Int32)), .val (.int (Int32.ofNat (own_sz mq))), .val (.int (Int32.ofNat ti))] [] := by first | (simp [entryFrame, mkF, argsToLocals, Value.category]; done) | rfl
theorem d18_0 : decode jdk_65_method_58_code 0 = .ok (.aload_n 0, 1) := by decide +kernel
theorem d18_1 : decode jdk_65_method_58_code 1 = .ok (.arraylength, 1) := by decide +kernel
theorem d18_2 : decode jdk_65_method_58_code 2 = .ok (.iload_n 1, 1) := by decide +kernel
theorem d18_3 : decode jdk_65_method_58_code 3 = .ok (.iload_n 2, 1) := by decide +kernel
theorem d18_4 : decode jdk_65_method_58_code 4 = .ok (.invokestatic 13, 3) := by decide +kernel
theorem pd__III_V : parseMethodDescriptor "(III)V" = some ⟨[.int, .int, .int], none⟩ := by decide +kernel
theorem d18_7 : decode jdk_65_method_58_code 7 = .ok (.aload_n 0, 1) := by decide +kernel
theorem d18_8 : decode jdk_65_method_58_code 8 = .ok (.iload_n 1, 1) := by decide +kernel
theorem d18_9 : decode jdk_65_method_58_code 9 = .ok (.iload_n 2, 1) := by decide +kernel
theorem d18_10 : decode jdk_65_method_58_code 10 = .ok (.iload_n 3, 1) := by decide +kernel
theorem d18_11 : decode jdk_65_method_58_code 11 = .ok (.invokestatic 209, 3) := by decide +kernel
theorem pd___IIII_I : parseMethodDescriptor "([IIII)I" = some ⟨[(.array .int), .int, .int, .int], some .int⟩ := by decide +kernel
theorem d18_14 : decode jdk_65_method_58_code 14 = .ok (.ireturn, 1) := by decide +kernel
def QBs (Z : State) (mq : Nat) (ti : Nat) (h0 : Heap) (n0 : Nat) (v : Option Value) (h : Heap) (L : List Loc) : Prop := v = some (.int (own_bs mq ti)) ∧ Fr n0 L ∧ h = h0
set_option maxRecDepth 65536 in
set_option maxHeartbeats 40000000 in
theorem rmBs (l : Launch) (Z : State) (a0 : Array Value) (hw : ∀ d ∈ tables_1, d.before a0 Z = true) (ws : List Jvm.Cond) (ra : Addr) (kb : ClassId) (Lb mq ti : Nat) (h0 : Heap) (n0 : Nat) (Z0 : n0 ≤ h0.size) (FB : OwnF Z h0 ra kb .int Lb (own_rowv mq)) (hL : own_sz mq ≤ Lb) (hL4 : Lb < 4) (hm : mq < 8) (ht : ti < 3) :
    MetFree l (⟨"java/util/Arrays", "binarySearch", "([IIII)I"⟩ : MethodName) (head1 (Jvm.Cond.code (⟨"java/util/Arrays", "binarySearch", "([IIII)I"⟩ : MethodName) jdk_65_method_58_code 4 (some .int) :: ws) ({ frames := 1, cells := 0, slots := 0, locals := 20 } : Room)) (fun a U => a = #[(.ref ra), (.int (0 : Int32)), (.int (Int32.ofNat (own_sz mq))), (.int (Int32.ofNat ti))] ∧ Z.Warmed39 U.vm ∧ U.heap = h0) (fun _ _ _ _ _ => True) (fun _ U o U' => ∃ v L, o = .returned v ∧ QBs Z mq ti h0 n0 v U'.heap L ∧ FrameEnd U o U' L ({ frames := 1, cells := 0, slots := 0, locals := 20 } : Room).cells ({ frames := 1, cells := 0, slots := 0, locals := 20 } : Room).slots) := by
  refine MetFree.of_bodySF (plainFor_of_name pn_java_util_Arrays) hisR ?_
  intro p e s m args below meth c s₁ Bd hml0 hP hK
  obtain ⟨rfl, hZ, hh⟩ := hP
  have hx := Bd.exec
  have hby := Bd.bytes
  have hlk := BodyLoose.notSynchronized Bd
  have hml : c.maxLocals = 4 := hml0
  have hown : s.vm.findClass "java/util/Arrays" = some m.cls := findClass_of_methodNamed Bd.named
  have hnm := (name_of_methodNamed Bd.named Bd.method).1
  have X0 : Stand p l e ({ frames := 1, cells := 0, slots := 0, locals := 20 } : Room) s m #[(.ref ra), (.int (0 : Int32)), (.int (Int32.ofNat (own_sz mq))), (.int (Int32.ofNat ti))] below meth c s₁ [] 0 0 := Stand.of_body Bd
  have e0 : s₁.heap = h0 := by rw [← hh, Bd.state]; rfl
  have N0 := Fr.nil n0
  refine OwnR.of (s := s) (Q := QBs Z mq ti h0 n0) (fun t k => castTop (ef_rmBs m ra) k) ?_
  show OwnR _ _ _ _ _ _ _ (s₁.setTop (mkF m 0 #[.val (.ref ra), .val (.int (0 : Int32)), .val (.int (Int32.ofNat (own_sz mq))), .val (.int (Int32.ofNat ti))] []))
  refine OwnR.of (fun _ hr => XS.aloadN X0.here hx rfl (hb hby d18_0) rfl rfl hr) ?_
  show OwnR _ _ _ _ _ _ _ (s₁.setTop (mkF m 1 #[.val (.ref ra), .val (.int (0 : Int32)), .val (.int (Int32.ofNat (own_sz mq))), .val (.int (Int32.ofNat ti))] [(.ref ra)]))
  refine OwnR.of (own_alen X0 hx hZ e0 FB (z := (Int32.ofNat Lb)) (own_c4 hL4) (own_n4 hL4) (g := (mkF m 1 #[.val (.ref ra), .val (.int (0 : Int32)), .val (.int (Int32.ofNat (own_sz mq))), .val (.int (Int32.ofNat ti))] [(.ref ra)])) rfl rfl (hb hby d18_1)) ?_
  show OwnR _ _ _ _ _ _ _ (s₁.setTop (mkF m 2 #[.val (.ref ra), .val (.int (0 : Int32)), .val (.int (Int32.ofNat (own_sz mq))), .val (.int (Int32.ofNat ti))] [(.int (Int32.ofNat Lb))]))
  refine OwnR.of (fun _ hr => XS.iloadN X0.here hx rfl (hb hby d18_2) rfl hr) ?_
  show OwnR _ _ _ _ _ _ _ (s₁.setTop (mkF m 3 #[.val (.ref ra), .val (.int (0 : Int32)), .val (.int (Int32.ofNat (own_sz mq))), .val (.int (Int32.ofNat ti))] [(.int (0 : Int32)), (.int (Int32.ofNat Lb))]))
  refine OwnR.of (fun _ hr => XS.iloadN X0.here hx rfl (hb hby d18_3) rfl hr) ?_
  show OwnR _ _ _ _ _ _ _ (s₁.setTop (mkF m 4 #[.val (.ref ra), .val (.int (0 : Int32)), .val (.int (Int32.ofNat (own_sz mq))), .val (.int (Int32.ofNat ti))] [(.int (Int32.ofNat (own_sz mq))), (.int (0 : Int32)), (.int (Int32.ofNat Lb))]))
  obtain ⟨_, _, ⟨T1, L1, kc1, ns1⟩, -, X1, ⟨Lc1, hQ1, l1, y1, z1⟩, st1⟩ := Jvm.LawKit.callS X0 hx (y := (⟨"java/util/Arrays", "rangeCheck", "(III)V"⟩ : MethodName)) hown (mvT hZ (hw _ (List.mem_of_getElem? (i := 82) rfl))) (mvT hZ (hw _ (List.mem_of_getElem? (i := 83) rfl))) (mvT hZ (hw _ (List.mem_of_getElem? (i := 21) rfl))) (mvT hZ (hw _ (List.mem_of_getElem? (i := 84) rfl))) (by decide) (backOf (W := 0) (rmRng l Z a0 hw [] (Int32.ofNat Lb) (Int32.ofNat (own_sz mq)) h0 n0 (Nat.le_trans Z0 (Keep.refl h0 []).1) (own_ge4 hL hL4) (own_n4 (own_sz3 _ hm))) hZ (hw _ (List.mem_of_getElem? (i := 84) rfl)) (hw _ (List.mem_of_getElem? (i := 21) rfl)) (by decide) (by decide)) (g := (mkF m 4 #[.val (.ref ra), .val (.int (0 : Int32)), .val (.int (Int32.ofNat (own_sz mq))), .val (.int (Int32.ofNat ti))] [(.int (Int32.ofNat (own_sz mq))), (.int (0 : Int32)), (.int (Int32.ofNat Lb))])) rfl (by rw [hml]; rfl) (argsL := [(.int (Int32.ofNat Lb)), (.int (0 : Int32)), (.int (Int32.ofNat (own_sz mq)))]) (rest := []) (lenOf pd__III_V rfl) rfl (by show 2 * 0 + _ ≤ _; exact Nat.le_of_eq rfl) (hb hby d18_4) (fun _ _ => ⟨rfl, e0, (by decide : 0 + 0 ≤ _), (by decide : 0 + 0 ≤ _)⟩)
  dsimp only [Pt.U, Pt.locs, Pt.cells, Pt.slots] at X1 l1 y1 z1 st1 hQ1
  rw [l1, y1, z1] at X1
  obtain ⟨rfl, N1q, e1⟩ := hQ1
  have N1 := Fr.app N0 N1q
  refine OwnR.of (st1) ?_
  show OwnR _ _ _ _ _ _ _ (T1.setTop (mkF m 7 #[.val (.ref ra), .val (.int (0 : Int32)), .val (.int (Int32.ofNat (own_sz mq))), .val (.int (Int32.ofNat ti))] []))
  refine OwnR.of (fun _ hr => XS.aloadN X1.here hx rfl (hb hby d18_7) rfl rfl hr) ?_
  show OwnR _ _ _ _ _ _ _ (T1.setTop (mkF m 8 #[.val (.ref ra), .val (.int (0 : Int32)), .val (.int (Int32.ofNat (own_sz mq))), .val (.int (Int32.ofNat ti))] [(.ref ra)]))
  refine OwnR.of (fun _ hr => XS.iloadN X1.here hx rfl (hb hby d18_8) rfl hr) ?_
  show OwnR _ _ _ _ _ _ _ (T1.setTop (mkF m 9 #[.val (.ref ra), .val (.int (0 : Int32)), .val (.int (Int32.ofNat (own_sz mq))), .val (.int (Int32.ofNat ti))] [(.int (0 : Int32)), (.ref ra)]))
  refine OwnR.of (fun _ hr => XS.iloadN X1.here hx rfl (hb hby d18_9) rfl hr) ?_
  show OwnR _ _ _ _ _ _ _ (T1.setTop (mkF m 10 #[.val (.ref ra), .val (.int (0 : Int32)), .val (.int (Int32.ofNat (own_sz mq))), .val (.int (Int32.ofNat ti))] [(.int (Int32.ofNat (own_sz mq))), (.int (0 : Int32)), (.ref ra)]))
  refine OwnR.of (fun _ hr => XS.iloadN X1.here hx rfl (hb hby d18_10) rfl hr) ?_
  show OwnR _ _ _ _ _ _ _ (T1.setTop (mkF m 11 #[.val (.ref ra), .val (.int (0 : Int32)), .val (.int (Int32.ofNat (own_sz mq))), .val (.int (Int32.ofNat ti))] [(.int (Int32.ofNat ti)), (.int (Int32.ofNat (own_sz mq))), (.int (0 : Int32)), (.ref ra)]))
  obtain ⟨_, _, ⟨T2, L2, kc2, ns2⟩, -, X2, ⟨Lc2, hQ2, l2, y2, z2⟩, st2⟩ := Jvm.LawKit.callS X1 hx (y := (⟨"java/util/Arrays", "binarySearch0", "([IIII)I"⟩ : MethodName)) hown (mvT hZ (hw _ (List.mem_of_getElem? (i := 85) rfl))) (mvT hZ (hw _ (List.mem_of_getElem? (i := 86) rfl))) (mvT hZ (hw _ (List.mem_of_getElem? (i := 21) rfl))) (mvT hZ (hw _ (List.mem_of_getElem? (i := 87) rfl))) (by decide) (backOf (W := 0) (rmBs0 l Z a0 hw [] ra kb Lb mq ti h0 n0 (Nat.le_trans Z0 (Keep.refl h0 []).1) FB hL hL4 hm ht) hZ (hw _ (List.mem_of_getElem? (i := 87) rfl)) (hw _ (List.mem_of_getElem? (i := 21) rfl)) (by decide) (by decide)) (g := (mkF m 11 #[.val (.ref ra), .val (.int (0 : Int32)), .val (.int (Int32.ofNat (own_sz mq))), .val (.int (Int32.ofNat ti))] [(.int (Int32.ofNat ti)), (.int (Int32.ofNat (own_sz mq))), (.int (0 : Int32)), (.ref ra)])) rfl (by rw [hml]; rfl) (argsL := [(.ref ra), (.int (0 : Int32)), (.int (Int32.ofNat (own_sz mq))), (.int (Int32.ofNat ti))]) (rest := []) (lenOf pd___IIII_I rfl) rfl (by show 2 * 0 + _ ≤ _; exact Nat.le_of_eq rfl) (hb hby d18_11) (fun _ _ => ⟨rfl, e1, (by decide : 0 + 0 ≤ _), (by decide : 0 + 0 ≤ _)⟩)
  dsimp only [Pt.U, Pt.locs, Pt.cells, Pt.slots] at X2 l2 y2 z2 st2 hQ2
  rw [l2, y2, z2] at X2
  obtain ⟨rfl, N2q, e2⟩ := hQ2
  have N2 := Fr.app N1 N2q
  refine OwnR.of (st2) ?_
  show OwnR _ _ _ _ _ _ _ (T2.setTop (mkF m 14 #[.val (.ref ra), .val (.int (0 : Int32)), .val (.int (Int32.ofNat (own_sz mq))), .val (.int (Int32.ofNat ti))] [(.int (own_bs mq ti))]))
  refine own_leafI X2 hx hlk Bd.returns (hb hby d18_14) (by decide) (by decide) ?_
  show QBs Z mq ti h0 n0 _ T2.heap _
  rw [show T2.heap = h0 from e2]
  refine ⟨?_, N2, rfl⟩
  show (some (.int (own_bs mq ti)) : Option Value) = some (.int (own_bs mq ti))
  rfl
theorem pn_com_example_fast_taxonomy_fasttaxonomy_taxonomy_Relation : plainName "com/example/fast_taxonomy/fasttaxonomy/taxonomy/Relation" = true := by first | (simp [plainName, overriddenIn]; done) | decide +kernel
theorem ef_rmElem (m : MethodId) (x0 : Addr) : entryFrame m #[(.ref x0), (.int (Int32.ofNat xi))] 2 = mkF m 0 #[.val (.ref x0), .val (.int (Int32.ofNat xi))] [] := by first | (simp [entryFrame, mkF, argsToLocals, Value.category]; done) | rfl
theorem d15_0 : decode prog_24_method_17_code 0 = .ok (.iload_n 1, 1) := by decide +kernel
theorem d15_1 : decode prog_24_method_17_code 1 = .ok (.aload_n 0, 1) := by decide +kernel
theorem d15_2 : decode prog_24_method_17_code 2 = .ok (.getfield 18, 3) := by decide +kernel
theorem d15_5 : decode prog_24_method_17_code 5 = .ok (.arraylength, 1) := by decide +kernel
theorem d15_6 : decode prog_24_method_17_code 6 = .ok (.invokestatic 75, 3) := by decide +kernel
theorem pd__II_I : parseMethodDescriptor "(II)I" = some ⟨[.int, .int], some .int⟩ := by decide +kernel
theorem d15_9 : decode prog_24_method_17_code 9 = .ok (.pop, 1) := by decide +kernel
theorem d15_10 : decode prog_24_method_17_code 10 = .ok (.return_, 1) := by decide +kernel
def QElem (Z : State)  (h0 : Heap) (n0 : Nat) (v : Option Value) (h : Heap) (L : List Loc) : Prop := v = none ∧ Fr n0 L ∧ h = h0
set_option maxRecDepth 65536 in
set_option maxHeartbeats 40000000 in
theorem rmElem (l : Launch) (Z : State) (a0 : Array Value) (hw : ∀ d ∈ tables_1, d.before a0 Z = true) (ws : List Jvm.Cond) (rel : Addr) (ro : Addr) (kW : ClassId) (n xi : Nat) (B : Nat → Addr) (h0 : Heap) (n0 : Nat) (Z0 : n0 ≤ h0.size) (E_rel : Exa Z h0 rel "com/example/fast_taxonomy/fasttaxonomy/taxonomy/Relation") (F_rows_rel : Fld Z h0 rel "com/example/fast_taxonomy/fasttaxonomy/taxonomy/Relation" "rows" "[[I" (.ref ro)) (FW : OwnF Z h0 ro kW (.array .int) n (fun i => .ref (B i))) (hxi : xi < n) (hn4 : n < 4) :
    MetFree l (⟨"com/example/fast_taxonomy/fasttaxonomy/taxonomy/Relation", "checkElement", "(I)V"⟩ : MethodName) (head1 (Jvm.Cond.code (⟨"com/example/fast_taxonomy/fasttaxonomy/taxonomy/Relation", "checkElement", "(I)V"⟩ : MethodName) prog_24_method_17_code 2 none :: ws) ({ frames := 2, cells := 0, slots := 0, locals := 40 } : Room)) (fun a U => a = #[(.ref rel), (.int (Int32.ofNat xi))] ∧ Z.Warmed39 U.vm ∧ U.heap = h0) (fun _ _ _ _ _ => True) (fun _ U o U' => ∃ v L, o = .returned v ∧ QElem Z  h0 n0 v U'.heap L ∧ FrameEnd U o U' L ({ frames := 2, cells := 0, slots := 0, locals := 40 } : Room).cells ({ frames := 2, cells := 0, slots := 0, locals := 40 } : Room).slots) := by
  refine MetFree.of_bodySF (plainFor_of_name pn_com_example_fast_taxonomy_fasttaxonomy_taxonomy_Relation) hisR ?_
  intro p e s m args below meth c s₁ Bd hml0 hP hK
  obtain ⟨rfl, hZ, hh⟩ := hP
  have hx := Bd.exec
  have hby := Bd.bytes
  have hlk := BodyLoose.notSynchronized Bd
  have hml : c.maxLocals = 2 := hml0
  have hown : s.vm.findClass "com/example/fast_taxonomy/fasttaxonomy/taxonomy/Relation" = some m.cls := findClass_of_methodNamed Bd.named
  have hnm := (name_of_methodNamed Bd.named Bd.method).1
  have X0 : Stand p l e ({ frames := 2, cells := 0, slots := 0, locals := 40 } : Room) s m #[(.ref rel), (.int (Int32.ofNat xi))] below meth c s₁ [] 0 0 := Stand.of_body Bd
  have e0 : s₁.heap = h0 := by rw [← hh, Bd.state]; rfl
  have N0 := Fr.nil n0
  refine OwnR.of (s := s) (Q := QElem Z  h0 n0) (fun t k => castTop (ef_rmElem m rel) k) ?_
  show OwnR _ _ _ _ _ _ _ (s₁.setTop (mkF m 0 #[.val (.ref rel), .val (.int (Int32.ofNat xi))] []))
  refine OwnR.of (fun _ hr => XS.iloadN X0.here hx rfl (hb hby d15_0) rfl hr) ?_
  show OwnR _ _ _ _ _ _ _ (s₁.setTop (mkF m 1 #[.val (.ref rel), .val (.int (Int32.ofNat xi))] [(.int (Int32.ofNat xi))]))
  refine OwnR.of (fun _ hr => XS.aloadN X0.here hx rfl (hb hby d15_1) rfl rfl hr) ?_
  show OwnR _ _ _ _ _ _ _ (s₁.setTop (mkF m 2 #[.val (.ref rel), .val (.int (Int32.ofNat xi))] [(.ref rel), (.int (Int32.ofNat xi))]))
  obtain ⟨T1, X1, e1, st1⟩ := getF X0 hx hZ hown (host := "") (Or.inl (hw _ (List.mem_of_getElem? (i := 15) rfl))) Via.refl e0 F_rows_rel (g := (mkF m 2 #[.val (.ref rel), .val (.int (Int32.ofNat xi))] [(.ref rel), (.int (Int32.ofNat xi))])) rfl rfl (hb hby d15_2)
  refine OwnR.of (st1) ?_
  show OwnR _ _ _ _ _ _ _ (T1.setTop (mkF m 5 #[.val (.ref rel), .val (.int (Int32.ofNat xi))] [(.ref ro), (.int (Int32.ofNat xi))]))
  refine OwnR.of (own_alen X1 hx hZ e1 FW (z := (Int32.ofNat n)) (own_c4 hn4) (own_n4 hn4) (g := (mkF m 5 #[.val (.ref rel), .val (.int (Int32.ofNat xi))] [(.ref ro), (.int (Int32.ofNat xi))])) rfl rfl (hb hby d15_5)) ?_
  show OwnR _ _ _ _ _ _ _ (T1.setTop (mkF m 6 #[.val (.ref rel), .val (.int (Int32.ofNat xi))] [(.int (Int32.ofNat n)), (.int (Int32.ofNat xi))]))
  obtain ⟨_, _, ⟨T2, L2, kc2, ns2⟩, -, X2, ⟨Lc2, hQ2, l2, y2, z2⟩, st2⟩ := Jvm.LawKit.callS X1 hx (y := (⟨"java/util/Objects", "checkIndex", "(II)I"⟩ : MethodName)) hown (mvT hZ (hw _ (List.mem_of_getElem? (i := 71) rfl))) (mvT hZ (hw _ (List.mem_of_getElem? (i := 72) rfl))) (mvT hZ (hw _ (List.mem_of_getElem? (i := 73) rfl))) (mvT hZ (hw _ (List.mem_of_getElem? (i := 74) rfl))) (by decide) (backOf (W := 0) (rmChk l Z a0 hw [] (Int32.ofNat xi) (Int32.ofNat n) h0 n0 (Nat.le_trans Z0 (Keep.refl h0 []).1) (own_nN hxi hn4) (own_lt4 hxi hn4)) hZ (hw _ (List.mem_of_getElem? (i := 74) rfl)) (hw _ (List.mem_of_getElem? (i := 73) rfl)) (by decide) (by decide)) (g := (mkF m 6 #[.val (.ref rel), .val (.int (Int32.ofNat xi))] [(.int (Int32.ofNat n)), (.int (Int32.ofNat xi))])) rfl (by rw [hml]; rfl) (argsL := [(.int (Int32.ofNat xi)), (.int (Int32.ofNat n))]) (rest := []) (lenOf pd__II_I rfl) rfl (by show 2 * 0 + _ ≤ _; exact Nat.le_of_eq rfl) (hb hby d15_6) (fun _ _ => ⟨rfl, e1, (by decide : 0 + 0 ≤ _), (by decide : 0 + 0 ≤ _)⟩)
  dsimp only [Pt.U, Pt.locs, Pt.cells, Pt.slots] at X2 l2 y2 z2 st2 hQ2
  rw [l2, y2, z2] at X2
  obtain ⟨rfl, N2q, e2⟩ := hQ2
  have N2 := Fr.app N0 N2q
  refine OwnR.of (st2) ?_
  show OwnR _ _ _ _ _ _ _ (T2.setTop (mkF m 9 #[.val (.ref rel), .val (.int (Int32.ofNat xi))] [(.int (Int32.ofNat xi))]))
  refine OwnR.of (fun _ hr => XS.pop X2.here hx rfl (hb hby d15_9) rfl rfl hr) ?_
  show OwnR _ _ _ _ _ _ _ (T2.setTop (mkF m 10 #[.val (.ref rel), .val (.int (Int32.ofNat xi))] []))
  refine own_leafV X2 hx hlk Bd.returns (hb hby d15_10) (by decide) (by decide) ?_
  show QElem Z  h0 n0 _ T2.heap _
  rw [show T2.heap = h0 from e2]
  refine ⟨rfl, N2, rfl⟩
theorem own_Lb {Lb n : Nat} {P Q R : Prop} (hn : n < 4) (h : (P ∧ Lb = 0 ∧ Q) ∨ (Lb = n ∧ R)) : Lb < 4 := by
  rcases h with ⟨-, h, -⟩ | ⟨h, -⟩ <;> omega
theorem ef_rmSearch (m : MethodId) (x0 : Addr) : entryFrame m #[(.ref x0), (.int (Int32.ofNat fi)), (.int (Int32.ofNat ti))] 3 = mkF m 0 #[.val (.ref x0), .val (.int (Int32.ofNat fi)), .val (.int (Int32.ofNat ti))] [] := by first | (simp [entryFrame, mkF, argsToLocals, Value.category]; done) | rfl
theorem d14_0 : decode prog_24_method_16_code 0 = .ok (.aload_n 0, 1) := by decide +kernel
theorem d14_1 : decode prog_24_method_16_code 1 = .ok (.iload_n 1, 1) := by decide +kernel
theorem d14_2 : decode prog_24_method_16_code 2 = .ok (.invokevirtual 67, 3) := by decide +kernel
theorem pd__I_V : parseMethodDescriptor "(I)V" = some ⟨[.int], none⟩ := by decide +kernel
theorem d14_5 : decode prog_24_method_16_code 5 = .ok (.aload_n 0, 1) := by decide +kernel
theorem d14_6 : decode prog_24_method_16_code 6 = .ok (.iload_n 2, 1) := by decide +kernel
theorem d14_7 : decode prog_24_method_16_code 7 = .ok (.invokevirtual 67, 3) := by decide +kernel
theorem d14_10 : decode prog_24_method_16_code 10 = .ok (.aload_n 0, 1) := by decide +kernel
theorem d14_11 : decode prog_24_method_16_code 11 = .ok (.getfield 18, 3) := by decide +kernel
theorem d14_14 : decode prog_24_method_16_code 14 = .ok (.iload_n 1, 1) := by decide +kernel
theorem d14_15 : decode prog_24_method_16_code 15 = .ok (.aaload, 1) := by decide +kernel
theorem d14_16 : decode prog_24_method_16_code 16 = .ok (.iconst 0, 1) := by decide +kernel
theorem d14_17 : decode prog_24_method_16_code 17 = .ok (.aload_n 0, 1) := by decide +kernel
theorem d14_18 : decode prog_24_method_16_code 18 = .ok (.getfield 33, 3) := by decide +kernel
theorem d14_21 : decode prog_24_method_16_code 21 = .ok (.iload_n 1, 1) := by decide +kernel
theorem d14_22 : decode prog_24_method_16_code 22 = .ok (.iaload, 1) := by decide +kernel
theorem d14_23 : decode prog_24_method_16_code 23 = .ok (.iload_n 2, 1) := by decide +kernel
theorem d14_24 : decode prog_24_method_16_code 24 = .ok (.invokestatic 97, 3) := by decide +kernel
theorem d14_27 : decode prog_24_method_16_code 27 = .ok (.ireturn, 1) := by decide +kernel
def QSearch (Z : State) (M : Nat → Nat) (fi : Nat) (ti : Nat) (h0 : Heap) (n0 : Nat) (v : Option Value) (h : Heap) (L : List Loc) : Prop := v = some (.int (own_bs (M fi) ti)) ∧ Fr n0 L ∧ h = h0
set_option maxRecDepth 65536 in
set_option maxHeartbeats 40000000 in
theorem rmSearch (l : Launch) (Z : State) (a0 : Array Value) (hw : ∀ d ∈ tables_1, d.before a0 Z = true) (ws : List Jvm.Cond) (rel : Addr) (em ro rz : Addr) (kW kS : ClassId) (n : Nat) (M : Nat → Nat) (B : Nat → Addr) (fi ti : Nat) (h0 : Heap) (n0 : Nat) (Z0 : n0 ≤ h0.size) (E_rel : Exa Z h0 rel "com/example/fast_taxonomy/fasttaxonomy/taxonomy/Relation") (F_rows_rel : Fld Z h0 rel "com/example/fast_taxonomy/fasttaxonomy/taxonomy/Relation" "rows" "[[I" (.ref ro)) (F_rowSizes_rel : Fld Z h0 rel "com/example/fast_taxonomy/fasttaxonomy/taxonomy/Relation" "rowSizes" "[I" (.ref rz)) (RR : OwnRel Z h0 em ro rz kW kS n M B) (hn4 : n < 4) (hM : ∀ i, M i < 2 ^ n) (hf : fi < n) (ht : ti < n) :
    MetFree l (⟨"com/example/fast_taxonomy/fasttaxonomy/taxonomy/Relation", "search", "(II)I"⟩ : MethodName) (head1 (Jvm.Cond.code (⟨"com/example/fast_taxonomy/fasttaxonomy/taxonomy/Relation", "search", "(II)I"⟩ : MethodName) prog_24_method_16_code 3 (some .int) :: ws) ({ frames := 3, cells := 0, slots := 0, locals := 60 } : Room)) (fun a U => a = #[(.ref rel), (.int (Int32.ofNat fi)), (.int (Int32.ofNat ti))] ∧ Z.Warmed39 U.vm ∧ U.heap = h0) (fun _ _ _ _ _ => True) (fun _ U o U' => ∃ v L, o = .returned v ∧ QSearch Z M fi ti h0 n0 v U'.heap L ∧ FrameEnd U o U' L ({ frames := 3, cells := 0, slots := 0, locals := 60 } : Room).cells ({ frames := 3, cells := 0, slots := 0, locals := 60 } : Room).slots) := by
  refine MetFree.of_bodySF (plainFor_of_name pn_com_example_fast_taxonomy_fasttaxonomy_taxonomy_Relation) hisR ?_
  intro p e s m args below meth c s₁ Bd hml0 hP hK
  obtain ⟨rfl, hZ, hh⟩ := hP
  have hx := Bd.exec
  have hby := Bd.bytes
  have hlk := BodyLoose.notSynchronized Bd
  have hml : c.maxLocals = 3 := hml0
  have hown : s.vm.findClass "com/example/fast_taxonomy/fasttaxonomy/taxonomy/Relation" = some m.cls := findClass_of_methodNamed Bd.named
  have hnm := (name_of_methodNamed Bd.named Bd.method).1
  have X0 : Stand p l e ({ frames := 3, cells := 0, slots := 0, locals := 60 } : Room) s m #[(.ref rel), (.int (Int32.ofNat fi)), (.int (Int32.ofNat ti))] below meth c s₁ [] 0 0 := Stand.of_body Bd
  have e0 : s₁.heap = h0 := by rw [← hh, Bd.state]; rfl
  have N0 := Fr.nil n0
  refine OwnR.of (s := s) (Q := QSearch Z M fi ti h0 n0) (fun t k => castTop (ef_rmSearch m rel) k) ?_
  show OwnR _ _ _ _ _ _ _ (s₁.setTop (mkF m 0 #[.val (.ref rel), .val (.int (Int32.ofNat fi)), .val (.int (Int32.ofNat ti))] []))
  obtain ⟨kb, Lb, FB, hLb, hcs⟩ := RR.2.2.1 fi hf
  refine OwnR.of (fun _ hr => XS.aloadN X0.here hx rfl (hb hby d14_0) rfl rfl hr) ?_
  show OwnR _ _ _ _ _ _ _ (s₁.setTop (mkF m 1 #[.val (.ref rel), .val (.int (Int32.ofNat fi)), .val (.int (Int32.ofNat ti))] [(.ref rel)]))
  refine OwnR.of (fun _ hr => XS.iloadN X0.here hx rfl (hb hby d14_1) rfl hr) ?_
  show OwnR _ _ _ _ _ _ _ (s₁.setTop (mkF m 2 #[.val (.ref rel), .val (.int (Int32.ofNat fi)), .val (.int (Int32.ofNat ti))] [(.int (Int32.ofNat fi)), (.ref rel)]))
  obtain ⟨cq1, q1, q1'⟩ := Exa.cell E_rel
  obtain ⟨_, _, ⟨T1, L1, kc1, ns1⟩, -, X1, ⟨Lc1, hQ1, l1, y1, z1⟩, st1⟩ := X0.privateBack hx (y := (⟨"com/example/fast_taxonomy/fasttaxonomy/taxonomy/Relation", "checkElement", "(I)V"⟩ : MethodName)) hown (mvT hZ (hw _ (List.mem_of_getElem? (i := 67) rfl))) (mvT hZ (hw _ (List.mem_of_getElem? (i := 68) rfl))) (mvT hZ (own_selp hw (y := (⟨"com/example/fast_taxonomy/fasttaxonomy/taxonomy/Relation", "checkElement", "(I)V"⟩ : MethodName)) rfl (hw _ (List.mem_of_getElem? (i := 69) rfl)) (hw _ (List.mem_of_getElem? (i := 68) rfl)))) (Cond.privateMethod_at (mvP hZ (hw _ (List.mem_of_getElem? (i := 69) rfl)) (args := #[]))) (mvT hZ (hw _ (List.mem_of_getElem? (i := 70) rfl))) (by decide) (backOf (W := 0) (rmElem l Z a0 hw [] rel ro kW n fi B h0 n0 (Nat.le_trans Z0 (Keep.refl h0 []).1) E_rel F_rows_rel (RR.1) hf hn4) hZ (hw _ (List.mem_of_getElem? (i := 70) rfl)) (hw _ (List.mem_of_getElem? (i := 6) rfl)) (by decide) (by decide)) (g := (mkF m 2 #[.val (.ref rel), .val (.int (Int32.ofNat fi)), .val (.int (Int32.ofNat ti))] [(.int (Int32.ofNat fi)), (.ref rel)])) rfl (by rw [hml]; rfl) (Steps.refl _) (a := rel) (by rw [e0]; exact q1) q1' (argsL := [(.int (Int32.ofNat fi))]) (rest := []) (lenOf pd__I_V rfl) rfl (by show 2 * 0 + _ ≤ _; exact Nat.le_of_eq rfl) (hb hby d14_2) (fun _ _ => ⟨rfl, e0, (by decide : 0 + 0 ≤ _), (by decide : 0 + 0 ≤ _)⟩)
  dsimp only [Pt.U, Pt.locs, Pt.cells, Pt.slots] at X1 l1 y1 z1 st1 hQ1
  rw [l1, y1, z1] at X1
  obtain ⟨rfl, N1q, e1⟩ := hQ1
  have N1 := Fr.app N0 N1q
  refine OwnR.of (fun _ hr => st1.trans hr) ?_
  show OwnR _ _ _ _ _ _ _ (T1.setTop (mkF m 5 #[.val (.ref rel), .val (.int (Int32.ofNat fi)), .val (.int (Int32.ofNat ti))] []))
  refine OwnR.of (fun _ hr => XS.aloadN X1.here hx rfl (hb hby d14_5) rfl rfl hr) ?_
  show OwnR _ _ _ _ _ _ _ (T1.setTop (mkF m 6 #[.val (.ref rel), .val (.int (Int32.ofNat fi)), .val (.int (Int32.ofNat ti))] [(.ref rel)]))
  refine OwnR.of (fun _ hr => XS.iloadN X1.here hx rfl (hb hby d14_6) rfl hr) ?_
  show OwnR _ _ _ _ _ _ _ (T1.setTop (mkF m 7 #[.val (.ref rel), .val (.int (Int32.ofNat fi)), .val (.int (Int32.ofNat ti))] [(.int (Int32.ofNat ti)), (.ref rel)]))
  obtain ⟨cq2, q2, q2'⟩ := Exa.cell E_rel
  obtain ⟨_, _, ⟨T2, L2, kc2, ns2⟩, -, X2, ⟨Lc2, hQ2, l2, y2, z2⟩, st2⟩ := X1.privateBack hx (y := (⟨"com/example/fast_taxonomy/fasttaxonomy/taxonomy/Relation", "checkElement", "(I)V"⟩ : MethodName)) hown (mvT hZ (hw _ (List.mem_of_getElem? (i := 67) rfl))) (mvT hZ (hw _ (List.mem_of_getElem? (i := 68) rfl))) (mvT hZ (own_selp hw (y := (⟨"com/example/fast_taxonomy/fasttaxonomy/taxonomy/Relation", "checkElement", "(I)V"⟩ : MethodName)) rfl (hw _ (List.mem_of_getElem? (i := 69) rfl)) (hw _ (List.mem_of_getElem? (i := 68) rfl)))) (Cond.privateMethod_at (mvP hZ (hw _ (List.mem_of_getElem? (i := 69) rfl)) (args := #[]))) (mvT hZ (hw _ (List.mem_of_getElem? (i := 70) rfl))) (by decide) (backOf (W := 0) (rmElem l Z a0 hw [] rel ro kW n ti B h0 n0 (Nat.le_trans Z0 (Keep.refl h0 []).1) E_rel F_rows_rel (RR.1) ht hn4) hZ (hw _ (List.mem_of_getElem? (i := 70) rfl)) (hw _ (List.mem_of_getElem? (i := 6) rfl)) (by decide) (by decide)) (g := (mkF m 7 #[.val (.ref rel), .val (.int (Int32.ofNat fi)), .val (.int (Int32.ofNat ti))] [(.int (Int32.ofNat ti)), (.ref rel)])) rfl (by rw [hml]; rfl) (Steps.refl _) (a := rel) (by rw [e1]; exact q2) q2' (argsL := [(.int (Int32.ofNat ti))]) (rest := []) (lenOf pd__I_V rfl) rfl (by show 2 * 0 + _ ≤ _; exact Nat.le_of_eq rfl) (hb hby d14_7) (fun _ _ => ⟨rfl, e1, (by decide : 0 + 0 ≤ _), (by decide : 0 + 0 ≤ _)⟩)
  dsimp only [Pt.U, Pt.locs, Pt.cells, Pt.slots] at X2 l2 y2 z2 st2 hQ2
  rw [l2, y2, z2] at X2
  obtain ⟨rfl, N2q, e2⟩ := hQ2
  have N2 := Fr.app N1 N2q
  refine OwnR.of (fun _ hr => st2.trans hr) ?_
  show OwnR _ _ _ _ _ _ _ (T2.setTop (mkF m 10 #[.val (.ref rel), .val (.int (Int32.ofNat fi)), .val (.int (Int32.ofNat ti))] []))
  refine OwnR.of (fun _ hr => XS.aloadN X2.here hx rfl (hb hby d14_10) rfl rfl hr) ?_
  show OwnR _ _ _ _ _ _ _ (T2.setTop (mkF m 11 #[.val (.ref rel), .val (.int (Int32.ofNat fi)), .val (.int (Int32.ofNat ti))] [(.ref rel)]))
  obtain ⟨T3, X3, e3, st3⟩ := getF X2 hx hZ hown (host := "") (Or.inl (hw _ (List.mem_of_getElem? (i := 15) rfl))) Via.refl e2 F_rows_rel (g := (mkF m 11 #[.val (.ref rel), .val (.int (Int32.ofNat fi)), .val (.int (Int32.ofNat ti))] [(.ref rel)])) rfl rfl (hb hby d14_11)
  refine OwnR.of (st3) ?_
  show OwnR _ _ _ _ _ _ _ (T3.setTop (mkF m 14 #[.val (.ref rel), .val (.int (Int32.ofNat fi)), .val (.int (Int32.ofNat ti))] [(.ref ro)]))
  refine OwnR.of (fun _ hr => XS.iloadN X3.here hx rfl (hb hby d14_14) rfl hr) ?_
  show OwnR _ _ _ _ _ _ _ (T3.setTop (mkF m 15 #[.val (.ref rel), .val (.int (Int32.ofNat fi)), .val (.int (Int32.ofNat ti))] [(.int (Int32.ofNat fi)), (.ref ro)]))
  refine OwnR.of (own_aaload rfl X3 hx hZ e3 RR.1 (own_cN hf hn4) (own_nN hf hn4) hf (v := .ref (B fi)) rfl (g := (mkF m 15 #[.val (.ref rel), .val (.int (Int32.ofNat fi)), .val (.int (Int32.ofNat ti))] [(.int (Int32.ofNat fi)), (.ref ro)])) rfl rfl (hb hby d14_15)) ?_
  show OwnR _ _ _ _ _ _ _ (T3.setTop (mkF m 16 #[.val (.ref rel), .val (.int (Int32.ofNat fi)), .val (.int (Int32.ofNat ti))] [(.ref (B fi))]))
  refine OwnR.of (fun _ hr => XS.iconst X3.here hx rfl (hb hby d14_16) hr) ?_
  show OwnR _ _ _ _ _ _ _ (T3.setTop (mkF m 17 #[.val (.ref rel), .val (.int (Int32.ofNat fi)), .val (.int (Int32.ofNat ti))] [(.int (0 : Int32)), (.ref (B fi))]))
  refine OwnR.of (fun _ hr => XS.aloadN X3.here hx rfl (hb hby d14_17) rfl rfl hr) ?_
  show OwnR _ _ _ _ _ _ _ (T3.setTop (mkF m 18 #[.val (.ref rel), .val (.int (Int32.ofNat fi)), .val (.int (Int32.ofNat ti))] [(.ref rel), (.int (0 : Int32)), (.ref (B fi))]))
  obtain ⟨T4, X4, e4, st4⟩ := getF X3 hx hZ hown (host := "") (Or.inl (hw _ (List.mem_of_getElem? (i := 25) rfl))) Via.refl e3 F_rowSizes_rel (g := (mkF m 18 #[.val (.ref rel), .val (.int (Int32.ofNat fi)), .val (.int (Int32.ofNat ti))] [(.ref rel), (.int (0 : Int32)), (.ref (B fi))])) rfl rfl (hb hby d14_18)
  refine OwnR.of (st4) ?_
  show OwnR _ _ _ _ _ _ _ (T4.setTop (mkF m 21 #[.val (.ref rel), .val (.int (Int32.ofNat fi)), .val (.int (Int32.ofNat ti))] [(.ref rz), (.int (0 : Int32)), (.ref (B fi))]))
  refine OwnR.of (fun _ hr => XS.iloadN X4.here hx rfl (hb hby d14_21) rfl hr) ?_
  show OwnR _ _ _ _ _ _ _ (T4.setTop (mkF m 22 #[.val (.ref rel), .val (.int (Int32.ofNat fi)), .val (.int (Int32.ofNat ti))] [(.int (Int32.ofNat fi)), (.ref rz), (.int (0 : Int32)), (.ref (B fi))]))
  refine OwnR.of (own_iaload X4 hx hZ e4 RR.2.1 (own_cN hf hn4) (own_nN hf hn4) hf (v := .int (Int32.ofNat (own_sz (M fi)))) rfl (g := (mkF m 22 #[.val (.ref rel), .val (.int (Int32.ofNat fi)), .val (.int (Int32.ofNat ti))] [(.int (Int32.ofNat fi)), (.ref rz), (.int (0 : Int32)), (.ref (B fi))])) rfl rfl (hb hby d14_22)) ?_
  show OwnR _ _ _ _ _ _ _ (T4.setTop (mkF m 23 #[.val (.ref rel), .val (.int (Int32.ofNat fi)), .val (.int (Int32.ofNat ti))] [(.int (Int32.ofNat (own_sz (M fi)))), (.int (0 : Int32)), (.ref (B fi))]))
  refine OwnR.of (fun _ hr => XS.iloadN X4.here hx rfl (hb hby d14_23) rfl hr) ?_
  show OwnR _ _ _ _ _ _ _ (T4.setTop (mkF m 24 #[.val (.ref rel), .val (.int (Int32.ofNat fi)), .val (.int (Int32.ofNat ti))] [(.int (Int32.ofNat ti)), (.int (Int32.ofNat (own_sz (M fi)))), (.int (0 : Int32)), (.ref (B fi))]))
  obtain ⟨_, _, ⟨T5, L5, kc5, ns5⟩, -, X5, ⟨Lc5, hQ5, l5, y5, z5⟩, st5⟩ := Jvm.LawKit.callS X4 hx (y := (⟨"java/util/Arrays", "binarySearch", "([IIII)I"⟩ : MethodName)) hown (mvT hZ (hw _ (List.mem_of_getElem? (i := 79) rfl))) (mvT hZ (hw _ (List.mem_of_getElem? (i := 80) rfl))) (mvT hZ (hw _ (List.mem_of_getElem? (i := 21) rfl))) (mvT hZ (hw _ (List.mem_of_getElem? (i := 81) rfl))) (by decide) (backOf (W := 0) (rmBs l Z a0 hw [] (B fi) kb Lb (M fi) ti h0 n0 (Nat.le_trans Z0 (Keep.refl h0 []).1) FB hLb (own_Lb hn4 hcs) (own_p8 hn4 (hM fi)) (own_lt3 ht hn4)) hZ (hw _ (List.mem_of_getElem? (i := 81) rfl)) (hw _ (List.mem_of_getElem? (i := 21) rfl)) (by decide) (by decide)) (g := (mkF m 24 #[.val (.ref rel), .val (.int (Int32.ofNat fi)), .val (.int (Int32.ofNat ti))] [(.int (Int32.ofNat ti)), (.int (Int32.ofNat (own_sz (M fi)))), (.int (0 : Int32)), (.ref (B fi))])) rfl (by rw [hml]; rfl) (argsL := [(.ref (B fi)), (.int (0 : Int32)), (.int (Int32.ofNat (own_sz (M fi)))), (.int (Int32.ofNat ti))]) (rest := []) (lenOf pd___IIII_I rfl) rfl (by show 2 * 0 + _ ≤ _; exact Nat.le_of_eq rfl) (hb hby d14_24) (fun _ _ => ⟨rfl, e4, (by decide : 0 + 0 ≤ _), (by decide : 0 + 0 ≤ _)⟩)
  dsimp only [Pt.U, Pt.locs, Pt.cells, Pt.slots] at X5 l5 y5 z5 st5 hQ5
  rw [l5, y5, z5] at X5
  obtain ⟨rfl, N5q, e5⟩ := hQ5
  have N5 := Fr.app N2 N5q
  refine OwnR.of (st5) ?_
  show OwnR _ _ _ _ _ _ _ (T5.setTop (mkF m 27 #[.val (.ref rel), .val (.int (Int32.ofNat fi)), .val (.int (Int32.ofNat ti))] [(.int (own_bs (M fi) ti))]))
  refine own_leafI X5 hx hlk Bd.returns (hb hby d14_27) (by decide) (by decide) ?_
  show QSearch Z M fi ti h0 n0 _ T5.heap _
  rw [show T5.heap = h0 from e5]
  refine ⟨?_, N5, rfl⟩
  show (some (.int (own_bs (M fi) ti)) : Option Value) = some (.int (own_bs (M fi) ti))
  rfl
theorem own_dl {a d n : Nat} (h : a + (d + 1) = n) : a < n := by omega
theorem own_ds {a d n : Nat} (h : a + (d + 1) = n) : a + 1 + d = n := by omega
theorem own_fillS (em : Addr) (q i : Nat) : (if i = q then Value.ref em else if i < q then .ref em else .null) = if i < q + 1 then .ref em else .null := by
  by_cases h1 : i = q
  · rw [if_pos h1, if_pos (by omega)]
  · by_cases h2 : i < q
    · rw [if_neg h1, if_pos h2, if_pos (by omega)]
    · rw [if_neg h1, if_neg h2, if_neg (by omega)]
theorem ef_rmFill (m : MethodId) (x0 : Addr) (x1 : Addr) : entryFrame m #[(.ref x0), (.ref x1)] 4 = mkF m 0 #[.val (.ref x0), .val (.ref x1), .unset, .unset] [] := by first | (simp [entryFrame, mkF, argsToLocals, Value.category]; done) | rfl
theorem d3_0 : decode jdk_65_method_117_code 0 = .ok (.iconst 0, 1) := by decide +kernel
theorem d3_1 : decode jdk_65_method_117_code 1 = .ok (.istore_n 2, 1) := by decide +kernel
theorem d3_2 : decode jdk_65_method_117_code 2 = .ok (.aload_n 0, 1) := by decide +kernel
theorem d3_3 : decode jdk_65_method_117_code 3 = .ok (.arraylength, 1) := by decide +kernel
theorem d3_4 : decode jdk_65_method_117_code 4 = .ok (.istore_n 3, 1) := by decide +kernel
theorem d3_5 : decode jdk_65_method_117_code 5 = .ok (.iload_n 2, 1) := by decide +kernel
theorem d3_6 : decode jdk_65_method_117_code 6 = .ok (.iload_n 3, 1) := by decide +kernel
theorem d3_7 : decode jdk_65_method_117_code 7 = .ok (.if_icmp .ge 13, 3) := by decide +kernel
theorem d3_20 : decode jdk_65_method_117_code 20 = .ok (.return_, 1) := by decide +kernel
theorem d3_10 : decode jdk_65_method_117_code 10 = .ok (.aload_n 0, 1) := by decide +kernel
theorem d3_11 : decode jdk_65_method_117_code 11 = .ok (.iload_n 2, 1) := by decide +kernel
theorem d3_12 : decode jdk_65_method_117_code 12 = .ok (.aload_n 1, 1) := by decide +kernel
theorem d3_13 : decode jdk_65_method_117_code 13 = .ok (.aastore, 1) := by decide +kernel
theorem d3_14 : decode jdk_65_method_117_code 14 = .ok (.iinc 2 1, 3) := by decide +kernel
theorem d3_17 : decode jdk_65_method_117_code 17 = .ok (.goto (-12), 3) := by decide +kernel
def QFill (Z : State) (fa : Addr) (em : Addr) (kW : ClassId) (n : Nat) (h0 : Heap) (n0 : Nat) (v : Option Value) (h : Heap) (L : List Loc) : Prop := v = none ∧ Fr n0 L ∧ Keep h0 h [fa] ∧ OwnF Z h fa kW (.array .int) n (fun _ => .ref em)
set_option maxRecDepth 65536 in
set_option maxHeartbeats 40000000 in
theorem rmFill (l : Launch) (Z : State) (a0 : Array Value) (hw : ∀ d ∈ tables_1, d.before a0 Z = true) (ws : List Jvm.Cond) (fa : Addr) (em : Addr) (kW : ClassId) (n : Nat) (h0 : Heap) (n0 : Nat) (Z0 : n0 ≤ h0.size) (E_em : Exa Z h0 em "[I") (FN : OwnF Z h0 fa kW (.array .int) n (fun _ => .null)) (Ov : OvrA Z kW .int "[I") (hn4 : n < 4) (g_fa : n0 ≤ fa) :
    MetFree l (⟨"java/util/Arrays", "fill", "([Ljava/lang/Object;Ljava/lang/Object;)V"⟩ : MethodName) (head1 (Jvm.Cond.code (⟨"java/util/Arrays", "fill", "([Ljava/lang/Object;Ljava/lang/Object;)V"⟩ : MethodName) jdk_65_method_117_code 4 none :: ws) ({ frames := 0, cells := 0, slots := 0, locals := 0 } : Room)) (fun a U => a = #[(.ref fa), (.ref em)] ∧ Z.Warmed39 U.vm ∧ U.heap = h0) (fun _ _ _ _ _ => True) (fun _ U o U' => ∃ v L, o = .returned v ∧ QFill Z fa em kW n h0 n0 v U'.heap L ∧ FrameEnd U o U' L ({ frames := 0, cells := 0, slots := 0, locals := 0 } : Room).cells ({ frames := 0, cells := 0, slots := 0, locals := 0 } : Room).slots) := by
  refine MetFree.of_bodySF (plainFor_of_name pn_java_util_Arrays) hisR ?_
  intro p e s m args below meth c s₁ Bd hml0 hP hK
  obtain ⟨rfl, hZ, hh⟩ := hP
  have hx := Bd.exec
  have hby := Bd.bytes
  have hlk := BodyLoose.notSynchronized Bd
  have hml : c.maxLocals = 4 := hml0
  have hown : s.vm.findClass "java/util/Arrays" = some m.cls := findClass_of_methodNamed Bd.named
  have hnm := (name_of_methodNamed Bd.named Bd.method).1
  have X0 : Stand p l e ({ frames := 0, cells := 0, slots := 0, locals := 0 } : Room) s m #[(.ref fa), (.ref em)] below meth c s₁ [] 0 0 := Stand.of_body Bd
  have e0 : s₁.heap = h0 := by rw [← hh, Bd.state]; rfl
  have N0 := Fr.nil n0
  refine OwnR.of (s := s) (Q := QFill Z fa em kW n h0 n0) (fun t k => castTop (ef_rmFill m fa em) k) ?_
  show OwnR _ _ _ _ _ _ _ (s₁.setTop (mkF m 0 #[.val (.ref fa), .val (.ref em), .unset, .unset] []))
  refine OwnR.of (fun _ hr => XS.iconst X0.here hx rfl (hb hby d3_0) hr) ?_
  show OwnR _ _ _ _ _ _ _ (s₁.setTop (mkF m 1 #[.val (.ref fa), .val (.ref em), .unset, .unset] [(.int (0 : Int32))]))
  refine OwnR.of (fun _ hr => XS.istoreN X0.here hx rfl (hb hby d3_1) rfl (l' := #[.val (.ref fa), .val (.ref em), .val (.int (0 : Int32)), .unset]) rfl hr) ?_
  show OwnR _ _ _ _ _ _ _ (s₁.setTop (mkF m 2 #[.val (.ref fa), .val (.ref em), .val (.int (0 : Int32)), .unset] []))
  refine OwnR.of (fun _ hr => XS.aloadN X0.here hx rfl (hb hby d3_2) rfl rfl hr) ?_
  show OwnR _ _ _ _ _ _ _ (s₁.setTop (mkF m 3 #[.val (.ref fa), .val (.ref em), .val (.int (0 : Int32)), .unset] [(.ref fa)]))
  refine OwnR.of (own_alen X0 hx hZ e0 FN (z := (Int32.ofNat n)) (own_c4 hn4) (own_n4 hn4) (g := (mkF m 3 #[.val (.ref fa), .val (.ref em), .val (.int (0 : Int32)), .unset] [(.ref fa)])) rfl rfl (hb hby d3_3)) ?_
  show OwnR _ _ _ _ _ _ _ (s₁.setTop (mkF m 4 #[.val (.ref fa), .val (.ref em), .val (.int (0 : Int32)), .unset] [(.int (Int32.ofNat n))]))
  refine OwnR.of (fun _ hr => XS.istoreN X0.here hx rfl (hb hby d3_4) rfl (l' := #[.val (.ref fa), .val (.ref em), .val (.int (0 : Int32)), .val (.int (Int32.ofNat n))]) rfl hr) ?_
  show OwnR _ _ _ _ _ _ _ (s₁.setTop (mkF m 5 #[.val (.ref fa), .val (.ref em), .val (.int (0 : Int32)), .val (.int (Int32.ofNat n))] []))
  suffices loop : ∀ (d ei : Nat) (TA : State) (hA : Heap) (LA : List Loc), ei + d = n → Stand p l e ({ frames := 0, cells := 0, slots := 0, locals := 0 } : Room) s m #[(.ref fa), (.ref em)] below meth c TA LA 0 0 → TA.heap = hA → Keep h0 hA [fa] → Fr n0 LA → OwnF Z hA fa kW (.array .int) n (fun i => if i < ei then .ref em else .null) → OwnR p e below s (QFill Z fa em kW n h0 n0) ({ frames := 0, cells := 0, slots := 0, locals := 0 } : Room).cells ({ frames := 0, cells := 0, slots := 0, locals := 0 } : Room).slots (TA.setTop (mkF m 5 #[.val (.ref fa), .val (.ref em), .val (.int (Int32.ofNat ei)), .val (.int (Int32.ofNat n))] [])) by
    exact loop n 0 _ _ _ (Nat.zero_add n) X0 e0 (Keep.refl h0 [fa]) N0 (OwnF.congr FN fun i _ => (if_neg (Nat.not_lt_zero i)).symm)
  intro d
  induction d with
  | zero =>
    intro ei TA hA LA hd XA eA KA NA FA
    rw [show ei = n from hd]
    have FZ : OwnF Z hA fa kW (.array .int) n (fun _ => .ref em) := OwnF.congr FA fun i hi => if_pos (by rw [show ei = n from hd]; exact hi)
    show OwnR _ _ _ _ _ _ _ (TA.setTop (mkF m 5 #[.val (.ref fa), .val (.ref em), .val (.int (Int32.ofNat n)), .val (.int (Int32.ofNat n))] []))
    refine OwnR.of (fun _ hr => XS.iloadN XA.here hx rfl (hb hby d3_5) rfl hr) ?_
    show OwnR _ _ _ _ _ _ _ (TA.setTop (mkF m 6 #[.val (.ref fa), .val (.ref em), .val (.int (Int32.ofNat n)), .val (.int (Int32.ofNat n))] [(.int (Int32.ofNat n))]))
    refine OwnR.of (fun _ hr => XS.iloadN XA.here hx rfl (hb hby d3_6) rfl hr) ?_
    show OwnR _ _ _ _ _ _ _ (TA.setTop (mkF m 7 #[.val (.ref fa), .val (.ref em), .val (.int (Int32.ofNat n)), .val (.int (Int32.ofNat n))] [(.int (Int32.ofNat n)), (.int (Int32.ofNat n))]))
    refine OwnR.of (fun _ hr => XS.icmpYes XA.here hx rfl (pc0 := 7) (pc' := 20) rfl (hb hby d3_7) rfl (flt (own_ge4 (Nat.le_refl n) hn4)).2.1 (by decide) (by decide) hr) ?_
    show OwnR _ _ _ _ _ _ _ (TA.setTop (mkF m 20 #[.val (.ref fa), .val (.ref em), .val (.int (Int32.ofNat n)), .val (.int (Int32.ofNat n))] []))
    refine own_leafV XA hx hlk Bd.returns (hb hby d3_20) (by decide) (by decide) ?_
    show QFill Z fa em kW n h0 n0 _ TA.heap _
    rw [show TA.heap = hA from eA]
    refine ⟨rfl, NA, ⟨KA, FZ⟩⟩
  | succ d ih =>
    intro ei TA hA LA hd XA eA KA NA FA
    have hei := own_dl hd
    show OwnR _ _ _ _ _ _ _ (TA.setTop (mkF m 5 #[.val (.ref fa), .val (.ref em), .val (.int (Int32.ofNat ei)), .val (.int (Int32.ofNat n))] []))
    refine OwnR.of (fun _ hr => XS.iloadN XA.here hx rfl (hb hby d3_5) rfl hr) ?_
    show OwnR _ _ _ _ _ _ _ (TA.setTop (mkF m 6 #[.val (.ref fa), .val (.ref em), .val (.int (Int32.ofNat ei)), .val (.int (Int32.ofNat n))] [(.int (Int32.ofNat ei))]))
    refine OwnR.of (fun _ hr => XS.iloadN XA.here hx rfl (hb hby d3_6) rfl hr) ?_
    show OwnR _ _ _ _ _ _ _ (TA.setTop (mkF m 7 #[.val (.ref fa), .val (.ref em), .val (.int (Int32.ofNat ei)), .val (.int (Int32.ofNat n))] [(.int (Int32.ofNat n)), (.int (Int32.ofNat ei))]))
    refine OwnR.of (fun _ hr => XS.icmpNo XA.here hx rfl (hb hby d3_7) rfl (tlt (own_lt4 hei hn4)).2.1 hr) ?_
    show OwnR _ _ _ _ _ _ _ (TA.setTop (mkF m 10 #[.val (.ref fa), .val (.ref em), .val (.int (Int32.ofNat ei)), .val (.int (Int32.ofNat n))] []))
    refine OwnR.of (fun _ hr => XS.aloadN XA.here hx rfl (hb hby d3_10) rfl rfl hr) ?_
    show OwnR _ _ _ _ _ _ _ (TA.setTop (mkF m 11 #[.val (.ref fa), .val (.ref em), .val (.int (Int32.ofNat ei)), .val (.int (Int32.ofNat n))] [(.ref fa)]))
    refine OwnR.of (fun _ hr => XS.iloadN XA.here hx rfl (hb hby d3_11) rfl hr) ?_
    show OwnR _ _ _ _ _ _ _ (TA.setTop (mkF m 12 #[.val (.ref fa), .val (.ref em), .val (.int (Int32.ofNat ei)), .val (.int (Int32.ofNat n))] [(.int (Int32.ofNat ei)), (.ref fa)]))
    refine OwnR.of (fun _ hr => XS.aloadN XA.here hx rfl (hb hby d3_12) rfl rfl hr) ?_
    show OwnR _ _ _ _ _ _ _ (TA.setTop (mkF m 13 #[.val (.ref fa), .val (.ref em), .val (.int (Int32.ofNat ei)), .val (.int (Int32.ofNat n))] [(.ref em), (.int (Int32.ofNat ei)), (.ref fa)]))
    obtain ⟨T1, h1, X1, e1, W1, st1⟩ := own_aastore rfl XA hx hZ eA FA (own_cN hei hn4) (own_nN hei hn4) hei Ov (Ins.self (Exa.keep E_em KA)) (g := (mkF m 13 #[.val (.ref fa), .val (.ref em), .val (.int (Int32.ofNat ei)), .val (.int (Int32.ofNat n))] [(.ref em), (.int (Int32.ofNat ei)), (.ref fa)])) rfl rfl (hb hby d3_13)
    refine OwnR.of (st1) ?_
    have K1 : Keep h0 h1 [fa] := Keep.wr KA W1 (Or.inl (List.mem_of_getElem? (i := 0) rfl))
    have N1 := Fr.snoc X1 NA g_fa
    have FS1 := OwnF.congr (OwnF.set FA W1) fun i _ => own_fillS em ei i
    show OwnR _ _ _ _ _ _ _ (T1.setTop (mkF m 14 #[.val (.ref fa), .val (.ref em), .val (.int (Int32.ofNat ei)), .val (.int (Int32.ofNat n))] []))
    refine OwnR.of (fun _ hr => XS.iinc X1.here hx rfl (hb hby d3_14) rfl (l' := #[.val (.ref fa), .val (.ref em), .val (.int ((Int32.ofNat ei) + (1 : Int32))), .val (.int (Int32.ofNat n))]) rfl hr) ?_
    show OwnR _ _ _ _ _ _ _ (T1.setTop (mkF m 17 #[.val (.ref fa), .val (.ref em), .val (.int ((Int32.ofNat ei) + (1 : Int32))), .val (.int (Int32.ofNat n))] []))
    refine OwnR.of (fun _ hr => XS.goto X1.here hx rfl (pc0 := 17) (pc' := 5) rfl (hb hby d3_17) (by decide) (by decide) hr) ?_
    show OwnR _ _ _ _ _ _ _ (T1.setTop (mkF m 5 #[.val (.ref fa), .val (.ref em), .val (.int ((Int32.ofNat ei) + (1 : Int32))), .val (.int (Int32.ofNat n))] []))
    rw [own_succ ei]
    exact ih (ei + 1) _ _ _ (own_ds hd) X1 e1 K1 N1 FS1
theorem ef_rmNew (m : MethodId) (x0 : Addr) : entryFrame m #[(.ref x0), (.int (Int32.ofNat n))] 2 = mkF m 0 #[.val (.ref x0), .val (.int (Int32.ofNat n))] [] := by first | (simp [entryFrame, mkF, argsToLocals, Value.category]; done) | rfl
theorem d1_0 : decode prog_24_method_1_code 0 = .ok (.aload_n 0, 1) := by decide +kernel
theorem d1_1 : decode prog_24_method_1_code 1 = .ok (.invokespecial 1, 3) := by decide +kernel
theorem d1_4 : decode prog_24_method_1_code 4 = .ok (.iload_n 1, 1) := by decide +kernel
theorem d1_5 : decode prog_24_method_1_code 5 = .ok (.ifCond .ge 17, 3) := by decide +kernel
theorem d1_22 : decode prog_24_method_1_code 22 = .ok (.aload_n 0, 1) := by decide +kernel
theorem d1_23 : decode prog_24_method_1_code 23 = .ok (.iload_n 1, 1) := by decide +kernel
theorem d1_24 : decode prog_24_method_1_code 24 = .ok (.anewarray 16, 3) := by decide +kernel
theorem d1_27 : decode prog_24_method_1_code 27 = .ok (.putfield 18, 3) := by decide +kernel
theorem d1_30 : decode prog_24_method_1_code 30 = .ok (.aload_n 0, 1) := by decide +kernel
theorem d1_31 : decode prog_24_method_1_code 31 = .ok (.getfield 18, 3) := by decide +kernel
theorem d1_34 : decode prog_24_method_1_code 34 = .ok (.getstatic 24, 3) := by decide +kernel
theorem d1_37 : decode prog_24_method_1_code 37 = .ok (.invokestatic 27, 3) := by decide +kernel
theorem pd___Ljava_lang_Object_Ljava_lang_Object__V : parseMethodDescriptor "([Ljava/lang/Object;Ljava/lang/Object;)V" = some ⟨[(.array (.object "java/lang/Object")), (.object "java/lang/Object")], none⟩ := by decide +kernel
theorem d1_40 : decode prog_24_method_1_code 40 = .ok (.aload_n 0, 1) := by decide +kernel
theorem d1_41 : decode prog_24_method_1_code 41 = .ok (.iload_n 1, 1) := by decide +kernel
theorem d1_42 : decode prog_24_method_1_code 42 = .ok (.newarray .int, 2) := by decide +kernel
theorem d1_44 : decode prog_24_method_1_code 44 = .ok (.putfield 33, 3) := by decide +kernel
theorem d1_47 : decode prog_24_method_1_code 47 = .ok (.return_, 1) := by decide +kernel
def QNew (Z : State) (rel : Addr) (em : Addr) (n : Nat) (h0 : Heap) (n0 : Nat) (v : Option Value) (h : Heap) (L : List Loc) : Prop := ∃ (ro : Addr) (rz : Addr) (kW : ClassId) (kS : ClassId), v = none ∧ Fr n0 L ∧ Keep h0 h [rel] ∧ Exa Z h rel "com/example/fast_taxonomy/fasttaxonomy/taxonomy/Relation" ∧ Fld Z h rel "com/example/fast_taxonomy/fasttaxonomy/taxonomy/Relation" "rows" "[[I" (.ref ro) ∧ Fld Z h rel "com/example/fast_taxonomy/fasttaxonomy/taxonomy/Relation" "rowSizes" "[I" (.ref rz) ∧ Fld Z h rel "com/example/fast_taxonomy/fasttaxonomy/taxonomy/Relation" "pairCount" "J" (.long (0 : Int64)) ∧ OwnF Z h ro kW (.array .int) n (fun _ => .ref em) ∧ OwnF Z h rz kS .int n (fun _ => .int (0 : Int32)) ∧ OvrA Z kW .int "[I" ∧ ro < rz ∧ h0.size ≤ ro ∧ n0 ≤ ro
set_option maxRecDepth 65536 in
set_option maxHeartbeats 40000000 in
theorem rmNew (l : Launch) (Z : State) (a0 : Array Value) (hw : ∀ d ∈ tables_1, d.before a0 Z = true) (ws : List Jvm.Cond) (rel : Addr) (em : Addr) (n : Nat) (h0 : Heap) (n0 : Nat) (Z0 : n0 ≤ h0.size) (E_rel : Exa Z h0 rel "com/example/fast_taxonomy/fasttaxonomy/taxonomy/Relation") (F_rows_rel : Fld Z h0 rel "com/example/fast_taxonomy/fasttaxonomy/taxonomy/Relation" "rows" "[[I" .null) (F_rowSizes_rel : Fld Z h0 rel "com/example/fast_taxonomy/fasttaxonomy/taxonomy/Relation" "rowSizes" "[I" .null) (F_pairCount_rel : Fld Z h0 rel "com/example/fast_taxonomy/fasttaxonomy/taxonomy/Relation" "pairCount" "J" (.long (0 : Int64))) (E_em : Exa Z h0 em "[I") (S_em : Sta Z h0 "com/example/fast_taxonomy/fasttaxonomy/taxonomy/Relation" "EMPTY_ROW" "[I" (.ref em)) (hn4 : n < 4) (g_rel : n0 ≤ rel) :
    MetFree l (⟨"com/example/fast_taxonomy/fasttaxonomy/taxonomy/Relation", "<init>", "(I)V"⟩ : MethodName) (head1 (Jvm.Cond.code (⟨"com/example/fast_taxonomy/fasttaxonomy/taxonomy/Relation", "<init>", "(I)V"⟩ : MethodName) prog_24_method_1_code 2 none :: ws) ({ frames := 1, cells := 2, slots := 6, locals := 20 } : Room)) (fun a U => a = #[(.ref rel), (.int (Int32.ofNat n))] ∧ Z.Warmed39 U.vm ∧ U.heap = h0) (fun _ _ _ _ _ => True) (fun _ U o U' => ∃ v L, o = .returned v ∧ QNew Z rel em n h0 n0 v U'.heap L ∧ FrameEnd U o U' L ({ frames := 1, cells := 2, slots := 6, locals := 20 } : Room).cells ({ frames := 1, cells := 2, slots := 6, locals := 20 } : Room).slots) := by
  refine MetFree.of_bodySF (plainFor_of_name pn_com_example_fast_taxonomy_fasttaxonomy_taxonomy_Relation) hisR ?_
  intro p e s m args below meth c s₁ Bd hml0 hP hK
  obtain ⟨rfl, hZ, hh⟩ := hP
  have hx := Bd.exec
  have hby := Bd.bytes
  have hlk := BodyLoose.notSynchronized Bd
  have hml : c.maxLocals = 2 := hml0
  have hown : s.vm.findClass "com/example/fast_taxonomy/fasttaxonomy/taxonomy/Relation" = some m.cls := findClass_of_methodNamed Bd.named
  have hnm := (name_of_methodNamed Bd.named Bd.method).1
  have X0 : Stand p l e ({ frames := 1, cells := 2, slots := 6, locals := 20 } : Room) s m #[(.ref rel), (.int (Int32.ofNat n))] below meth c s₁ [] 0 0 := Stand.of_body Bd
  have e0 : s₁.heap = h0 := by rw [← hh, Bd.state]; rfl
  have N0 := Fr.nil n0
  refine OwnR.of (s := s) (Q := QNew Z rel em n h0 n0) (fun t k => castTop (ef_rmNew m rel) k) ?_
  show OwnR _ _ _ _ _ _ _ (s₁.setTop (mkF m 0 #[.val (.ref rel), .val (.int (Int32.ofNat n))] []))
  refine OwnR.of (fun _ hr => XS.aloadN X0.here hx rfl (hb hby d1_0) rfl rfl hr) ?_
  show OwnR _ _ _ _ _ _ _ (s₁.setTop (mkF m 1 #[.val (.ref rel), .val (.int (Int32.ofNat n))] [(.ref rel)]))
  obtain ⟨T1, X1, e1, st1⟩ := initO X0 hx hZ hown (hw _ (List.mem_of_getElem? (i := 10) rfl)) (hw _ (List.mem_of_getElem? (i := 11) rfl)) (hw _ (List.mem_of_getElem? (i := 12) rfl)) e0 (g := (mkF m 1 #[.val (.ref rel), .val (.int (Int32.ofNat n))] [(.ref rel)])) rfl (by rw [hml]; rfl) rfl (hb hby d1_1) (by decide) (W := 0) (by show 2 * 0 + _ ≤ _; exact Nat.le_of_eq rfl) (by decide)
  refine OwnR.of (st1) ?_
  show OwnR _ _ _ _ _ _ _ (T1.setTop (mkF m 4 #[.val (.ref rel), .val (.int (Int32.ofNat n))] []))
  refine OwnR.of (fun _ hr => XS.iloadN X1.here hx rfl (hb hby d1_4) rfl hr) ?_
  show OwnR _ _ _ _ _ _ _ (T1.setTop (mkF m 5 #[.val (.ref rel), .val (.int (Int32.ofNat n))] [(.int (Int32.ofNat n))]))
  refine OwnR.of (fun _ hr => XS.ifYes X1.here hx rfl (pc0 := 5) (pc' := 22) rfl (hb hby d1_5) rfl ((if0 _ _).trans (flt (own_n4 hn4)).2.1) (by decide) (by decide) hr) ?_
  show OwnR _ _ _ _ _ _ _ (T1.setTop (mkF m 22 #[.val (.ref rel), .val (.int (Int32.ofNat n))] []))
  refine OwnR.of (fun _ hr => XS.aloadN X1.here hx rfl (hb hby d1_22) rfl rfl hr) ?_
  show OwnR _ _ _ _ _ _ _ (T1.setTop (mkF m 23 #[.val (.ref rel), .val (.int (Int32.ofNat n))] [(.ref rel)]))
  refine OwnR.of (fun _ hr => XS.iloadN X1.here hx rfl (hb hby d1_23) rfl hr) ?_
  show OwnR _ _ _ _ _ _ _ (T1.setTop (mkF m 24 #[.val (.ref rel), .val (.int (Int32.ofNat n))] [(.int (Int32.ofNat n)), (.ref rel)]))
  obtain ⟨T2, h2, k2, X2, e2, E2, A2, AE2, O2, st2⟩ := newRA X1 hx hZ hown (C := "[I") (ty := .int) rfl (hw _ (List.mem_of_getElem? (i := 13) rfl)) (hw _ (List.mem_of_getElem? (i := 14) rfl)) e1 (g := (mkF m 24 #[.val (.ref rel), .val (.int (Int32.ofNat n))] [(.int (Int32.ofNat n)), (.ref rel)])) rfl (hb hby d1_24) rfl (own_n4 hn4) (cap := 3) (own_cap3 hn4) (by decide) (by decide) (by decide) (ad := "[[I") rfl
  obtain ⟨b2, g2⟩ : ∃ z, z = h0.size := ⟨_, rfl⟩
  rw [← g2] at A2 AE2 st2
  refine OwnR.of (st2) ?_
  have gn_b2 : n0 ≤ b2 := Nat.le_trans (Nat.le_trans Z0 (Keep.refl h0 [rel]).1) (Nat.le_of_eq g2.symm)
  have sz_b2 : h0.size ≤ b2 := Nat.le_trans (Keep.refl h0 [rel]).1 (Nat.le_of_eq g2.symm)
  have K2 : Keep h0 h2 [rel] := Keep.ext (Keep.refl h0 [rel]) E2
  have FN : OwnF Z h2 b2 k2 (.array .int) n (fun _ => .null) := OwnF.new A2 (own_c4 hn4)
  show OwnR _ _ _ _ _ _ _ (T2.setTop (mkF m 27 #[.val (.ref rel), .val (.int (Int32.ofNat n))] [(.ref b2), (.ref rel)]))
  obtain ⟨T3, h3, X3, e3, W3, st3⟩ := putF X2 hx hZ hown (host := "") (Or.inl (hw _ (List.mem_of_getElem? (i := 15) rfl))) Via.refl e2 (Fld.ext E2 F_rows_rel) (Exa.keep E_rel K2) (Or.inr ⟨(hw _ (List.mem_of_getElem? (i := 16) rfl)), rfl, hnm⟩) (hw _ (List.mem_of_getElem? (i := 5) rfl)) (ty := (.array (.array .int))) (by decide) rfl rfl (g := (mkF m 27 #[.val (.ref rel), .val (.int (Int32.ofNat n))] [(.ref b2), (.ref rel)])) rfl rfl (hb hby d1_27)
  refine OwnR.of (st3) ?_
  have F3 := Fld.same W3 (Fld.ext E2 F_rows_rel)
  have K3 : Keep h0 h3 [rel] := Keep.wr K2 W3 (Or.inl (List.mem_of_getElem? (i := 0) rfl))
  have N3 := Fr.snoc X3 N0 g_rel
  show OwnR _ _ _ _ _ _ _ (T3.setTop (mkF m 30 #[.val (.ref rel), .val (.int (Int32.ofNat n))] []))
  refine OwnR.of (fun _ hr => XS.aloadN X3.here hx rfl (hb hby d1_30) rfl rfl hr) ?_
  show OwnR _ _ _ _ _ _ _ (T3.setTop (mkF m 31 #[.val (.ref rel), .val (.int (Int32.ofNat n))] [(.ref rel)]))
  obtain ⟨T4, X4, e4, st4⟩ := getF X3 hx hZ hown (host := "") (Or.inl (hw _ (List.mem_of_getElem? (i := 15) rfl))) Via.refl e3 F3 (g := (mkF m 31 #[.val (.ref rel), .val (.int (Int32.ofNat n))] [(.ref rel)])) rfl rfl (hb hby d1_31)
  refine OwnR.of (st4) ?_
  show OwnR _ _ _ _ _ _ _ (T4.setTop (mkF m 34 #[.val (.ref rel), .val (.int (Int32.ofNat n))] [(.ref b2)]))
  obtain ⟨T5, X5, e5, st5⟩ := getS2 X4 hx hZ hown (host := "") (Or.inl (hw _ (List.mem_of_getElem? (i := 17) rfl))) Via.refl e4 ((S_em.ext E2).wr W3) (g := (mkF m 34 #[.val (.ref rel), .val (.int (Int32.ofNat n))] [(.ref b2)])) rfl (hb hby d1_34)
  refine OwnR.of (st5) ?_
  show OwnR _ _ _ _ _ _ _ (T5.setTop (mkF m 37 #[.val (.ref rel), .val (.int (Int32.ofNat n))] [(.ref em), (.ref b2)]))
  obtain ⟨_, _, ⟨T6, L6, kc6, ns6⟩, -, X6, ⟨Lc6, hQ6, l6, y6, z6⟩, st6⟩ := Jvm.LawKit.callS X5 hx (y := (⟨"java/util/Arrays", "fill", "([Ljava/lang/Object;Ljava/lang/Object;)V"⟩ : MethodName)) hown (mvT hZ (hw _ (List.mem_of_getElem? (i := 19) rfl))) (mvT hZ (hw _ (List.mem_of_getElem? (i := 20) rfl))) (mvT hZ (hw _ (List.mem_of_getElem? (i := 21) rfl))) (mvT hZ (hw _ (List.mem_of_getElem? (i := 22) rfl))) (by decide) (backOf (W := 0) (rmFill l Z a0 hw [] b2 em k2 n h3 n0 (Nat.le_trans Z0 K3.1) (Exa.keep E_em K3) (OwnF.other FN W3 (Ne.symm (Nat.ne_of_lt (Nat.lt_of_lt_of_le E_rel.lt (Nat.le_of_eq g2.symm))))) O2 hn4 gn_b2) hZ (hw _ (List.mem_of_getElem? (i := 22) rfl)) (hw _ (List.mem_of_getElem? (i := 21) rfl)) (by decide) (by decide)) (g := (mkF m 37 #[.val (.ref rel), .val (.int (Int32.ofNat n))] [(.ref em), (.ref b2)])) rfl (by rw [hml]; rfl) (argsL := [(.ref b2), (.ref em)]) (rest := []) (lenOf pd___Ljava_lang_Object_Ljava_lang_Object__V rfl) rfl (by show 2 * 0 + _ ≤ _; exact Nat.le_of_eq rfl) (hb hby d1_37) (fun _ _ => ⟨rfl, e5, (by decide : 1 + 0 ≤ _), (by decide : 3 + 0 ≤ _)⟩)
  dsimp only [Pt.U, Pt.locs, Pt.cells, Pt.slots] at X6 l6 y6 z6 st6 hQ6
  rw [l6, y6, z6] at X6
  obtain ⟨rfl, N6q, P6_0, P6_1⟩ := hQ6
  have K6 : Keep h0 T6.heap [rel] := Keep.trans K3 P6_0 (allS (Or.inr sz_b2) all0)
  have N6 := Fr.app N3 N6q
  refine OwnR.of (st6) ?_
  show OwnR _ _ _ _ _ _ _ (T6.setTop (mkF m 40 #[.val (.ref rel), .val (.int (Int32.ofNat n))] []))
  refine OwnR.of (fun _ hr => XS.aloadN X6.here hx rfl (hb hby d1_40) rfl rfl hr) ?_
  show OwnR _ _ _ _ _ _ _ (T6.setTop (mkF m 41 #[.val (.ref rel), .val (.int (Int32.ofNat n))] [(.ref rel)]))
  refine OwnR.of (fun _ hr => XS.iloadN X6.here hx rfl (hb hby d1_41) rfl hr) ?_
  show OwnR _ _ _ _ _ _ _ (T6.setTop (mkF m 42 #[.val (.ref rel), .val (.int (Int32.ofNat n))] [(.int (Int32.ofNat n)), (.ref rel)]))
  obtain ⟨T7, h7, k7, X7, e7, E7, A7, AE7, st7⟩ := newPE X6 hx hZ (hw _ (List.mem_of_getElem? (i := 24) rfl)) rfl (g := (mkF m 42 #[.val (.ref rel), .val (.int (Int32.ofNat n))] [(.int (Int32.ofNat n)), (.ref rel)])) rfl (hb hby d1_42) rfl (own_n4 hn4) (cap := 3) (own_cap3 hn4) (by decide) (by decide) (by decide) (ad := "[I") rfl
  obtain ⟨b7, g7⟩ : ∃ z, z = T6.heap.size := ⟨_, rfl⟩
  rw [← g7] at A7 AE7 st7
  refine OwnR.of (st7) ?_
  have gn_b7 : n0 ≤ b7 := Nat.le_trans (Nat.le_trans Z0 K6.1) (Nat.le_of_eq g7.symm)
  have sz_b7 : h0.size ≤ b7 := Nat.le_trans K6.1 (Nat.le_of_eq g7.symm)
  have K7 : Keep h0 h7 [rel] := Keep.ext K6 E7
  have V7 : Arv Z h7 b7 k7 .int (Int32.ofNat n) [] (.int (0 : Int32)) := Arv.new A7 (own_n4 hn4)
  show OwnR _ _ _ _ _ _ _ (T7.setTop (mkF m 44 #[.val (.ref rel), .val (.int (Int32.ofNat n))] [(.ref b7), (.ref rel)]))
  have FS : OwnF Z h7 b7 k7 .int n (fun _ => .int (0 : Int32)) := OwnF.new A7 (own_c4 hn4)
  have hlt : b2 < b7 := by rw [g7]; exact OwnF.lt P6_1
  obtain ⟨T8, h8, X8, e8, W8, st8⟩ := putF X7 hx hZ hown (host := "") (Or.inl (hw _ (List.mem_of_getElem? (i := 25) rfl))) Via.refl e7 (Fld.ext E7 ((Fld.other W3 (Fld.ext E2 F_rowSizes_rel) (Or.inr (slot_ne (Or.inr (hw _ (List.mem_of_getElem? (i := 26) rfl))) (Or.inr (hw _ (List.mem_of_getElem? (i := 16) rfl))) (by decide) (t := (.array .int)) (t' := (.array (.array .int))) (by decide) (by decide)))).keep P6_0 (ninS (Nat.ne_of_lt (Nat.lt_of_lt_of_le E_rel.lt (Nat.le_of_eq g2.symm))) nin0))) (Exa.keep E_rel K7) (Or.inr ⟨(hw _ (List.mem_of_getElem? (i := 26) rfl)), rfl, hnm⟩) (hw _ (List.mem_of_getElem? (i := 5) rfl)) (ty := (.array .int)) (by decide) rfl rfl (g := (mkF m 44 #[.val (.ref rel), .val (.int (Int32.ofNat n))] [(.ref b7), (.ref rel)])) rfl rfl (hb hby d1_44)
  refine OwnR.of (st8) ?_
  have F8 := Fld.same W8 (Fld.ext E7 ((Fld.other W3 (Fld.ext E2 F_rowSizes_rel) (Or.inr (slot_ne (Or.inr (hw _ (List.mem_of_getElem? (i := 26) rfl))) (Or.inr (hw _ (List.mem_of_getElem? (i := 16) rfl))) (by decide) (t := (.array .int)) (t' := (.array (.array .int))) (by decide) (by decide)))).keep P6_0 (ninS (Nat.ne_of_lt (Nat.lt_of_lt_of_le E_rel.lt (Nat.le_of_eq g2.symm))) nin0)))
  have K8 : Keep h0 h8 [rel] := Keep.wr K7 W8 (Or.inl (List.mem_of_getElem? (i := 0) rfl))
  have N8 := Fr.snoc X8 N6 g_rel
  show OwnR _ _ _ _ _ _ _ (T8.setTop (mkF m 47 #[.val (.ref rel), .val (.int (Int32.ofNat n))] []))
  refine own_leafV X8 hx hlk Bd.returns (hb hby d1_47) (by decide) (by decide) ?_
  show QNew Z rel em n h0 n0 _ T8.heap _
  rw [show T8.heap = h8 from e8]
  refine ⟨b2, b7, k2, k7, rfl, N8, ⟨K8, (Exa.keep E_rel K8), (Fld.other W8 (Fld.ext E7 (F3.keep P6_0 (ninS (Nat.ne_of_lt (Nat.lt_of_lt_of_le E_rel.lt (Nat.le_of_eq g2.symm))) nin0))) (Or.inr (slot_ne (Or.inr (hw _ (List.mem_of_getElem? (i := 16) rfl))) (Or.inr (hw _ (List.mem_of_getElem? (i := 26) rfl))) (by decide) (t := (.array (.array .int))) (t' := (.array .int)) (by decide) (by decide)))), F8, (Fld.other W8 (Fld.ext E7 ((Fld.other W3 (Fld.ext E2 F_pairCount_rel) (Or.inr (slot_ne (Or.inl (hw _ (List.mem_of_getElem? (i := 109) rfl))) (Or.inr (hw _ (List.mem_of_getElem? (i := 16) rfl))) (by decide) (t := .long) (t' := (.array (.array .int))) (by decide) (by decide)))).keep P6_0 (ninS (Nat.ne_of_lt (Nat.lt_of_lt_of_le E_rel.lt (Nat.le_of_eq g2.symm))) nin0))) (Or.inr (slot_ne (Or.inl (hw _ (List.mem_of_getElem? (i := 109) rfl))) (Or.inr (hw _ (List.mem_of_getElem? (i := 26) rfl))) (by decide) (t := .long) (t' := (.array .int)) (by decide) (by decide)))), (OwnF.other (OwnF.ext P6_1 E7) W8 (Ne.symm (Nat.ne_of_lt (Nat.lt_of_lt_of_le E_rel.lt (Nat.le_of_eq g2.symm))))), (OwnF.other FS W8 (Ne.symm (Nat.ne_of_lt (Nat.lt_of_lt_of_le (Exa.keep E_rel K6).lt (Nat.le_of_eq g7.symm))))), O2, hlt, sz_b2, gn_b2⟩⟩
theorem own_n3' {n : Nat} (h : 0 < n) (h4 : n < 4) : n = 1 ∨ n = 2 ∨ n = 3 := by omega
theorem own_im0 : own_imin (0 : Int32) (1 : Int32) = 0 ∧ own_imin (0 : Int32) (2 : Int32) = 0 ∧ own_imin (0 : Int32) (3 : Int32) = 0 := by decide
theorem ef_rmCopy (m : MethodId) (x0 : Addr) : entryFrame m #[(.ref x0), (.int (Int32.ofNat n))] 3 = mkF m 0 #[.val (.ref x0), .val (.int (Int32.ofNat n)), .unset] [] := by first | (simp [entryFrame, mkF, argsToLocals, Value.category]; done) | rfl
theorem d23_0 : decode jdk_65_method_123_code 0 = .ok (.iload_n 1, 1) := by decide +kernel
theorem d23_1 : decode jdk_65_method_123_code 1 = .ok (.aload_n 0, 1) := by decide +kernel
theorem d23_2 : decode jdk_65_method_123_code 2 = .ok (.arraylength, 1) := by decide +kernel
theorem d23_3 : decode jdk_65_method_123_code 3 = .ok (.if_icmp .ne 11, 3) := by decide +kernel
theorem d23_14 : decode jdk_65_method_123_code 14 = .ok (.iload_n 1, 1) := by decide +kernel
theorem d23_15 : decode jdk_65_method_123_code 15 = .ok (.newarray .int, 2) := by decide +kernel
theorem d23_17 : decode jdk_65_method_123_code 17 = .ok (.astore_n 2, 1) := by decide +kernel
theorem d23_18 : decode jdk_65_method_123_code 18 = .ok (.aload_n 0, 1) := by decide +kernel
theorem d23_19 : decode jdk_65_method_123_code 19 = .ok (.iconst 0, 1) := by decide +kernel
theorem d23_20 : decode jdk_65_method_123_code 20 = .ok (.aload_n 2, 1) := by decide +kernel
theorem d23_21 : decode jdk_65_method_123_code 21 = .ok (.iconst 0, 1) := by decide +kernel
theorem d23_22 : decode jdk_65_method_123_code 22 = .ok (.aload_n 0, 1) := by decide +kernel
theorem d23_23 : decode jdk_65_method_123_code 23 = .ok (.arraylength, 1) := by decide +kernel
theorem d23_24 : decode jdk_65_method_123_code 24 = .ok (.iload_n 1, 1) := by decide +kernel
theorem d23_25 : decode jdk_65_method_123_code 25 = .ok (.invokestatic 304, 3) := by decide +kernel
theorem d23_28 : decode jdk_65_method_123_code 28 = .ok (.invokestatic 150, 3) := by decide +kernel
theorem d23_31 : decode jdk_65_method_123_code 31 = .ok (.aload_n 2, 1) := by decide +kernel
theorem d23_32 : decode jdk_65_method_123_code 32 = .ok (.areturn, 1) := by decide +kernel
def QCopy (Z : State) (n : Nat) (h0 : Heap) (n0 : Nat) (v : Option Value) (h : Heap) (L : List Loc) : Prop := ∃ (nb : Addr) (knb : ClassId), v = some (.ref nb) ∧ Fr n0 L ∧ Keep h0 h [] ∧ Exa Z h nb "[I" ∧ OwnF Z h nb knb .int n (fun _ => .int (0 : Int32)) ∧ h0.size ≤ nb ∧ n0 ≤ nb
set_option maxRecDepth 65536 in
set_option maxHeartbeats 40000000 in
theorem rmCopy (l : Launch) (Z : State) (a0 : Array Value) (hw : ∀ d ∈ tables_1, d.before a0 Z = true) (ws : List Jvm.Cond) (ra : Addr) (kE : ClassId) (n : Nat) (h0 : Heap) (n0 : Nat) (Z0 : n0 ≤ h0.size) (V_ra : Arv Z h0 ra kE .int (0 : Int32) [] (.int (0 : Int32))) (hn : 0 < n) (hn4 : n < 4) :
    MetFree l (⟨"java/util/Arrays", "copyOf", "([II)[I"⟩ : MethodName) (head1 (Jvm.Cond.code (⟨"java/util/Arrays", "copyOf", "([II)[I"⟩ : MethodName) jdk_65_method_123_code 3 (some (.array .int)) :: ws) ({ frames := 1, cells := 1, slots := 3, locals := 40 } : Room)) (fun a U => a = #[(.ref ra), (.int (Int32.ofNat n))] ∧ Z.Warmed39 U.vm ∧ U.heap = h0) (fun _ _ _ _ _ => True) (fun _ U o U' => ∃ v L, o = .returned v ∧ QCopy Z n h0 n0 v U'.heap L ∧ FrameEnd U o U' L ({ frames := 1, cells := 1, slots := 3, locals := 40 } : Room).cells ({ frames := 1, cells := 1, slots := 3, locals := 40 } : Room).slots) := by
  refine MetFree.of_bodySF (plainFor_of_name pn_java_util_Arrays) hisR ?_
  intro p e s m args below meth c s₁ Bd hml0 hP hK
  obtain ⟨rfl, hZ, hh⟩ := hP
  have hx := Bd.exec
  have hby := Bd.bytes
  have hlk := BodyLoose.notSynchronized Bd
  have hml : c.maxLocals = 3 := hml0
  have hown : s.vm.findClass "java/util/Arrays" = some m.cls := findClass_of_methodNamed Bd.named
  have hnm := (name_of_methodNamed Bd.named Bd.method).1
  have X0 : Stand p l e ({ frames := 1, cells := 1, slots := 3, locals := 40 } : Room) s m #[(.ref ra), (.int (Int32.ofNat n))] below meth c s₁ [] 0 0 := Stand.of_body Bd
  have e0 : s₁.heap = h0 := by rw [← hh, Bd.state]; rfl
  have N0 := Fr.nil n0
  refine OwnR.of (s := s) (Q := QCopy Z n h0 n0) (fun t k => castTop (ef_rmCopy m ra) k) ?_
  show OwnR _ _ _ _ _ _ _ (s₁.setTop (mkF m 0 #[.val (.ref ra), .val (.int (Int32.ofNat n)), .unset] []))
  rcases own_n3' hn hn4 with hnn | hnn | hnn
  · skip
    have q1 : Int32.ofNat n = (1 : Int32) := by rw [hnn]; rfl
    rw [q1]
    show OwnR _ _ _ _ _ _ _ (s₁.setTop (mkF m 0 #[.val (.ref ra), .val (.int (1 : Int32)), .unset] []))
    refine OwnR.of (fun _ hr => XS.iloadN X0.here hx rfl (hb hby d23_0) rfl hr) ?_
    show OwnR _ _ _ _ _ _ _ (s₁.setTop (mkF m 1 #[.val (.ref ra), .val (.int (1 : Int32)), .unset] [(.int (1 : Int32))]))
    refine OwnR.of (fun _ hr => XS.aloadN X0.here hx rfl (hb hby d23_1) rfl rfl hr) ?_
    show OwnR _ _ _ _ _ _ _ (s₁.setTop (mkF m 2 #[.val (.ref ra), .val (.int (1 : Int32)), .unset] [(.ref ra), (.int (1 : Int32))]))
    obtain ⟨cl1, Ar1, -, S1, N1, -, -⟩ := id V_ra
    refine OwnR.of (X0.arraylength hx (by rw [e0]; exact Ar1.1) (State.isArrayOf_alike hZ.alike Ar1.2.1) (g := (mkF m 2 #[.val (.ref ra), .val (.int (1 : Int32)), .unset] [(.ref ra), (.int (1 : Int32))])) rfl rfl (hb hby d23_2)) ?_
    show OwnR _ _ _ _ _ _ _ (s₁.setTop (mkF m 3 #[.val (.ref ra), .val (.int (1 : Int32)), .unset] [(.int cl1.slots.size.toInt32), (.int (1 : Int32))]))
    rw [len_of S1 N1]
    show OwnR _ _ _ _ _ _ _ (s₁.setTop (mkF m 3 #[.val (.ref ra), .val (.int (1 : Int32)), .unset] [(.int (0 : Int32)), (.int (1 : Int32))]))
    refine OwnR.of (fun _ hr => XS.icmpYes X0.here hx rfl (pc0 := 3) (pc' := 14) rfl (hb hby d23_3) rfl (feq (by decide : ¬ ((1 : Int32) = (0 : Int32)))).2 (by decide) (by decide) hr) ?_
    show OwnR _ _ _ _ _ _ _ (s₁.setTop (mkF m 14 #[.val (.ref ra), .val (.int (1 : Int32)), .unset] []))
    refine OwnR.of (fun _ hr => XS.iloadN X0.here hx rfl (hb hby d23_14) rfl hr) ?_
    show OwnR _ _ _ _ _ _ _ (s₁.setTop (mkF m 15 #[.val (.ref ra), .val (.int (1 : Int32)), .unset] [(.int (1 : Int32))]))
    obtain ⟨T2, h2, k2, X2, e2, E2, A2, AE2, st2⟩ := newPE X0 hx hZ (hw _ (List.mem_of_getElem? (i := 24) rfl)) e0 (g := (mkF m 15 #[.val (.ref ra), .val (.int (1 : Int32)), .unset] [(.int (1 : Int32))])) rfl (hb hby d23_15) rfl (by decide) (cap := 1) (by decide) (by decide) (by decide) (by decide) (ad := "[I") rfl
    obtain ⟨b2, g2⟩ : ∃ z, z = h0.size := ⟨_, rfl⟩
    rw [← g2] at A2 AE2 st2
    refine OwnR.of (st2) ?_
    have gn_b2 : n0 ≤ b2 := Nat.le_trans (Nat.le_trans Z0 (Keep.refl h0 []).1) (Nat.le_of_eq g2.symm)
    have sz_b2 : h0.size ≤ b2 := Nat.le_trans (Keep.refl h0 []).1 (Nat.le_of_eq g2.symm)
    have K2 : Keep h0 h2 [] := Keep.ext (Keep.refl h0 []) E2
    have V2 : Arv Z h2 b2 k2 .int (1 : Int32) [(.int (0 : Int32))] (.int (0 : Int32)) := (Arv.new A2 (by decide)).pad (pad_rep [] (.int (0 : Int32)) 1)
    show OwnR _ _ _ _ _ _ _ (T2.setTop (mkF m 17 #[.val (.ref ra), .val (.int (1 : Int32)), .unset] [(.ref b2)]))
    refine OwnR.of (fun _ hr => XS.astoreN X2.here hx rfl (hb hby d23_17) rfl rfl (l' := #[.val (.ref ra), .val (.int (1 : Int32)), .val (.ref b2)]) rfl hr) ?_
    show OwnR _ _ _ _ _ _ _ (T2.setTop (mkF m 18 #[.val (.ref ra), .val (.int (1 : Int32)), .val (.ref b2)] []))
    refine OwnR.of (fun _ hr => XS.aloadN X2.here hx rfl (hb hby d23_18) rfl rfl hr) ?_
    show OwnR _ _ _ _ _ _ _ (T2.setTop (mkF m 19 #[.val (.ref ra), .val (.int (1 : Int32)), .val (.ref b2)] [(.ref ra)]))
    refine OwnR.of (fun _ hr => XS.iconst X2.here hx rfl (hb hby d23_19) hr) ?_
    show OwnR _ _ _ _ _ _ _ (T2.setTop (mkF m 20 #[.val (.ref ra), .val (.int (1 : Int32)), .val (.ref b2)] [(.int (0 : Int32)), (.ref ra)]))
    refine OwnR.of (fun _ hr => XS.aloadN X2.here hx rfl (hb hby d23_20) rfl rfl hr) ?_
    show OwnR _ _ _ _ _ _ _ (T2.setTop (mkF m 21 #[.val (.ref ra), .val (.int (1 : Int32)), .val (.ref b2)] [(.ref b2), (.int (0 : Int32)), (.ref ra)]))
    refine OwnR.of (fun _ hr => XS.iconst X2.here hx rfl (hb hby d23_21) hr) ?_
    show OwnR _ _ _ _ _ _ _ (T2.setTop (mkF m 22 #[.val (.ref ra), .val (.int (1 : Int32)), .val (.ref b2)] [(.int (0 : Int32)), (.ref b2), (.int (0 : Int32)), (.ref ra)]))
    refine OwnR.of (fun _ hr => XS.aloadN X2.here hx rfl (hb hby d23_22) rfl rfl hr) ?_
    show OwnR _ _ _ _ _ _ _ (T2.setTop (mkF m 23 #[.val (.ref ra), .val (.int (1 : Int32)), .val (.ref b2)] [(.ref ra), (.int (0 : Int32)), (.ref b2), (.int (0 : Int32)), (.ref ra)]))
    obtain ⟨cl3, Ar3, -, S3, N3, -, -⟩ := id (Arv.keep V_ra K2 nin0)
    refine OwnR.of (X2.arraylength hx (by rw [e2]; exact Ar3.1) (State.isArrayOf_alike hZ.alike Ar3.2.1) (g := (mkF m 23 #[.val (.ref ra), .val (.int (1 : Int32)), .val (.ref b2)] [(.ref ra), (.int (0 : Int32)), (.ref b2), (.int (0 : Int32)), (.ref ra)])) rfl rfl (hb hby d23_23)) ?_
    show OwnR _ _ _ _ _ _ _ (T2.setTop (mkF m 24 #[.val (.ref ra), .val (.int (1 : Int32)), .val (.ref b2)] [(.int cl3.slots.size.toInt32), (.int (0 : Int32)), (.ref b2), (.int (0 : Int32)), (.ref ra)]))
    rw [len_of S3 N3]
    show OwnR _ _ _ _ _ _ _ (T2.setTop (mkF m 24 #[.val (.ref ra), .val (.int (1 : Int32)), .val (.ref b2)] [(.int (0 : Int32)), (.int (0 : Int32)), (.ref b2), (.int (0 : Int32)), (.ref ra)]))
    refine OwnR.of (fun _ hr => XS.iloadN X2.here hx rfl (hb hby d23_24) rfl hr) ?_
    show OwnR _ _ _ _ _ _ _ (T2.setTop (mkF m 25 #[.val (.ref ra), .val (.int (1 : Int32)), .val (.ref b2)] [(.int (1 : Int32)), (.int (0 : Int32)), (.int (0 : Int32)), (.ref b2), (.int (0 : Int32)), (.ref ra)]))
    obtain ⟨_, _, ⟨T4, L4, kc4, ns4⟩, -, X4, ⟨Lc4, hQ4, l4, y4, z4⟩, st4⟩ := Jvm.LawKit.callS X2 hx (y := (⟨"java/lang/Math", "min", "(II)I"⟩ : MethodName)) hown (mvT hZ (hw _ (List.mem_of_getElem? (i := 100) rfl))) (mvT hZ (hw _ (List.mem_of_getElem? (i := 101) rfl))) (mvT hZ (hw _ (List.mem_of_getElem? (i := 92) rfl))) (mvT hZ (hw _ (List.mem_of_getElem? (i := 102) rfl))) (by decide) (backOf (W := 4) (rmMinI l Z a0 hw [] (0 : Int32) (1 : Int32) h2 n0 (Nat.le_trans Z0 K2.1) ) hZ (hw _ (List.mem_of_getElem? (i := 102) rfl)) (hw _ (List.mem_of_getElem? (i := 92) rfl)) (by decide) (by decide)) (g := (mkF m 25 #[.val (.ref ra), .val (.int (1 : Int32)), .val (.ref b2)] [(.int (1 : Int32)), (.int (0 : Int32)), (.int (0 : Int32)), (.ref b2), (.int (0 : Int32)), (.ref ra)])) rfl (by rw [hml]; rfl) (argsL := [(.int (0 : Int32)), (.int (1 : Int32))]) (rest := [(.int (0 : Int32)), (.ref b2), (.int (0 : Int32)), (.ref ra)]) (lenOf pd__II_I rfl) rfl (by show 2 * 0 + _ ≤ _; exact Nat.le_of_eq rfl) (hb hby d23_25) (fun _ _ => ⟨rfl, e2, (by decide : 1 + 0 ≤ _), (by decide : 1 + 0 ≤ _)⟩)
    dsimp only [Pt.U, Pt.locs, Pt.cells, Pt.slots] at X4 l4 y4 z4 st4 hQ4
    rw [l4, y4, z4] at X4
    obtain ⟨rfl, N4q, e4⟩ := hQ4
    have N4 := Fr.app N0 N4q
    refine OwnR.of (st4) ?_
    show OwnR _ _ _ _ _ _ _ (T4.setTop (mkF m 28 #[.val (.ref ra), .val (.int (1 : Int32)), .val (.ref b2)] [(.int (own_imin (0 : Int32) (1 : Int32))), (.int (0 : Int32)), (.ref b2), (.int (0 : Int32)), (.ref ra)]))
    rw [own_im0.1]
    show OwnR _ _ _ _ _ _ _ (T4.setTop (mkF m 28 #[.val (.ref ra), .val (.int (1 : Int32)), .val (.ref b2)] [(.int (0 : Int32)), (.int (0 : Int32)), (.ref b2), (.int (0 : Int32)), (.ref ra)]))
    obtain ⟨T5, h5, L5, X5, e5, N5, Kp5, V5, st5⟩ := cpA X4 hx hZ hown (hw _ (List.mem_of_getElem? (i := 103) rfl)) (hw _ (List.mem_of_getElem? (i := 106) rfl)) (hw _ (List.mem_of_getElem? (i := 104) rfl)) (hw _ (List.mem_of_getElem? (i := 105) rfl)) e4 (Arv.keep V_ra K2 nin0) V2 (Or.inl ⟨rfl, rfl⟩) (us := []) (by decide) (by decide) (by decide) (by decide) (by decide) rfl (by decide) N4 gn_b2 (g := (mkF m 28 #[.val (.ref ra), .val (.int (1 : Int32)), .val (.ref b2)] [(.int (0 : Int32)), (.int (0 : Int32)), (.ref b2), (.int (0 : Int32)), (.ref ra)])) rfl (by rw [hml]; rfl) rfl (hb hby d23_28) (by decide) (W := 0) (by show 2 * 0 + _ ≤ _; exact Nat.le_of_eq rfl) (by decide)
    refine OwnR.of (st5) ?_
    have K5 : Keep h0 h5 [] := Keep.trans K2 Kp5 (allS (Or.inr sz_b2) all0)
    have V5 : Arv Z h5 b2 k2 .int (1 : Int32) [(.int (0 : Int32))] (.int (0 : Int32)) := V5
    show OwnR _ _ _ _ _ _ _ (T5.setTop (mkF m 31 #[.val (.ref ra), .val (.int (1 : Int32)), .val (.ref b2)] []))
    refine OwnR.of (fun _ hr => XS.aloadN X5.here hx rfl (hb hby d23_31) rfl rfl hr) ?_
    show OwnR _ _ _ _ _ _ _ (T5.setTop (mkF m 32 #[.val (.ref ra), .val (.int (1 : Int32)), .val (.ref b2)] [(.ref b2)]))
    refine own_leafA X5 hx hlk Bd.returns rfl rfl (hb hby d23_32) (by decide) (by decide) ?_
    show QCopy Z n h0 n0 _ T5.heap _
    rw [show T5.heap = h5 from e5]
    refine ⟨b2, k2, ?_, N5, ⟨K5, (AE2.keep Kp5), (by rw [hnn]; exact OwnF.congr (OwnF.ofArv V5 rfl) fun i _ => own_rep 1 (Value.int (0 : Int32)) i), sz_b2, gn_b2⟩⟩
    show (some (.ref b2) : Option Value) = some (.ref b2)
    rfl
  · skip
    have q1 : Int32.ofNat n = (2 : Int32) := by rw [hnn]; rfl
    rw [q1]
    show OwnR _ _ _ _ _ _ _ (s₁.setTop (mkF m 0 #[.val (.ref ra), .val (.int (2 : Int32)), .unset] []))
    refine OwnR.of (fun _ hr => XS.iloadN X0.here hx rfl (hb hby d23_0) rfl hr) ?_
    show OwnR _ _ _ _ _ _ _ (s₁.setTop (mkF m 1 #[.val (.ref ra), .val (.int (2 : Int32)), .unset] [(.int (2 : Int32))]))
    refine OwnR.of (fun _ hr => XS.aloadN X0.here hx rfl (hb hby d23_1) rfl rfl hr) ?_
    show OwnR _ _ _ _ _ _ _ (s₁.setTop (mkF m 2 #[.val (.ref ra), .val (.int (2 : Int32)), .unset] [(.ref ra), (.int (2 : Int32))]))
    obtain ⟨cl6, Ar6, -, S6, N6, -, -⟩ := id V_ra
    refine OwnR.of (X0.arraylength hx (by rw [e0]; exact Ar6.1) (State.isArrayOf_alike hZ.alike Ar6.2.1) (g := (mkF m 2 #[.val (.ref ra), .val (.int (2 : Int32)), .unset] [(.ref ra), (.int (2 : Int32))])) rfl rfl (hb hby d23_2)) ?_
    show OwnR _ _ _ _ _ _ _ (s₁.setTop (mkF m 3 #[.val (.ref ra), .val (.int (2 : Int32)), .unset] [(.int cl6.slots.size.toInt32), (.int (2 : Int32))]))
    rw [len_of S6 N6]
    show OwnR _ _ _ _ _ _ _ (s₁.setTop (mkF m 3 #[.val (.ref ra), .val (.int (2 : Int32)), .unset] [(.int (0 : Int32)), (.int (2 : Int32))]))
    refine OwnR.of (fun _ hr => XS.icmpYes X0.here hx rfl (pc0 := 3) (pc' := 14) rfl (hb hby d23_3) rfl (feq (by decide : ¬ ((2 : Int32) = (0 : Int32)))).2 (by decide) (by decide) hr) ?_
    show OwnR _ _ _ _ _ _ _ (s₁.setTop (mkF m 14 #[.val (.ref ra), .val (.int (2 : Int32)), .unset] []))
    refine OwnR.of (fun _ hr => XS.iloadN X0.here hx rfl (hb hby d23_14) rfl hr) ?_
    show OwnR _ _ _ _ _ _ _ (s₁.setTop (mkF m 15 #[.val (.ref ra), .val (.int (2 : Int32)), .unset] [(.int (2 : Int32))]))
    obtain ⟨T7, h7, k7, X7, e7, E7, A7, AE7, st7⟩ := newPE X0 hx hZ (hw _ (List.mem_of_getElem? (i := 24) rfl)) e0 (g := (mkF m 15 #[.val (.ref ra), .val (.int (2 : Int32)), .unset] [(.int (2 : Int32))])) rfl (hb hby d23_15) rfl (by decide) (cap := 2) (by decide) (by decide) (by decide) (by decide) (ad := "[I") rfl
    obtain ⟨b7, g7⟩ : ∃ z, z = h0.size := ⟨_, rfl⟩
    rw [← g7] at A7 AE7 st7
    refine OwnR.of (st7) ?_
    have gn_b7 : n0 ≤ b7 := Nat.le_trans (Nat.le_trans Z0 (Keep.refl h0 []).1) (Nat.le_of_eq g7.symm)
    have sz_b7 : h0.size ≤ b7 := Nat.le_trans (Keep.refl h0 []).1 (Nat.le_of_eq g7.symm)
    have K7 : Keep h0 h7 [] := Keep.ext (Keep.refl h0 []) E7
    have V7 : Arv Z h7 b7 k7 .int (2 : Int32) [(.int (0 : Int32)), (.int (0 : Int32))] (.int (0 : Int32)) := (Arv.new A7 (by decide)).pad (pad_rep [] (.int (0 : Int32)) 2)
    show OwnR _ _ _ _ _ _ _ (T7.setTop (mkF m 17 #[.val (.ref ra), .val (.int (2 : Int32)), .unset] [(.ref b7)]))
    refine OwnR.of (fun _ hr => XS.astoreN X7.here hx rfl (hb hby d23_17) rfl rfl (l' := #[.val (.ref ra), .val (.int (2 : Int32)), .val (.ref b7)]) rfl hr) ?_
    show OwnR _ _ _ _ _ _ _ (T7.setTop (mkF m 18 #[.val (.ref ra), .val (.int (2 : Int32)), .val (.ref b7)] []))
    refine OwnR.of (fun _ hr => XS.aloadN X7.here hx rfl (hb hby d23_18) rfl rfl hr) ?_
    show OwnR _ _ _ _ _ _ _ (T7.setTop (mkF m 19 #[.val (.ref ra), .val (.int (2 : Int32)), .val (.ref b7)] [(.ref ra)]))
    refine OwnR.of (fun _ hr => XS.iconst X7.here hx rfl (hb hby d23_19) hr) ?_
    show OwnR _ _ _ _ _ _ _ (T7.setTop (mkF m 20 #[.val (.ref ra), .val (.int (2 : Int32)), .val (.ref b7)] [(.int (0 : Int32)), (.ref ra)]))
    refine OwnR.of (fun _ hr => XS.aloadN X7.here hx rfl (hb hby d23_20) rfl rfl hr) ?_
    show OwnR _ _ _ _ _ _ _ (T7.setTop (mkF m 21 #[.val (.ref ra), .val (.int (2 : Int32)), .val (.ref b7)] [(.ref b7), (.int (0 : Int32)), (.ref ra)]))
    refine OwnR.of (fun _ hr => XS.iconst X7.here hx rfl (hb hby d23_21) hr) ?_
    show OwnR _ _ _ _ _ _ _ (T7.setTop (mkF m 22 #[.val (.ref ra), .val (.int (2 : Int32)), .val (.ref b7)] [(.int (0 : Int32)), (.ref b7), (.int (0 : Int32)), (.ref ra)]))
    refine OwnR.of (fun _ hr => XS.aloadN X7.here hx rfl (hb hby d23_22) rfl rfl hr) ?_
    show OwnR _ _ _ _ _ _ _ (T7.setTop (mkF m 23 #[.val (.ref ra), .val (.int (2 : Int32)), .val (.ref b7)] [(.ref ra), (.int (0 : Int32)), (.ref b7), (.int (0 : Int32)), (.ref ra)]))
    obtain ⟨cl8, Ar8, -, S8, N8, -, -⟩ := id (Arv.keep V_ra K7 nin0)
    refine OwnR.of (X7.arraylength hx (by rw [e7]; exact Ar8.1) (State.isArrayOf_alike hZ.alike Ar8.2.1) (g := (mkF m 23 #[.val (.ref ra), .val (.int (2 : Int32)), .val (.ref b7)] [(.ref ra), (.int (0 : Int32)), (.ref b7), (.int (0 : Int32)), (.ref ra)])) rfl rfl (hb hby d23_23)) ?_
    show OwnR _ _ _ _ _ _ _ (T7.setTop (mkF m 24 #[.val (.ref ra), .val (.int (2 : Int32)), .val (.ref b7)] [(.int cl8.slots.size.toInt32), (.int (0 : Int32)), (.ref b7), (.int (0 : Int32)), (.ref ra)]))
    rw [len_of S8 N8]
    show OwnR _ _ _ _ _ _ _ (T7.setTop (mkF m 24 #[.val (.ref ra), .val (.int (2 : Int32)), .val (.ref b7)] [(.int (0 : Int32)), (.int (0 : Int32)), (.ref b7), (.int (0 : Int32)), (.ref ra)]))
    refine OwnR.of (fun _ hr => XS.iloadN X7.here hx rfl (hb hby d23_24) rfl hr) ?_
    show OwnR _ _ _ _ _ _ _ (T7.setTop (mkF m 25 #[.val (.ref ra), .val (.int (2 : Int32)), .val (.ref b7)] [(.int (2 : Int32)), (.int (0 : Int32)), (.int (0 : Int32)), (.ref b7), (.int (0 : Int32)), (.ref ra)]))
    obtain ⟨_, _, ⟨T9, L9, kc9, ns9⟩, -, X9, ⟨Lc9, hQ9, l9, y9, z9⟩, st9⟩ := Jvm.LawKit.callS X7 hx (y := (⟨"java/lang/Math", "min", "(II)I"⟩ : MethodName)) hown (mvT hZ (hw _ (List.mem_of_getElem? (i := 100) rfl))) (mvT hZ (hw _ (List.mem_of_getElem? (i := 101) rfl))) (mvT hZ (hw _ (List.mem_of_getElem? (i := 92) rfl))) (mvT hZ (hw _ (List.mem_of_getElem? (i := 102) rfl))) (by decide) (backOf (W := 4) (rmMinI l Z a0 hw [] (0 : Int32) (2 : Int32) h7 n0 (Nat.le_trans Z0 K7.1) ) hZ (hw _ (List.mem_of_getElem? (i := 102) rfl)) (hw _ (List.mem_of_getElem? (i := 92) rfl)) (by decide) (by decide)) (g := (mkF m 25 #[.val (.ref ra), .val (.int (2 : Int32)), .val (.ref b7)] [(.int (2 : Int32)), (.int (0 : Int32)), (.int (0 : Int32)), (.ref b7), (.int (0 : Int32)), (.ref ra)])) rfl (by rw [hml]; rfl) (argsL := [(.int (0 : Int32)), (.int (2 : Int32))]) (rest := [(.int (0 : Int32)), (.ref b7), (.int (0 : Int32)), (.ref ra)]) (lenOf pd__II_I rfl) rfl (by show 2 * 0 + _ ≤ _; exact Nat.le_of_eq rfl) (hb hby d23_25) (fun _ _ => ⟨rfl, e7, (by decide : 1 + 0 ≤ _), (by decide : 2 + 0 ≤ _)⟩)
    dsimp only [Pt.U, Pt.locs, Pt.cells, Pt.slots] at X9 l9 y9 z9 st9 hQ9
    rw [l9, y9, z9] at X9
    obtain ⟨rfl, N9q, e9⟩ := hQ9
    have N9 := Fr.app N0 N9q
    refine OwnR.of (st9) ?_
    show OwnR _ _ _ _ _ _ _ (T9.setTop (mkF m 28 #[.val (.ref ra), .val (.int (2 : Int32)), .val (.ref b7)] [(.int (own_imin (0 : Int32) (2 : Int32))), (.int (0 : Int32)), (.ref b7), (.int (0 : Int32)), (.ref ra)]))
    rw [own_im0.2.1]
    show OwnR _ _ _ _ _ _ _ (T9.setTop (mkF m 28 #[.val (.ref ra), .val (.int (2 : Int32)), .val (.ref b7)] [(.int (0 : Int32)), (.int (0 : Int32)), (.ref b7), (.int (0 : Int32)), (.ref ra)]))
    obtain ⟨T10, h10, L10, X10, e10, N10, Kp10, V10, st10⟩ := cpA X9 hx hZ hown (hw _ (List.mem_of_getElem? (i := 103) rfl)) (hw _ (List.mem_of_getElem? (i := 106) rfl)) (hw _ (List.mem_of_getElem? (i := 104) rfl)) (hw _ (List.mem_of_getElem? (i := 105) rfl)) e9 (Arv.keep V_ra K7 nin0) V7 (Or.inl ⟨rfl, rfl⟩) (us := []) (by decide) (by decide) (by decide) (by decide) (by decide) rfl (by decide) N9 gn_b7 (g := (mkF m 28 #[.val (.ref ra), .val (.int (2 : Int32)), .val (.ref b7)] [(.int (0 : Int32)), (.int (0 : Int32)), (.ref b7), (.int (0 : Int32)), (.ref ra)])) rfl (by rw [hml]; rfl) rfl (hb hby d23_28) (by decide) (W := 0) (by show 2 * 0 + _ ≤ _; exact Nat.le_of_eq rfl) (by decide)
    refine OwnR.of (st10) ?_
    have K10 : Keep h0 h10 [] := Keep.trans K7 Kp10 (allS (Or.inr sz_b7) all0)
    have V10 : Arv Z h10 b7 k7 .int (2 : Int32) [(.int (0 : Int32)), (.int (0 : Int32))] (.int (0 : Int32)) := V10
    show OwnR _ _ _ _ _ _ _ (T10.setTop (mkF m 31 #[.val (.ref ra), .val (.int (2 : Int32)), .val (.ref b7)] []))
    refine OwnR.of (fun _ hr => XS.aloadN X10.here hx rfl (hb hby d23_31) rfl rfl hr) ?_
    show OwnR _ _ _ _ _ _ _ (T10.setTop (mkF m 32 #[.val (.ref ra), .val (.int (2 : Int32)), .val (.ref b7)] [(.ref b7)]))
    refine own_leafA X10 hx hlk Bd.returns rfl rfl (hb hby d23_32) (by decide) (by decide) ?_
    show QCopy Z n h0 n0 _ T10.heap _
    rw [show T10.heap = h10 from e10]
    refine ⟨b7, k7, ?_, N10, ⟨K10, (AE7.keep Kp10), (by rw [hnn]; exact OwnF.congr (OwnF.ofArv V10 rfl) fun i _ => own_rep 2 (Value.int (0 : Int32)) i), sz_b7, gn_b7⟩⟩
    show (some (.ref b7) : Option Value) = some (.ref b7)
    rfl
  · skip
    have q1 : Int32.ofNat n = (3 : Int32) := by rw [hnn]; rfl
    rw [q1]
    show OwnR _ _ _ _ _ _ _ (s₁.setTop (mkF m 0 #[.val (.ref ra), .val (.int (3 : Int32)), .unset] []))
    refine OwnR.of (fun _ hr => XS.iloadN X0.here hx rfl (hb hby d23_0) rfl hr) ?_
    show OwnR _ _ _ _ _ _ _ (s₁.setTop (mkF m 1 #[.val (.ref ra), .val (.int (3 : Int32)), .unset] [(.int (3 : Int32))]))
    refine OwnR.of (fun _ hr => XS.aloadN X0.here hx rfl (hb hby d23_1) rfl rfl hr) ?_
    show OwnR _ _ _ _ _ _ _ (s₁.setTop (mkF m 2 #[.val (.ref ra), .val (.int (3 : Int32)), .unset] [(.ref ra), (.int (3 : Int32))]))
    obtain ⟨cl11, Ar11, -, S11, N11, -, -⟩ := id V_ra
    refine OwnR.of (X0.arraylength hx (by rw [e0]; exact Ar11.1) (State.isArrayOf_alike hZ.alike Ar11.2.1) (g := (mkF m 2 #[.val (.ref ra), .val (.int (3 : Int32)), .unset] [(.ref ra), (.int (3 : Int32))])) rfl rfl (hb hby d23_2)) ?_
    show OwnR _ _ _ _ _ _ _ (s₁.setTop (mkF m 3 #[.val (.ref ra), .val (.int (3 : Int32)), .unset] [(.int cl11.slots.size.toInt32), (.int (3 : Int32))]))
    rw [len_of S11 N11]
    show OwnR _ _ _ _ _ _ _ (s₁.setTop (mkF m 3 #[.val (.ref ra), .val (.int (3 : Int32)), .unset] [(.int (0 : Int32)), (.int (3 : Int32))]))
    refine OwnR.of (fun _ hr => XS.icmpYes X0.here hx rfl (pc0 := 3) (pc' := 14) rfl (hb hby d23_3) rfl (feq (by decide : ¬ ((3 : Int32) = (0 : Int32)))).2 (by decide) (by decide) hr) ?_
    show OwnR _ _ _ _ _ _ _ (s₁.setTop (mkF m 14 #[.val (.ref ra), .val (.int (3 : Int32)), .unset] []))
    refine OwnR.of (fun _ hr => XS.iloadN X0.here hx rfl (hb hby d23_14) rfl hr) ?_
    show OwnR _ _ _ _ _ _ _ (s₁.setTop (mkF m 15 #[.val (.ref ra), .val (.int (3 : Int32)), .unset] [(.int (3 : Int32))]))
    obtain ⟨T12, h12, k12, X12, e12, E12, A12, AE12, st12⟩ := newPE X0 hx hZ (hw _ (List.mem_of_getElem? (i := 24) rfl)) e0 (g := (mkF m 15 #[.val (.ref ra), .val (.int (3 : Int32)), .unset] [(.int (3 : Int32))])) rfl (hb hby d23_15) rfl (by decide) (cap := 3) (by decide) (by decide) (by decide) (by decide) (ad := "[I") rfl
    obtain ⟨b12, g12⟩ : ∃ z, z = h0.size := ⟨_, rfl⟩
    rw [← g12] at A12 AE12 st12
    refine OwnR.of (st12) ?_
    have gn_b12 : n0 ≤ b12 := Nat.le_trans (Nat.le_trans Z0 (Keep.refl h0 []).1) (Nat.le_of_eq g12.symm)
    have sz_b12 : h0.size ≤ b12 := Nat.le_trans (Keep.refl h0 []).1 (Nat.le_of_eq g12.symm)
    have K12 : Keep h0 h12 [] := Keep.ext (Keep.refl h0 []) E12
    have V12 : Arv Z h12 b12 k12 .int (3 : Int32) [(.int (0 : Int32)), (.int (0 : Int32)), (.int (0 : Int32))] (.int (0 : Int32)) := (Arv.new A12 (by decide)).pad (pad_rep [] (.int (0 : Int32)) 3)
    show OwnR _ _ _ _ _ _ _ (T12.setTop (mkF m 17 #[.val (.ref ra), .val (.int (3 : Int32)), .unset] [(.ref b12)]))
    refine OwnR.of (fun _ hr => XS.astoreN X12.here hx rfl (hb hby d23_17) rfl rfl (l' := #[.val (.ref ra), .val (.int (3 : Int32)), .val (.ref b12)]) rfl hr) ?_
    show OwnR _ _ _ _ _ _ _ (T12.setTop (mkF m 18 #[.val (.ref ra), .val (.int (3 : Int32)), .val (.ref b12)] []))
    refine OwnR.of (fun _ hr => XS.aloadN X12.here hx rfl (hb hby d23_18) rfl rfl hr) ?_
    show OwnR _ _ _ _ _ _ _ (T12.setTop (mkF m 19 #[.val (.ref ra), .val (.int (3 : Int32)), .val (.ref b12)] [(.ref ra)]))
    refine OwnR.of (fun _ hr => XS.iconst X12.here hx rfl (hb hby d23_19) hr) ?_
    show OwnR _ _ _ _ _ _ _ (T12.setTop (mkF m 20 #[.val (.ref ra), .val (.int (3 : Int32)), .val (.ref b12)] [(.int (0 : Int32)), (.ref ra)]))
    refine OwnR.of (fun _ hr => XS.aloadN X12.here hx rfl (hb hby d23_20) rfl rfl hr) ?_
    show OwnR _ _ _ _ _ _ _ (T12.setTop (mkF m 21 #[.val (.ref ra), .val (.int (3 : Int32)), .val (.ref b12)] [(.ref b12), (.int (0 : Int32)), (.ref ra)]))
    refine OwnR.of (fun _ hr => XS.iconst X12.here hx rfl (hb hby d23_21) hr) ?_
    show OwnR _ _ _ _ _ _ _ (T12.setTop (mkF m 22 #[.val (.ref ra), .val (.int (3 : Int32)), .val (.ref b12)] [(.int (0 : Int32)), (.ref b12), (.int (0 : Int32)), (.ref ra)]))
    refine OwnR.of (fun _ hr => XS.aloadN X12.here hx rfl (hb hby d23_22) rfl rfl hr) ?_
    show OwnR _ _ _ _ _ _ _ (T12.setTop (mkF m 23 #[.val (.ref ra), .val (.int (3 : Int32)), .val (.ref b12)] [(.ref ra), (.int (0 : Int32)), (.ref b12), (.int (0 : Int32)), (.ref ra)]))
    obtain ⟨cl13, Ar13, -, S13, N13, -, -⟩ := id (Arv.keep V_ra K12 nin0)
    refine OwnR.of (X12.arraylength hx (by rw [e12]; exact Ar13.1) (State.isArrayOf_alike hZ.alike Ar13.2.1) (g := (mkF m 23 #[.val (.ref ra), .val (.int (3 : Int32)), .val (.ref b12)] [(.ref ra), (.int (0 : Int32)), (.ref b12), (.int (0 : Int32)), (.ref ra)])) rfl rfl (hb hby d23_23)) ?_
    show OwnR _ _ _ _ _ _ _ (T12.setTop (mkF m 24 #[.val (.ref ra), .val (.int (3 : Int32)), .val (.ref b12)] [(.int cl13.slots.size.toInt32), (.int (0 : Int32)), (.ref b12), (.int (0 : Int32)), (.ref ra)]))
    rw [len_of S13 N13]
    show OwnR _ _ _ _ _ _ _ (T12.setTop (mkF m 24 #[.val (.ref ra), .val (.int (3 : Int32)), .val (.ref b12)] [(.int (0 : Int32)), (.int (0 : Int32)), (.ref b12), (.int (0 : Int32)), (.ref ra)]))
    refine OwnR.of (fun _ hr => XS.iloadN X12.here hx rfl (hb hby d23_24) rfl hr) ?_
    show OwnR _ _ _ _ _ _ _ (T12.setTop (mkF m 25 #[.val (.ref ra), .val (.int (3 : Int32)), .val (.ref b12)] [(.int (3 : Int32)), (.int (0 : Int32)), (.int (0 : Int32)), (.ref b12), (.int (0 : Int32)), (.ref ra)]))
    obtain ⟨_, _, ⟨T14, L14, kc14, ns14⟩, -, X14, ⟨Lc14, hQ14, l14, y14, z14⟩, st14⟩ := Jvm.LawKit.callS X12 hx (y := (⟨"java/lang/Math", "min", "(II)I"⟩ : MethodName)) hown (mvT hZ (hw _ (List.mem_of_getElem? (i := 100) rfl))) (mvT hZ (hw _ (List.mem_of_getElem? (i := 101) rfl))) (mvT hZ (hw _ (List.mem_of_getElem? (i := 92) rfl))) (mvT hZ (hw _ (List.mem_of_getElem? (i := 102) rfl))) (by decide) (backOf (W := 4) (rmMinI l Z a0 hw [] (0 : Int32) (3 : Int32) h12 n0 (Nat.le_trans Z0 K12.1) ) hZ (hw _ (List.mem_of_getElem? (i := 102) rfl)) (hw _ (List.mem_of_getElem? (i := 92) rfl)) (by decide) (by decide)) (g := (mkF m 25 #[.val (.ref ra), .val (.int (3 : Int32)), .val (.ref b12)] [(.int (3 : Int32)), (.int (0 : Int32)), (.int (0 : Int32)), (.ref b12), (.int (0 : Int32)), (.ref ra)])) rfl (by rw [hml]; rfl) (argsL := [(.int (0 : Int32)), (.int (3 : Int32))]) (rest := [(.int (0 : Int32)), (.ref b12), (.int (0 : Int32)), (.ref ra)]) (lenOf pd__II_I rfl) rfl (by show 2 * 0 + _ ≤ _; exact Nat.le_of_eq rfl) (hb hby d23_25) (fun _ _ => ⟨rfl, e12, (by decide : 1 + 0 ≤ _), (by decide : 3 + 0 ≤ _)⟩)
    dsimp only [Pt.U, Pt.locs, Pt.cells, Pt.slots] at X14 l14 y14 z14 st14 hQ14
    rw [l14, y14, z14] at X14
    obtain ⟨rfl, N14q, e14⟩ := hQ14
    have N14 := Fr.app N0 N14q
    refine OwnR.of (st14) ?_
    show OwnR _ _ _ _ _ _ _ (T14.setTop (mkF m 28 #[.val (.ref ra), .val (.int (3 : Int32)), .val (.ref b12)] [(.int (own_imin (0 : Int32) (3 : Int32))), (.int (0 : Int32)), (.ref b12), (.int (0 : Int32)), (.ref ra)]))
    rw [own_im0.2.2]
    show OwnR _ _ _ _ _ _ _ (T14.setTop (mkF m 28 #[.val (.ref ra), .val (.int (3 : Int32)), .val (.ref b12)] [(.int (0 : Int32)), (.int (0 : Int32)), (.ref b12), (.int (0 : Int32)), (.ref ra)]))
    obtain ⟨T15, h15, L15, X15, e15, N15, Kp15, V15, st15⟩ := cpA X14 hx hZ hown (hw _ (List.mem_of_getElem? (i := 103) rfl)) (hw _ (List.mem_of_getElem? (i := 106) rfl)) (hw _ (List.mem_of_getElem? (i := 104) rfl)) (hw _ (List.mem_of_getElem? (i := 105) rfl)) e14 (Arv.keep V_ra K12 nin0) V12 (Or.inl ⟨rfl, rfl⟩) (us := []) (by decide) (by decide) (by decide) (by decide) (by decide) rfl (by decide) N14 gn_b12 (g := (mkF m 28 #[.val (.ref ra), .val (.int (3 : Int32)), .val (.ref b12)] [(.int (0 : Int32)), (.int (0 : Int32)), (.ref b12), (.int (0 : Int32)), (.ref ra)])) rfl (by rw [hml]; rfl) rfl (hb hby d23_28) (by decide) (W := 0) (by show 2 * 0 + _ ≤ _; exact Nat.le_of_eq rfl) (by decide)
    refine OwnR.of (st15) ?_
    have K15 : Keep h0 h15 [] := Keep.trans K12 Kp15 (allS (Or.inr sz_b12) all0)
    have V15 : Arv Z h15 b12 k12 .int (3 : Int32) [(.int (0 : Int32)), (.int (0 : Int32)), (.int (0 : Int32))] (.int (0 : Int32)) := V15
    show OwnR _ _ _ _ _ _ _ (T15.setTop (mkF m 31 #[.val (.ref ra), .val (.int (3 : Int32)), .val (.ref b12)] []))
    refine OwnR.of (fun _ hr => XS.aloadN X15.here hx rfl (hb hby d23_31) rfl rfl hr) ?_
    show OwnR _ _ _ _ _ _ _ (T15.setTop (mkF m 32 #[.val (.ref ra), .val (.int (3 : Int32)), .val (.ref b12)] [(.ref b12)]))
    refine own_leafA X15 hx hlk Bd.returns rfl rfl (hb hby d23_32) (by decide) (by decide) ?_
    show QCopy Z n h0 n0 _ T15.heap _
    rw [show T15.heap = h15 from e15]
    refine ⟨b12, k12, ?_, N15, ⟨K15, (AE12.keep Kp15), (by rw [hnn]; exact OwnF.congr (OwnF.ofArv V15 rfl) fun i _ => own_rep 3 (Value.int (0 : Int32)) i), sz_b12, gn_b12⟩⟩
    show (some (.ref b12) : Option Value) = some (.ref b12)
    rfl
theorem own_oo {n0 em rel ro rz : Nat} (O : OwnOr n0 em rel ro rz) : rel ≠ ro ∧ rel ≠ rz ∧ ro ≠ rz ∧ n0 ≤ rel ∧ n0 ≤ ro ∧ n0 ≤ rz := by
  obtain ⟨h1, h2, h3, h4⟩ := O
  exact ⟨by omega, by omega, by omega, h2, by omega, by omega⟩
theorem own_ob {n0 em rel ro rz bw : Nat} (O : OwnOr n0 em rel ro rz) (h : rz < bw) : rel ≠ bw ∧ ro ≠ bw ∧ rz ≠ bw ∧ n0 ≤ bw := by
  obtain ⟨h1, h2, h3, h4⟩ := O
  exact ⟨by omega, by omega, by omega, by omega⟩
theorem own_on {n0 em rel ro rz nb z : Nat} (O : OwnOr n0 em rel ro rz) (h : rz < z) (h2 : z ≤ nb) : rel ≠ nb ∧ ro ≠ nb ∧ rz ≠ nb ∧ rz < nb := by
  obtain ⟨h1, h2, h3, h4⟩ := O
  exact ⟨by omega, by omega, by omega, by omega⟩
theorem own_ifB {B : Nat → Addr} {fi : Nat} {bw : Addr} (h : B fi = bw) (i : Nat) : Value.ref (B i) = if i = fi then .ref bw else .ref (B i) := by
  by_cases q : i = fi
  · subst q; rw [if_pos rfl, h]
  · rw [if_neg q]
theorem ef_rmAdd (m : MethodId) (x0 : Addr) : entryFrame m #[(.ref x0), (.int (Int32.ofNat fi)), (.int (Int32.ofNat ti))] 9 = mkF m 0 #[.val (.ref x0), .val (.int (Int32.ofNat fi)), .val (.int (Int32.ofNat ti)), .unset, .unset, .unset, .unset, .unset, .unset] [] := by first | (simp [entryFrame, mkF, argsToLocals, Value.category]; done) | rfl
theorem d13_0 : decode prog_24_method_4_code 0 = .ok (.aload_n 0, 1) := by decide +kernel
theorem d13_1 : decode prog_24_method_4_code 1 = .ok (.iload_n 1, 1) := by decide +kernel
theorem d13_2 : decode prog_24_method_4_code 2 = .ok (.iload_n 2, 1) := by decide +kernel
theorem d13_3 : decode prog_24_method_4_code 3 = .ok (.invokevirtual 40, 3) := by decide +kernel
theorem d13_6 : decode prog_24_method_4_code 6 = .ok (.istore_n 3, 1) := by decide +kernel
theorem d13_7 : decode prog_24_method_4_code 7 = .ok (.aload_n 0, 1) := by decide +kernel
theorem d13_8 : decode prog_24_method_4_code 8 = .ok (.getfield 18, 3) := by decide +kernel
theorem d13_11 : decode prog_24_method_4_code 11 = .ok (.iload_n 1, 1) := by decide +kernel
theorem d13_12 : decode prog_24_method_4_code 12 = .ok (.aaload, 1) := by decide +kernel
theorem d13_13 : decode prog_24_method_4_code 13 = .ok (.astore 4, 2) := by decide +kernel
theorem d13_15 : decode prog_24_method_4_code 15 = .ok (.aload_n 0, 1) := by decide +kernel
theorem d13_16 : decode prog_24_method_4_code 16 = .ok (.getfield 33, 3) := by decide +kernel
theorem d13_19 : decode prog_24_method_4_code 19 = .ok (.iload_n 1, 1) := by decide +kernel
theorem d13_20 : decode prog_24_method_4_code 20 = .ok (.iaload, 1) := by decide +kernel
theorem d13_21 : decode prog_24_method_4_code 21 = .ok (.istore 5, 2) := by decide +kernel
theorem d13_23 : decode prog_24_method_4_code 23 = .ok (.iload_n 3, 1) := by decide +kernel
theorem d13_24 : decode prog_24_method_4_code 24 = .ok (.ifCond .ge 7, 3) := by decide +kernel
theorem d13_27 : decode prog_24_method_4_code 27 = .ok (.iconst 1, 1) := by decide +kernel
theorem d13_28 : decode prog_24_method_4_code 28 = .ok (.goto 4, 3) := by decide +kernel
theorem d13_32 : decode prog_24_method_4_code 32 = .ok (.istore 6, 2) := by decide +kernel
theorem d13_34 : decode prog_24_method_4_code 34 = .ok (.iload 6, 2) := by decide +kernel
theorem d13_36 : decode prog_24_method_4_code 36 = .ok (.ifCond .eq 103, 3) := by decide +kernel
theorem d13_39 : decode prog_24_method_4_code 39 = .ok (.iload_n 3, 1) := by decide +kernel
theorem d13_40 : decode prog_24_method_4_code 40 = .ok (.ineg, 1) := by decide +kernel
theorem d13_41 : decode prog_24_method_4_code 41 = .ok (.iconst 1, 1) := by decide +kernel
theorem d13_42 : decode prog_24_method_4_code 42 = .ok (.isub, 1) := by decide +kernel
theorem d13_43 : decode prog_24_method_4_code 43 = .ok (.istore 7, 2) := by decide +kernel
theorem d13_45 : decode prog_24_method_4_code 45 = .ok (.iload 5, 2) := by decide +kernel
theorem d13_47 : decode prog_24_method_4_code 47 = .ok (.aload 4, 2) := by decide +kernel
theorem d13_49 : decode prog_24_method_4_code 49 = .ok (.arraylength, 1) := by decide +kernel
theorem d13_50 : decode prog_24_method_4_code 50 = .ok (.if_icmp .ne 45, 3) := by decide +kernel
theorem d13_53 : decode prog_24_method_4_code 53 = .ok (.ldc2_w 44, 3) := by decide +kernel
theorem d13_56 : decode prog_24_method_4_code 56 = .ok (.ldc2_w 46, 3) := by decide +kernel
theorem d13_59 : decode prog_24_method_4_code 59 = .ok (.iload 5, 2) := by decide +kernel
theorem d13_61 : decode prog_24_method_4_code 61 = .ok (.i2l, 1) := by decide +kernel
theorem d13_62 : decode prog_24_method_4_code 62 = .ok (.lmul, 1) := by decide +kernel
theorem d13_63 : decode prog_24_method_4_code 63 = .ok (.invokestatic 48, 3) := by decide +kernel
theorem pd__JJ_J : parseMethodDescriptor "(JJ)J" = some ⟨[.long, .long], some .long⟩ := by decide +kernel
theorem d13_66 : decode prog_24_method_4_code 66 = .ok (.aload_n 0, 1) := by decide +kernel
theorem d13_67 : decode prog_24_method_4_code 67 = .ok (.getfield 18, 3) := by decide +kernel
theorem d13_70 : decode prog_24_method_4_code 70 = .ok (.arraylength, 1) := by decide +kernel
theorem d13_71 : decode prog_24_method_4_code 71 = .ok (.i2l, 1) := by decide +kernel
theorem d13_72 : decode prog_24_method_4_code 72 = .ok (.invokestatic 54, 3) := by decide +kernel
theorem d13_75 : decode prog_24_method_4_code 75 = .ok (.l2i, 1) := by decide +kernel
theorem d13_76 : decode prog_24_method_4_code 76 = .ok (.istore 8, 2) := by decide +kernel
theorem d13_78 : decode prog_24_method_4_code 78 = .ok (.aload 4, 2) := by decide +kernel
theorem d13_80 : decode prog_24_method_4_code 80 = .ok (.iload 8, 2) := by decide +kernel
theorem d13_82 : decode prog_24_method_4_code 82 = .ok (.invokestatic 57, 3) := by decide +kernel
theorem pd___II__I : parseMethodDescriptor "([II)[I" = some ⟨[(.array .int), .int], some (.array .int)⟩ := by decide +kernel
theorem d13_85 : decode prog_24_method_4_code 85 = .ok (.astore 4, 2) := by decide +kernel
theorem d13_87 : decode prog_24_method_4_code 87 = .ok (.aload_n 0, 1) := by decide +kernel
theorem d13_88 : decode prog_24_method_4_code 88 = .ok (.getfield 18, 3) := by decide +kernel
theorem d13_91 : decode prog_24_method_4_code 91 = .ok (.iload_n 1, 1) := by decide +kernel
theorem d13_92 : decode prog_24_method_4_code 92 = .ok (.aload 4, 2) := by decide +kernel
theorem d13_94 : decode prog_24_method_4_code 94 = .ok (.aastore, 1) := by decide +kernel
theorem d13_95 : decode prog_24_method_4_code 95 = .ok (.aload 4, 2) := by decide +kernel
theorem d13_97 : decode prog_24_method_4_code 97 = .ok (.iload 7, 2) := by decide +kernel
theorem d13_99 : decode prog_24_method_4_code 99 = .ok (.aload 4, 2) := by decide +kernel
theorem d13_101 : decode prog_24_method_4_code 101 = .ok (.iload 7, 2) := by decide +kernel
theorem d13_103 : decode prog_24_method_4_code 103 = .ok (.iconst 1, 1) := by decide +kernel
theorem d13_104 : decode prog_24_method_4_code 104 = .ok (.iadd, 1) := by decide +kernel
theorem d13_105 : decode prog_24_method_4_code 105 = .ok (.iload 5, 2) := by decide +kernel
theorem d13_107 : decode prog_24_method_4_code 107 = .ok (.iload 7, 2) := by decide +kernel
theorem d13_109 : decode prog_24_method_4_code 109 = .ok (.isub, 1) := by decide +kernel
theorem d13_110 : decode prog_24_method_4_code 110 = .ok (.invokestatic 61, 3) := by decide +kernel
theorem d13_113 : decode prog_24_method_4_code 113 = .ok (.aload 4, 2) := by decide +kernel
theorem d13_115 : decode prog_24_method_4_code 115 = .ok (.iload 7, 2) := by decide +kernel
theorem d13_117 : decode prog_24_method_4_code 117 = .ok (.iload_n 2, 1) := by decide +kernel
theorem d13_118 : decode prog_24_method_4_code 118 = .ok (.iastore, 1) := by decide +kernel
theorem d13_119 : decode prog_24_method_4_code 119 = .ok (.aload_n 0, 1) := by decide +kernel
theorem d13_120 : decode prog_24_method_4_code 120 = .ok (.getfield 33, 3) := by decide +kernel
theorem d13_123 : decode prog_24_method_4_code 123 = .ok (.iload_n 1, 1) := by decide +kernel
theorem d13_124 : decode prog_24_method_4_code 124 = .ok (.iload 5, 2) := by decide +kernel
theorem d13_126 : decode prog_24_method_4_code 126 = .ok (.iconst 1, 1) := by decide +kernel
theorem d13_127 : decode prog_24_method_4_code 127 = .ok (.iadd, 1) := by decide +kernel
theorem d13_128 : decode prog_24_method_4_code 128 = .ok (.iastore, 1) := by decide +kernel
theorem d13_129 : decode prog_24_method_4_code 129 = .ok (.aload_n 0, 1) := by decide +kernel
theorem d13_130 : decode prog_24_method_4_code 130 = .ok (.dup, 1) := by decide +kernel
theorem d13_131 : decode prog_24_method_4_code 131 = .ok (.getfield 36, 3) := by decide +kernel
theorem d13_134 : decode prog_24_method_4_code 134 = .ok (.lconst 1, 1) := by decide +kernel
theorem d13_135 : decode prog_24_method_4_code 135 = .ok (.ladd, 1) := by decide +kernel
theorem d13_136 : decode prog_24_method_4_code 136 = .ok (.putfield 36, 3) := by decide +kernel
theorem d13_139 : decode prog_24_method_4_code 139 = .ok (.iload 6, 2) := by decide +kernel
theorem d13_141 : decode prog_24_method_4_code 141 = .ok (.ireturn, 1) := by decide +kernel
theorem d13_31 : decode prog_24_method_4_code 31 = .ok (.iconst 0, 1) := by decide +kernel
def QAdd (Z : State) (rel : Addr) (em : Addr) (ro : Addr) (rz : Addr) (kW : ClassId) (kS : ClassId) (n : Nat) (M : Nat → Nat) (fi : Nat) (ti : Nat) (bw : Addr) (h0 : Heap) (n0 : Nat) (v : Option Value) (h : Heap) (L : List Loc) : Prop := ∃ (B2 : Nat → Addr) (pq2 : Int64), v = some (.int (own_bi (!(M fi).testBit ti))) ∧ Fr n0 L ∧ Keep h0 h [rel, ro, rz, bw] ∧ Exa Z h rel "com/example/fast_taxonomy/fasttaxonomy/taxonomy/Relation" ∧ Fld Z h rel "com/example/fast_taxonomy/fasttaxonomy/taxonomy/Relation" "rows" "[[I" (.ref ro) ∧ Fld Z h rel "com/example/fast_taxonomy/fasttaxonomy/taxonomy/Relation" "rowSizes" "[I" (.ref rz) ∧ Fld Z h rel "com/example/fast_taxonomy/fasttaxonomy/taxonomy/Relation" "pairCount" "J" (.long pq2) ∧ OwnRel Z h em ro rz kW kS n (own_upd M fi ti) B2
set_option maxRecDepth 65536 in
set_option maxHeartbeats 40000000 in
theorem rmAdd (l : Launch) (Z : State) (a0 : Array Value) (hw : ∀ d ∈ tables_1, d.before a0 Z = true) (ws : List Jvm.Cond) (rel : Addr) (em ro rz : Addr) (kW kS : ClassId) (n : Nat) (M : Nat → Nat) (B : Nat → Addr) (fi ti : Nat) (pq : Int64) (bw : Addr) (h0 : Heap) (n0 : Nat) (Z0 : n0 ≤ h0.size) (E_rel : Exa Z h0 rel "com/example/fast_taxonomy/fasttaxonomy/taxonomy/Relation") (F_rows_rel : Fld Z h0 rel "com/example/fast_taxonomy/fasttaxonomy/taxonomy/Relation" "rows" "[[I" (.ref ro)) (F_rowSizes_rel : Fld Z h0 rel "com/example/fast_taxonomy/fasttaxonomy/taxonomy/Relation" "rowSizes" "[I" (.ref rz)) (F_pairCount_rel : Fld Z h0 rel "com/example/fast_taxonomy/fasttaxonomy/taxonomy/Relation" "pairCount" "J" (.long pq)) (RR : OwnRel Z h0 em ro rz kW kS n M B) (hn4 : n < 4) (hM : ∀ i, M i < 2 ^ n) (hn : 0 < n) (hf : fi < n) (ht : ti < n) (OO : OwnOr n0 em rel ro rz) (Ov : OvrA Z kW .int "[I") (hbw : bw = own_bw rz (B fi)) :
    MetFree l (⟨"com/example/fast_taxonomy/fasttaxonomy/taxonomy/Relation", "add", "(II)Z"⟩ : MethodName) (head1 (Jvm.Cond.code (⟨"com/example/fast_taxonomy/fasttaxonomy/taxonomy/Relation", "add", "(II)Z"⟩ : MethodName) prog_24_method_4_code 9 (some .boolean) :: ws) ({ frames := 4, cells := 1, slots := 3, locals := 90 } : Room)) (fun a U => a = #[(.ref rel), (.int (Int32.ofNat fi)), (.int (Int32.ofNat ti))] ∧ Z.Warmed39 U.vm ∧ U.heap = h0) (fun _ _ _ _ _ => True) (fun _ U o U' => ∃ v L, o = .returned v ∧ QAdd Z rel em ro rz kW kS n M fi ti bw h0 n0 v U'.heap L ∧ FrameEnd U o U' L ({ frames := 4, cells := 1, slots := 3, locals := 90 } : Room).cells ({ frames := 4, cells := 1, slots := 3, locals := 90 } : Room).slots) := by
  refine MetFree.of_bodySF (plainFor_of_name pn_com_example_fast_taxonomy_fasttaxonomy_taxonomy_Relation) hisR ?_
  intro p e s m args below meth c s₁ Bd hml0 hP hK
  obtain ⟨rfl, hZ, hh⟩ := hP
  have hx := Bd.exec
  have hby := Bd.bytes
  have hlk := BodyLoose.notSynchronized Bd
  have hml : c.maxLocals = 9 := hml0
  have hown : s.vm.findClass "com/example/fast_taxonomy/fasttaxonomy/taxonomy/Relation" = some m.cls := findClass_of_methodNamed Bd.named
  have hnm := (name_of_methodNamed Bd.named Bd.method).1
  have X0 : Stand p l e ({ frames := 4, cells := 1, slots := 3, locals := 90 } : Room) s m #[(.ref rel), (.int (Int32.ofNat fi)), (.int (Int32.ofNat ti))] below meth c s₁ [] 0 0 := Stand.of_body Bd
  have e0 : s₁.heap = h0 := by rw [← hh, Bd.state]; rfl
  have N0 := Fr.nil n0
  refine OwnR.of (s := s) (Q := QAdd Z rel em ro rz kW kS n M fi ti bw h0 n0) (fun t k => castTop (ef_rmAdd m rel) k) ?_
  show OwnR _ _ _ _ _ _ _ (s₁.setTop (mkF m 0 #[.val (.ref rel), .val (.int (Int32.ofNat fi)), .val (.int (Int32.ofNat ti)), .unset, .unset, .unset, .unset, .unset, .unset] []))
  obtain ⟨kb, Lb, FB, hLb, hcs⟩ := RR.2.2.1 fi hf
  have hm8 := own_p8 hn4 (hM fi)
  have ht3 := own_lt3 ht hn4
  obtain ⟨n_1, n_2, n_3, g_rel, g_ro, g_rz⟩ := own_oo OO
  rcases hcs with ⟨hBe, hL0, hM0⟩ | ⟨hLn, hBr⟩
  · skip
    have hbit : (M fi).testBit ti = false := by rw [hM0]; exact Nat.zero_testBit ti
    obtain ⟨b1, b2, b3, b4⟩ := own_bs_neg _ hm8 _ ht3 hbit
    have b5 : (Int32.ofNat (own_sz (M fi))) - (Int32.ofNat (own_cnt (M fi) ti)) = (Int32.ofNat (own_sz (M fi) - own_cnt (M fi) ti)) := (own_subn _ hm8 _ ht3).resolve_right (Nat.not_lt.mpr b3)
    have hszn := own_sz_lt n hn4 _ (hM fi) _ ht hbit
    have hs0 : (Int32.ofNat (own_sz (M fi))) = (0 : Int32) := by rw [hM0]; decide
    have hs2 : (2 : Int64) * ((Int32.ofNat (own_sz (M fi)))).toInt64 = 0 := by rw [hs0]; decide
    rw [hBe, hL0] at FB
    have VE := OwnF.arv0 FB
    show OwnR _ _ _ _ _ _ _ (s₁.setTop (mkF m 0 #[.val (.ref rel), .val (.int (Int32.ofNat fi)), .val (.int (Int32.ofNat ti)), .unset, .unset, .unset, .unset, .unset, .unset] []))
    refine OwnR.of (fun _ hr => XS.aloadN X0.here hx rfl (hb hby d13_0) rfl rfl hr) ?_
    show OwnR _ _ _ _ _ _ _ (s₁.setTop (mkF m 1 #[.val (.ref rel), .val (.int (Int32.ofNat fi)), .val (.int (Int32.ofNat ti)), .unset, .unset, .unset, .unset, .unset, .unset] [(.ref rel)]))
    refine OwnR.of (fun _ hr => XS.iloadN X0.here hx rfl (hb hby d13_1) rfl hr) ?_
    show OwnR _ _ _ _ _ _ _ (s₁.setTop (mkF m 2 #[.val (.ref rel), .val (.int (Int32.ofNat fi)), .val (.int (Int32.ofNat ti)), .unset, .unset, .unset, .unset, .unset, .unset] [(.int (Int32.ofNat fi)), (.ref rel)]))
    refine OwnR.of (fun _ hr => XS.iloadN X0.here hx rfl (hb hby d13_2) rfl hr) ?_
    show OwnR _ _ _ _ _ _ _ (s₁.setTop (mkF m 3 #[.val (.ref rel), .val (.int (Int32.ofNat fi)), .val (.int (Int32.ofNat ti)), .unset, .unset, .unset, .unset, .unset, .unset] [(.int (Int32.ofNat ti)), (.int (Int32.ofNat fi)), (.ref rel)]))
    obtain ⟨cq1, q1, q1'⟩ := Exa.cell E_rel
    obtain ⟨_, _, ⟨T1, L1, kc1, ns1⟩, -, X1, ⟨Lc1, hQ1, l1, y1, z1⟩, st1⟩ := X0.privateBack hx (y := (⟨"com/example/fast_taxonomy/fasttaxonomy/taxonomy/Relation", "search", "(II)I"⟩ : MethodName)) hown (mvT hZ (hw _ (List.mem_of_getElem? (i := 63) rfl))) (mvT hZ (hw _ (List.mem_of_getElem? (i := 64) rfl))) (mvT hZ (own_selp hw (y := (⟨"com/example/fast_taxonomy/fasttaxonomy/taxonomy/Relation", "search", "(II)I"⟩ : MethodName)) rfl (hw _ (List.mem_of_getElem? (i := 65) rfl)) (hw _ (List.mem_of_getElem? (i := 64) rfl)))) (Cond.privateMethod_at (mvP hZ (hw _ (List.mem_of_getElem? (i := 65) rfl)) (args := #[]))) (mvT hZ (hw _ (List.mem_of_getElem? (i := 66) rfl))) (by decide) (backOf (W := 0) (rmSearch l Z a0 hw [] rel em ro rz kW kS n M B fi ti h0 n0 (Nat.le_trans Z0 (Keep.refl h0 [rel, ro, rz, bw]).1) E_rel F_rows_rel F_rowSizes_rel RR hn4 hM hf ht) hZ (hw _ (List.mem_of_getElem? (i := 66) rfl)) (hw _ (List.mem_of_getElem? (i := 6) rfl)) (by decide) (by decide)) (g := (mkF m 3 #[.val (.ref rel), .val (.int (Int32.ofNat fi)), .val (.int (Int32.ofNat ti)), .unset, .unset, .unset, .unset, .unset, .unset] [(.int (Int32.ofNat ti)), (.int (Int32.ofNat fi)), (.ref rel)])) rfl (by rw [hml]; rfl) (Steps.refl _) (a := rel) (by rw [e0]; exact q1) q1' (argsL := [(.int (Int32.ofNat fi)), (.int (Int32.ofNat ti))]) (rest := []) (lenOf pd__II_I rfl) rfl (by show 2 * 0 + _ ≤ _; exact Nat.le_of_eq rfl) (hb hby d13_3) (fun _ _ => ⟨rfl, e0, (by decide : 0 + 0 ≤ _), (by decide : 0 + 0 ≤ _)⟩)
    dsimp only [Pt.U, Pt.locs, Pt.cells, Pt.slots] at X1 l1 y1 z1 st1 hQ1
    rw [l1, y1, z1] at X1
    obtain ⟨rfl, N1q, e1⟩ := hQ1
    have N1 := Fr.app N0 N1q
    refine OwnR.of (fun _ hr => st1.trans hr) ?_
    show OwnR _ _ _ _ _ _ _ (T1.setTop (mkF m 6 #[.val (.ref rel), .val (.int (Int32.ofNat fi)), .val (.int (Int32.ofNat ti)), .unset, .unset, .unset, .unset, .unset, .unset] [(.int (own_bs (M fi) ti))]))
    refine OwnR.of (fun _ hr => XS.istoreN X1.here hx rfl (hb hby d13_6) rfl (l' := #[.val (.ref rel), .val (.int (Int32.ofNat fi)), .val (.int (Int32.ofNat ti)), .val (.int (own_bs (M fi) ti)), .unset, .unset, .unset, .unset, .unset]) rfl hr) ?_
    show OwnR _ _ _ _ _ _ _ (T1.setTop (mkF m 7 #[.val (.ref rel), .val (.int (Int32.ofNat fi)), .val (.int (Int32.ofNat ti)), .val (.int (own_bs (M fi) ti)), .unset, .unset, .unset, .unset, .unset] []))
    refine OwnR.of (fun _ hr => XS.aloadN X1.here hx rfl (hb hby d13_7) rfl rfl hr) ?_
    show OwnR _ _ _ _ _ _ _ (T1.setTop (mkF m 8 #[.val (.ref rel), .val (.int (Int32.ofNat fi)), .val (.int (Int32.ofNat ti)), .val (.int (own_bs (M fi) ti)), .unset, .unset, .unset, .unset, .unset] [(.ref rel)]))
    obtain ⟨T2, X2, e2, st2⟩ := getF X1 hx hZ hown (host := "") (Or.inl (hw _ (List.mem_of_getElem? (i := 15) rfl))) Via.refl e1 F_rows_rel (g := (mkF m 8 #[.val (.ref rel), .val (.int (Int32.ofNat fi)), .val (.int (Int32.ofNat ti)), .val (.int (own_bs (M fi) ti)), .unset, .unset, .unset, .unset, .unset] [(.ref rel)])) rfl rfl (hb hby d13_8)
    refine OwnR.of (st2) ?_
    show OwnR _ _ _ _ _ _ _ (T2.setTop (mkF m 11 #[.val (.ref rel), .val (.int (Int32.ofNat fi)), .val (.int (Int32.ofNat ti)), .val (.int (own_bs (M fi) ti)), .unset, .unset, .unset, .unset, .unset] [(.ref ro)]))
    refine OwnR.of (fun _ hr => XS.iloadN X2.here hx rfl (hb hby d13_11) rfl hr) ?_
    show OwnR _ _ _ _ _ _ _ (T2.setTop (mkF m 12 #[.val (.ref rel), .val (.int (Int32.ofNat fi)), .val (.int (Int32.ofNat ti)), .val (.int (own_bs (M fi) ti)), .unset, .unset, .unset, .unset, .unset] [(.int (Int32.ofNat fi)), (.ref ro)]))
    refine OwnR.of (own_aaload rfl X2 hx hZ e2 RR.1 (own_cN hf hn4) (own_nN hf hn4) hf (v := .ref em) (congrArg Value.ref hBe) (g := (mkF m 12 #[.val (.ref rel), .val (.int (Int32.ofNat fi)), .val (.int (Int32.ofNat ti)), .val (.int (own_bs (M fi) ti)), .unset, .unset, .unset, .unset, .unset] [(.int (Int32.ofNat fi)), (.ref ro)])) rfl rfl (hb hby d13_12)) ?_
    show OwnR _ _ _ _ _ _ _ (T2.setTop (mkF m 13 #[.val (.ref rel), .val (.int (Int32.ofNat fi)), .val (.int (Int32.ofNat ti)), .val (.int (own_bs (M fi) ti)), .unset, .unset, .unset, .unset, .unset] [(.ref em)]))
    refine OwnR.of (fun _ hr => XS.astore X2.here hx rfl (hb hby d13_13) rfl rfl (l' := #[.val (.ref rel), .val (.int (Int32.ofNat fi)), .val (.int (Int32.ofNat ti)), .val (.int (own_bs (M fi) ti)), .val (.ref em), .unset, .unset, .unset, .unset]) rfl hr) ?_
    show OwnR _ _ _ _ _ _ _ (T2.setTop (mkF m 15 #[.val (.ref rel), .val (.int (Int32.ofNat fi)), .val (.int (Int32.ofNat ti)), .val (.int (own_bs (M fi) ti)), .val (.ref em), .unset, .unset, .unset, .unset] []))
    refine OwnR.of (fun _ hr => XS.aloadN X2.here hx rfl (hb hby d13_15) rfl rfl hr) ?_
    show OwnR _ _ _ _ _ _ _ (T2.setTop (mkF m 16 #[.val (.ref rel), .val (.int (Int32.ofNat fi)), .val (.int (Int32.ofNat ti)), .val (.int (own_bs (M fi) ti)), .val (.ref em), .unset, .unset, .unset, .unset] [(.ref rel)]))
    obtain ⟨T3, X3, e3, st3⟩ := getF X2 hx hZ hown (host := "") (Or.inl (hw _ (List.mem_of_getElem? (i := 25) rfl))) Via.refl e2 F_rowSizes_rel (g := (mkF m 16 #[.val (.ref rel), .val (.int (Int32.ofNat fi)), .val (.int (Int32.ofNat ti)), .val (.int (own_bs (M fi) ti)), .val (.ref em), .unset, .unset, .unset, .unset] [(.ref rel)])) rfl rfl (hb hby d13_16)
    refine OwnR.of (st3) ?_
    show OwnR _ _ _ _ _ _ _ (T3.setTop (mkF m 19 #[.val (.ref rel), .val (.int (Int32.ofNat fi)), .val (.int (Int32.ofNat ti)), .val (.int (own_bs (M fi) ti)), .val (.ref em), .unset, .unset, .unset, .unset] [(.ref rz)]))
    refine OwnR.of (fun _ hr => XS.iloadN X3.here hx rfl (hb hby d13_19) rfl hr) ?_
    show OwnR _ _ _ _ _ _ _ (T3.setTop (mkF m 20 #[.val (.ref rel), .val (.int (Int32.ofNat fi)), .val (.int (Int32.ofNat ti)), .val (.int (own_bs (M fi) ti)), .val (.ref em), .unset, .unset, .unset, .unset] [(.int (Int32.ofNat fi)), (.ref rz)]))
    refine OwnR.of (own_iaload X3 hx hZ e3 RR.2.1 (own_cN hf hn4) (own_nN hf hn4) hf (v := .int (Int32.ofNat (own_sz (M fi)))) rfl (g := (mkF m 20 #[.val (.ref rel), .val (.int (Int32.ofNat fi)), .val (.int (Int32.ofNat ti)), .val (.int (own_bs (M fi) ti)), .val (.ref em), .unset, .unset, .unset, .unset] [(.int (Int32.ofNat fi)), (.ref rz)])) rfl rfl (hb hby d13_20)) ?_
    show OwnR _ _ _ _ _ _ _ (T3.setTop (mkF m 21 #[.val (.ref rel), .val (.int (Int32.ofNat fi)), .val (.int (Int32.ofNat ti)), .val (.int (own_bs (M fi) ti)), .val (.ref em), .unset, .unset, .unset, .unset] [(.int (Int32.ofNat (own_sz (M fi))))]))
    refine OwnR.of (fun _ hr => XS.istore X3.here hx rfl (hb hby d13_21) rfl (l' := #[.val (.ref rel), .val (.int (Int32.ofNat fi)), .val (.int (Int32.ofNat ti)), .val (.int (own_bs (M fi) ti)), .val (.ref em), .val (.int (Int32.ofNat (own_sz (M fi)))), .unset, .unset, .unset]) rfl hr) ?_
    show OwnR _ _ _ _ _ _ _ (T3.setTop (mkF m 23 #[.val (.ref rel), .val (.int (Int32.ofNat fi)), .val (.int (Int32.ofNat ti)), .val (.int (own_bs (M fi) ti)), .val (.ref em), .val (.int (Int32.ofNat (own_sz (M fi)))), .unset, .unset, .unset] []))
    refine OwnR.of (fun _ hr => XS.iloadN X3.here hx rfl (hb hby d13_23) rfl hr) ?_
    show OwnR _ _ _ _ _ _ _ (T3.setTop (mkF m 24 #[.val (.ref rel), .val (.int (Int32.ofNat fi)), .val (.int (Int32.ofNat ti)), .val (.int (own_bs (M fi) ti)), .val (.ref em), .val (.int (Int32.ofNat (own_sz (M fi)))), .unset, .unset, .unset] [(.int (own_bs (M fi) ti))]))
    refine OwnR.of (fun _ hr => XS.ifNo X3.here hx rfl (hb hby d13_24) rfl ((if0 _ _).trans (tlt b1).2.1) hr) ?_
    show OwnR _ _ _ _ _ _ _ (T3.setTop (mkF m 27 #[.val (.ref rel), .val (.int (Int32.ofNat fi)), .val (.int (Int32.ofNat ti)), .val (.int (own_bs (M fi) ti)), .val (.ref em), .val (.int (Int32.ofNat (own_sz (M fi)))), .unset, .unset, .unset] []))
    refine OwnR.of (fun _ hr => XS.iconst X3.here hx rfl (hb hby d13_27) hr) ?_
    show OwnR _ _ _ _ _ _ _ (T3.setTop (mkF m 28 #[.val (.ref rel), .val (.int (Int32.ofNat fi)), .val (.int (Int32.ofNat ti)), .val (.int (own_bs (M fi) ti)), .val (.ref em), .val (.int (Int32.ofNat (own_sz (M fi)))), .unset, .unset, .unset] [(.int (1 : Int32))]))
    refine OwnR.of (fun _ hr => XS.goto X3.here hx rfl (pc0 := 28) (pc' := 32) rfl (hb hby d13_28) (by decide) (by decide) hr) ?_
    show OwnR _ _ _ _ _ _ _ (T3.setTop (mkF m 32 #[.val (.ref rel), .val (.int (Int32.ofNat fi)), .val (.int (Int32.ofNat ti)), .val (.int (own_bs (M fi) ti)), .val (.ref em), .val (.int (Int32.ofNat (own_sz (M fi)))), .unset, .unset, .unset] [(.int (1 : Int32))]))
    refine OwnR.of (fun _ hr => XS.istore X3.here hx rfl (hb hby d13_32) rfl (l' := #[.val (.ref rel), .val (.int (Int32.ofNat fi)), .val (.int (Int32.ofNat ti)), .val (.int (own_bs (M fi) ti)), .val (.ref em), .val (.int (Int32.ofNat (own_sz (M fi)))), .val (.int (1 : Int32)), .unset, .unset]) rfl hr) ?_
    show OwnR _ _ _ _ _ _ _ (T3.setTop (mkF m 34 #[.val (.ref rel), .val (.int (Int32.ofNat fi)), .val (.int (Int32.ofNat ti)), .val (.int (own_bs (M fi) ti)), .val (.ref em), .val (.int (Int32.ofNat (own_sz (M fi)))), .val (.int (1 : Int32)), .unset, .unset] []))
    refine OwnR.of (fun _ hr => XS.iload X3.here hx rfl (hb hby d13_34) rfl hr) ?_
    show OwnR _ _ _ _ _ _ _ (T3.setTop (mkF m 36 #[.val (.ref rel), .val (.int (Int32.ofNat fi)), .val (.int (Int32.ofNat ti)), .val (.int (own_bs (M fi) ti)), .val (.ref em), .val (.int (Int32.ofNat (own_sz (M fi)))), .val (.int (1 : Int32)), .unset, .unset] [(.int (1 : Int32))]))
    refine OwnR.of (fun _ hr => XS.ifNo X3.here hx rfl (hb hby d13_36) rfl ((if0 _ _).trans (feq (by decide : ¬ ((1 : Int32) = (0 : Int32)))).1) hr) ?_
    show OwnR _ _ _ _ _ _ _ (T3.setTop (mkF m 39 #[.val (.ref rel), .val (.int (Int32.ofNat fi)), .val (.int (Int32.ofNat ti)), .val (.int (own_bs (M fi) ti)), .val (.ref em), .val (.int (Int32.ofNat (own_sz (M fi)))), .val (.int (1 : Int32)), .unset, .unset] []))
    refine OwnR.of (fun _ hr => XS.iloadN X3.here hx rfl (hb hby d13_39) rfl hr) ?_
    show OwnR _ _ _ _ _ _ _ (T3.setTop (mkF m 40 #[.val (.ref rel), .val (.int (Int32.ofNat fi)), .val (.int (Int32.ofNat ti)), .val (.int (own_bs (M fi) ti)), .val (.ref em), .val (.int (Int32.ofNat (own_sz (M fi)))), .val (.int (1 : Int32)), .unset, .unset] [(.int (own_bs (M fi) ti))]))
    refine OwnR.of (fun _ hr => XS.ineg X3.here hx rfl (hb hby d13_40) rfl hr) ?_
    show OwnR _ _ _ _ _ _ _ (T3.setTop (mkF m 41 #[.val (.ref rel), .val (.int (Int32.ofNat fi)), .val (.int (Int32.ofNat ti)), .val (.int (own_bs (M fi) ti)), .val (.ref em), .val (.int (Int32.ofNat (own_sz (M fi)))), .val (.int (1 : Int32)), .unset, .unset] [(.int (-(own_bs (M fi) ti)))]))
    refine OwnR.of (fun _ hr => XS.iconst X3.here hx rfl (hb hby d13_41) hr) ?_
    show OwnR _ _ _ _ _ _ _ (T3.setTop (mkF m 42 #[.val (.ref rel), .val (.int (Int32.ofNat fi)), .val (.int (Int32.ofNat ti)), .val (.int (own_bs (M fi) ti)), .val (.ref em), .val (.int (Int32.ofNat (own_sz (M fi)))), .val (.int (1 : Int32)), .unset, .unset] [(.int (1 : Int32)), (.int (-(own_bs (M fi) ti)))]))
    refine OwnR.of (fun _ hr => XS.isub X3.here hx rfl (hb hby d13_42) rfl hr) ?_
    show OwnR _ _ _ _ _ _ _ (T3.setTop (mkF m 43 #[.val (.ref rel), .val (.int (Int32.ofNat fi)), .val (.int (Int32.ofNat ti)), .val (.int (own_bs (M fi) ti)), .val (.ref em), .val (.int (Int32.ofNat (own_sz (M fi)))), .val (.int (1 : Int32)), .unset, .unset] [(.int ((-(own_bs (M fi) ti)) - (1 : Int32)))]))
    rw [b2]
    show OwnR _ _ _ _ _ _ _ (T3.setTop (mkF m 43 #[.val (.ref rel), .val (.int (Int32.ofNat fi)), .val (.int (Int32.ofNat ti)), .val (.int (own_bs (M fi) ti)), .val (.ref em), .val (.int (Int32.ofNat (own_sz (M fi)))), .val (.int (1 : Int32)), .unset, .unset] [(.int (Int32.ofNat (own_cnt (M fi) ti)))]))
    refine OwnR.of (fun _ hr => XS.istore X3.here hx rfl (hb hby d13_43) rfl (l' := #[.val (.ref rel), .val (.int (Int32.ofNat fi)), .val (.int (Int32.ofNat ti)), .val (.int (own_bs (M fi) ti)), .val (.ref em), .val (.int (Int32.ofNat (own_sz (M fi)))), .val (.int (1 : Int32)), .val (.int (Int32.ofNat (own_cnt (M fi) ti))), .unset]) rfl hr) ?_
    show OwnR _ _ _ _ _ _ _ (T3.setTop (mkF m 45 #[.val (.ref rel), .val (.int (Int32.ofNat fi)), .val (.int (Int32.ofNat ti)), .val (.int (own_bs (M fi) ti)), .val (.ref em), .val (.int (Int32.ofNat (own_sz (M fi)))), .val (.int (1 : Int32)), .val (.int (Int32.ofNat (own_cnt (M fi) ti))), .unset] []))
    refine OwnR.of (fun _ hr => XS.iload X3.here hx rfl (hb hby d13_45) rfl hr) ?_
    show OwnR _ _ _ _ _ _ _ (T3.setTop (mkF m 47 #[.val (.ref rel), .val (.int (Int32.ofNat fi)), .val (.int (Int32.ofNat ti)), .val (.int (own_bs (M fi) ti)), .val (.ref em), .val (.int (Int32.ofNat (own_sz (M fi)))), .val (.int (1 : Int32)), .val (.int (Int32.ofNat (own_cnt (M fi) ti))), .unset] [(.int (Int32.ofNat (own_sz (M fi))))]))
    refine OwnR.of (fun _ hr => XS.aload X3.here hx rfl (hb hby d13_47) rfl rfl hr) ?_
    show OwnR _ _ _ _ _ _ _ (T3.setTop (mkF m 49 #[.val (.ref rel), .val (.int (Int32.ofNat fi)), .val (.int (Int32.ofNat ti)), .val (.int (own_bs (M fi) ti)), .val (.ref em), .val (.int (Int32.ofNat (own_sz (M fi)))), .val (.int (1 : Int32)), .val (.int (Int32.ofNat (own_cnt (M fi) ti))), .unset] [(.ref em), (.int (Int32.ofNat (own_sz (M fi))))]))
    refine OwnR.of (own_alen X3 hx hZ e3 FB (z := (0 : Int32)) (by decide) (by decide) (g := (mkF m 49 #[.val (.ref rel), .val (.int (Int32.ofNat fi)), .val (.int (Int32.ofNat ti)), .val (.int (own_bs (M fi) ti)), .val (.ref em), .val (.int (Int32.ofNat (own_sz (M fi)))), .val (.int (1 : Int32)), .val (.int (Int32.ofNat (own_cnt (M fi) ti))), .unset] [(.ref em), (.int (Int32.ofNat (own_sz (M fi))))])) rfl rfl (hb hby d13_49)) ?_
    show OwnR _ _ _ _ _ _ _ (T3.setTop (mkF m 50 #[.val (.ref rel), .val (.int (Int32.ofNat fi)), .val (.int (Int32.ofNat ti)), .val (.int (own_bs (M fi) ti)), .val (.ref em), .val (.int (Int32.ofNat (own_sz (M fi)))), .val (.int (1 : Int32)), .val (.int (Int32.ofNat (own_cnt (M fi) ti))), .unset] [(.int (0 : Int32)), (.int (Int32.ofNat (own_sz (M fi))))]))
    refine OwnR.of (fun _ hr => XS.icmpNo X3.here hx rfl (hb hby d13_50) rfl (teq hs0).2 hr) ?_
    show OwnR _ _ _ _ _ _ _ (T3.setTop (mkF m 53 #[.val (.ref rel), .val (.int (Int32.ofNat fi)), .val (.int (Int32.ofNat ti)), .val (.int (own_bs (M fi) ti)), .val (.ref em), .val (.int (Int32.ofNat (own_sz (M fi)))), .val (.int (1 : Int32)), .val (.int (Int32.ofNat (own_cnt (M fi) ti))), .unset] []))
    refine OwnR.of (X3.ldc2Long hx hown (mvT hZ (hw _ (List.mem_of_getElem? (i := 88) rfl))) (g := (mkF m 53 #[.val (.ref rel), .val (.int (Int32.ofNat fi)), .val (.int (Int32.ofNat ti)), .val (.int (own_bs (M fi) ti)), .val (.ref em), .val (.int (Int32.ofNat (own_sz (M fi)))), .val (.int (1 : Int32)), .val (.int (Int32.ofNat (own_cnt (M fi) ti))), .unset] [])) rfl (hb hby d13_53)) ?_
    show OwnR _ _ _ _ _ _ _ (T3.setTop (mkF m 56 #[.val (.ref rel), .val (.int (Int32.ofNat fi)), .val (.int (Int32.ofNat ti)), .val (.int (own_bs (M fi) ti)), .val (.ref em), .val (.int (Int32.ofNat (own_sz (M fi)))), .val (.int (1 : Int32)), .val (.int (Int32.ofNat (own_cnt (M fi) ti))), .unset] [(.long (4 : Int64))]))
    refine OwnR.of (X3.ldc2Long hx hown (mvT hZ (hw _ (List.mem_of_getElem? (i := 89) rfl))) (g := (mkF m 56 #[.val (.ref rel), .val (.int (Int32.ofNat fi)), .val (.int (Int32.ofNat ti)), .val (.int (own_bs (M fi) ti)), .val (.ref em), .val (.int (Int32.ofNat (own_sz (M fi)))), .val (.int (1 : Int32)), .val (.int (Int32.ofNat (own_cnt (M fi) ti))), .unset] [(.long (4 : Int64))])) rfl (hb hby d13_56)) ?_
    show OwnR _ _ _ _ _ _ _ (T3.setTop (mkF m 59 #[.val (.ref rel), .val (.int (Int32.ofNat fi)), .val (.int (Int32.ofNat ti)), .val (.int (own_bs (M fi) ti)), .val (.ref em), .val (.int (Int32.ofNat (own_sz (M fi)))), .val (.int (1 : Int32)), .val (.int (Int32.ofNat (own_cnt (M fi) ti))), .unset] [(.long (2 : Int64)), (.long (4 : Int64))]))
    refine OwnR.of (fun _ hr => XS.iload X3.here hx rfl (hb hby d13_59) rfl hr) ?_
    show OwnR _ _ _ _ _ _ _ (T3.setTop (mkF m 61 #[.val (.ref rel), .val (.int (Int32.ofNat fi)), .val (.int (Int32.ofNat ti)), .val (.int (own_bs (M fi) ti)), .val (.ref em), .val (.int (Int32.ofNat (own_sz (M fi)))), .val (.int (1 : Int32)), .val (.int (Int32.ofNat (own_cnt (M fi) ti))), .unset] [(.int (Int32.ofNat (own_sz (M fi)))), (.long (2 : Int64)), (.long (4 : Int64))]))
    refine OwnR.of (fun _ hr => XS.i2l X3.here hx rfl (hb hby d13_61) rfl hr) ?_
    show OwnR _ _ _ _ _ _ _ (T3.setTop (mkF m 62 #[.val (.ref rel), .val (.int (Int32.ofNat fi)), .val (.int (Int32.ofNat ti)), .val (.int (own_bs (M fi) ti)), .val (.ref em), .val (.int (Int32.ofNat (own_sz (M fi)))), .val (.int (1 : Int32)), .val (.int (Int32.ofNat (own_cnt (M fi) ti))), .unset] [(.long ((Int32.ofNat (own_sz (M fi))).toInt64)), (.long (2 : Int64)), (.long (4 : Int64))]))
    refine OwnR.of (fun _ hr => XS.lmul X3.here hx rfl (hb hby d13_62) rfl hr) ?_
    show OwnR _ _ _ _ _ _ _ (T3.setTop (mkF m 63 #[.val (.ref rel), .val (.int (Int32.ofNat fi)), .val (.int (Int32.ofNat ti)), .val (.int (own_bs (M fi) ti)), .val (.ref em), .val (.int (Int32.ofNat (own_sz (M fi)))), .val (.int (1 : Int32)), .val (.int (Int32.ofNat (own_cnt (M fi) ti))), .unset] [(.long ((2 : Int64) * ((Int32.ofNat (own_sz (M fi))).toInt64))), (.long (4 : Int64))]))
    rw [hs2]
    show OwnR _ _ _ _ _ _ _ (T3.setTop (mkF m 63 #[.val (.ref rel), .val (.int (Int32.ofNat fi)), .val (.int (Int32.ofNat ti)), .val (.int (own_bs (M fi) ti)), .val (.ref em), .val (.int (Int32.ofNat (own_sz (M fi)))), .val (.int (1 : Int32)), .val (.int (Int32.ofNat (own_cnt (M fi) ti))), .unset] [(.long (0 : Int64)), (.long (4 : Int64))]))
    obtain ⟨_, _, ⟨T4, L4, kc4, ns4⟩, -, X4, ⟨Lc4, hQ4, l4, y4, z4⟩, st4⟩ := Jvm.LawKit.callS X3 hx (y := (⟨"java/lang/Math", "max", "(JJ)J"⟩ : MethodName)) hown (mvT hZ (hw _ (List.mem_of_getElem? (i := 90) rfl))) (mvT hZ (hw _ (List.mem_of_getElem? (i := 91) rfl))) (mvT hZ (hw _ (List.mem_of_getElem? (i := 92) rfl))) (mvT hZ (hw _ (List.mem_of_getElem? (i := 93) rfl))) (by decide) (backOf (W := 0) (rmMaxJ l Z a0 hw [] (4 : Int64) (0 : Int64) h0 n0 (Nat.le_trans Z0 (Keep.refl h0 [rel, ro, rz, bw]).1) ) hZ (hw _ (List.mem_of_getElem? (i := 93) rfl)) (hw _ (List.mem_of_getElem? (i := 92) rfl)) (by decide) (by decide)) (g := (mkF m 63 #[.val (.ref rel), .val (.int (Int32.ofNat fi)), .val (.int (Int32.ofNat ti)), .val (.int (own_bs (M fi) ti)), .val (.ref em), .val (.int (Int32.ofNat (own_sz (M fi)))), .val (.int (1 : Int32)), .val (.int (Int32.ofNat (own_cnt (M fi) ti))), .unset] [(.long (0 : Int64)), (.long (4 : Int64))])) rfl (by rw [hml]; rfl) (argsL := [(.long (4 : Int64)), (.long (0 : Int64))]) (rest := []) (lenOf pd__JJ_J rfl) rfl (by show 2 * 0 + _ ≤ _; exact Nat.le_of_eq rfl) (hb hby d13_63) (fun _ _ => ⟨rfl, e3, (by decide : 0 + 0 ≤ _), (by decide : 0 + 0 ≤ _)⟩)
    dsimp only [Pt.U, Pt.locs, Pt.cells, Pt.slots] at X4 l4 y4 z4 st4 hQ4
    rw [l4, y4, z4] at X4
    obtain ⟨rfl, N4q, e4⟩ := hQ4
    have N4 := Fr.app N1 N4q
    refine OwnR.of (st4) ?_
    show OwnR _ _ _ _ _ _ _ (T4.setTop (mkF m 66 #[.val (.ref rel), .val (.int (Int32.ofNat fi)), .val (.int (Int32.ofNat ti)), .val (.int (own_bs (M fi) ti)), .val (.ref em), .val (.int (Int32.ofNat (own_sz (M fi)))), .val (.int (1 : Int32)), .val (.int (Int32.ofNat (own_cnt (M fi) ti))), .unset] [(.long (own_max (4 : Int64) (0 : Int64)))]))
    refine OwnR.of (fun _ hr => XS.aloadN X4.here hx rfl (hb hby d13_66) rfl rfl hr) ?_
    show OwnR _ _ _ _ _ _ _ (T4.setTop (mkF m 67 #[.val (.ref rel), .val (.int (Int32.ofNat fi)), .val (.int (Int32.ofNat ti)), .val (.int (own_bs (M fi) ti)), .val (.ref em), .val (.int (Int32.ofNat (own_sz (M fi)))), .val (.int (1 : Int32)), .val (.int (Int32.ofNat (own_cnt (M fi) ti))), .unset] [(.ref rel), (.long (own_max (4 : Int64) (0 : Int64)))]))
    obtain ⟨T5, X5, e5, st5⟩ := getF X4 hx hZ hown (host := "") (Or.inl (hw _ (List.mem_of_getElem? (i := 15) rfl))) Via.refl e4 F_rows_rel (g := (mkF m 67 #[.val (.ref rel), .val (.int (Int32.ofNat fi)), .val (.int (Int32.ofNat ti)), .val (.int (own_bs (M fi) ti)), .val (.ref em), .val (.int (Int32.ofNat (own_sz (M fi)))), .val (.int (1 : Int32)), .val (.int (Int32.ofNat (own_cnt (M fi) ti))), .unset] [(.ref rel), (.long (own_max (4 : Int64) (0 : Int64)))])) rfl rfl (hb hby d13_67)
    refine OwnR.of (st5) ?_
    show OwnR _ _ _ _ _ _ _ (T5.setTop (mkF m 70 #[.val (.ref rel), .val (.int (Int32.ofNat fi)), .val (.int (Int32.ofNat ti)), .val (.int (own_bs (M fi) ti)), .val (.ref em), .val (.int (Int32.ofNat (own_sz (M fi)))), .val (.int (1 : Int32)), .val (.int (Int32.ofNat (own_cnt (M fi) ti))), .unset] [(.ref ro), (.long (own_max (4 : Int64) (0 : Int64)))]))
    refine OwnR.of (own_alen X5 hx hZ e5 RR.1 (z := (Int32.ofNat n)) (own_c4 hn4) (own_n4 hn4) (g := (mkF m 70 #[.val (.ref rel), .val (.int (Int32.ofNat fi)), .val (.int (Int32.ofNat ti)), .val (.int (own_bs (M fi) ti)), .val (.ref em), .val (.int (Int32.ofNat (own_sz (M fi)))), .val (.int (1 : Int32)), .val (.int (Int32.ofNat (own_cnt (M fi) ti))), .unset] [(.ref ro), (.long (own_max (4 : Int64) (0 : Int64)))])) rfl rfl (hb hby d13_70)) ?_
    show OwnR _ _ _ _ _ _ _ (T5.setTop (mkF m 71 #[.val (.ref rel), .val (.int (Int32.ofNat fi)), .val (.int (Int32.ofNat ti)), .val (.int (own_bs (M fi) ti)), .val (.ref em), .val (.int (Int32.ofNat (own_sz (M fi)))), .val (.int (1 : Int32)), .val (.int (Int32.ofNat (own_cnt (M fi) ti))), .unset] [(.int (Int32.ofNat n)), (.long (own_max (4 : Int64) (0 : Int64)))]))
    refine OwnR.of (fun _ hr => XS.i2l X5.here hx rfl (hb hby d13_71) rfl hr) ?_
    show OwnR _ _ _ _ _ _ _ (T5.setTop (mkF m 72 #[.val (.ref rel), .val (.int (Int32.ofNat fi)), .val (.int (Int32.ofNat ti)), .val (.int (own_bs (M fi) ti)), .val (.ref em), .val (.int (Int32.ofNat (own_sz (M fi)))), .val (.int (1 : Int32)), .val (.int (Int32.ofNat (own_cnt (M fi) ti))), .unset] [(.long ((Int32.ofNat n).toInt64)), (.long (own_max (4 : Int64) (0 : Int64)))]))
    obtain ⟨_, _, ⟨T6, L6, kc6, ns6⟩, -, X6, ⟨Lc6, hQ6, l6, y6, z6⟩, st6⟩ := Jvm.LawKit.callS X5 hx (y := (⟨"java/lang/Math", "min", "(JJ)J"⟩ : MethodName)) hown (mvT hZ (hw _ (List.mem_of_getElem? (i := 94) rfl))) (mvT hZ (hw _ (List.mem_of_getElem? (i := 95) rfl))) (mvT hZ (hw _ (List.mem_of_getElem? (i := 92) rfl))) (mvT hZ (hw _ (List.mem_of_getElem? (i := 96) rfl))) (by decide) (backOf (W := 0) (rmMinJ l Z a0 hw [] (own_max (4 : Int64) (0 : Int64)) ((Int32.ofNat n).toInt64) h0 n0 (Nat.le_trans Z0 (Keep.refl h0 [rel, ro, rz, bw]).1) ) hZ (hw _ (List.mem_of_getElem? (i := 96) rfl)) (hw _ (List.mem_of_getElem? (i := 92) rfl)) (by decide) (by decide)) (g := (mkF m 72 #[.val (.ref rel), .val (.int (Int32.ofNat fi)), .val (.int (Int32.ofNat ti)), .val (.int (own_bs (M fi) ti)), .val (.ref em), .val (.int (Int32.ofNat (own_sz (M fi)))), .val (.int (1 : Int32)), .val (.int (Int32.ofNat (own_cnt (M fi) ti))), .unset] [(.long ((Int32.ofNat n).toInt64)), (.long (own_max (4 : Int64) (0 : Int64)))])) rfl (by rw [hml]; rfl) (argsL := [(.long (own_max (4 : Int64) (0 : Int64))), (.long ((Int32.ofNat n).toInt64))]) (rest := []) (lenOf pd__JJ_J rfl) rfl (by show 2 * 0 + _ ≤ _; exact Nat.le_of_eq rfl) (hb hby d13_72) (fun _ _ => ⟨rfl, e5, (by decide : 0 + 0 ≤ _), (by decide : 0 + 0 ≤ _)⟩)
    dsimp only [Pt.U, Pt.locs, Pt.cells, Pt.slots] at X6 l6 y6 z6 st6 hQ6
    rw [l6, y6, z6] at X6
    obtain ⟨rfl, N6q, e6⟩ := hQ6
    have N6 := Fr.app N4 N6q
    refine OwnR.of (st6) ?_
    show OwnR _ _ _ _ _ _ _ (T6.setTop (mkF m 75 #[.val (.ref rel), .val (.int (Int32.ofNat fi)), .val (.int (Int32.ofNat ti)), .val (.int (own_bs (M fi) ti)), .val (.ref em), .val (.int (Int32.ofNat (own_sz (M fi)))), .val (.int (1 : Int32)), .val (.int (Int32.ofNat (own_cnt (M fi) ti))), .unset] [(.long (own_min (own_max (4 : Int64) (0 : Int64)) ((Int32.ofNat n).toInt64)))]))
    refine OwnR.of (fun _ hr => XS.l2i X6.here hx rfl (hb hby d13_75) rfl hr) ?_
    show OwnR _ _ _ _ _ _ _ (T6.setTop (mkF m 76 #[.val (.ref rel), .val (.int (Int32.ofNat fi)), .val (.int (Int32.ofNat ti)), .val (.int (own_bs (M fi) ti)), .val (.ref em), .val (.int (Int32.ofNat (own_sz (M fi)))), .val (.int (1 : Int32)), .val (.int (Int32.ofNat (own_cnt (M fi) ti))), .unset] [(.int ((own_min (own_max (4 : Int64) (0 : Int64)) ((Int32.ofNat n).toInt64)).toInt32))]))
    rw [own_cap n hn4 hn]
    show OwnR _ _ _ _ _ _ _ (T6.setTop (mkF m 76 #[.val (.ref rel), .val (.int (Int32.ofNat fi)), .val (.int (Int32.ofNat ti)), .val (.int (own_bs (M fi) ti)), .val (.ref em), .val (.int (Int32.ofNat (own_sz (M fi)))), .val (.int (1 : Int32)), .val (.int (Int32.ofNat (own_cnt (M fi) ti))), .unset] [(.int (Int32.ofNat n))]))
    refine OwnR.of (fun _ hr => XS.istore X6.here hx rfl (hb hby d13_76) rfl (l' := #[.val (.ref rel), .val (.int (Int32.ofNat fi)), .val (.int (Int32.ofNat ti)), .val (.int (own_bs (M fi) ti)), .val (.ref em), .val (.int (Int32.ofNat (own_sz (M fi)))), .val (.int (1 : Int32)), .val (.int (Int32.ofNat (own_cnt (M fi) ti))), .val (.int (Int32.ofNat n))]) rfl hr) ?_
    show OwnR _ _ _ _ _ _ _ (T6.setTop (mkF m 78 #[.val (.ref rel), .val (.int (Int32.ofNat fi)), .val (.int (Int32.ofNat ti)), .val (.int (own_bs (M fi) ti)), .val (.ref em), .val (.int (Int32.ofNat (own_sz (M fi)))), .val (.int (1 : Int32)), .val (.int (Int32.ofNat (own_cnt (M fi) ti))), .val (.int (Int32.ofNat n))] []))
    refine OwnR.of (fun _ hr => XS.aload X6.here hx rfl (hb hby d13_78) rfl rfl hr) ?_
    show OwnR _ _ _ _ _ _ _ (T6.setTop (mkF m 80 #[.val (.ref rel), .val (.int (Int32.ofNat fi)), .val (.int (Int32.ofNat ti)), .val (.int (own_bs (M fi) ti)), .val (.ref em), .val (.int (Int32.ofNat (own_sz (M fi)))), .val (.int (1 : Int32)), .val (.int (Int32.ofNat (own_cnt (M fi) ti))), .val (.int (Int32.ofNat n))] [(.ref em)]))
    refine OwnR.of (fun _ hr => XS.iload X6.here hx rfl (hb hby d13_80) rfl hr) ?_
    show OwnR _ _ _ _ _ _ _ (T6.setTop (mkF m 82 #[.val (.ref rel), .val (.int (Int32.ofNat fi)), .val (.int (Int32.ofNat ti)), .val (.int (own_bs (M fi) ti)), .val (.ref em), .val (.int (Int32.ofNat (own_sz (M fi)))), .val (.int (1 : Int32)), .val (.int (Int32.ofNat (own_cnt (M fi) ti))), .val (.int (Int32.ofNat n))] [(.int (Int32.ofNat n)), (.ref em)]))
    obtain ⟨_, _, ⟨T7, L7, kc7, ns7⟩, -, X7, ⟨Lc7, hQ7, l7, y7, z7⟩, st7⟩ := Jvm.LawKit.callS X6 hx (y := (⟨"java/util/Arrays", "copyOf", "([II)[I"⟩ : MethodName)) hown (mvT hZ (hw _ (List.mem_of_getElem? (i := 97) rfl))) (mvT hZ (hw _ (List.mem_of_getElem? (i := 98) rfl))) (mvT hZ (hw _ (List.mem_of_getElem? (i := 21) rfl))) (mvT hZ (hw _ (List.mem_of_getElem? (i := 99) rfl))) (by decide) (backOf (W := 0) (rmCopy l Z a0 hw [] em kb n h0 n0 (Nat.le_trans Z0 (Keep.refl h0 [rel, ro, rz, bw]).1) VE hn hn4) hZ (hw _ (List.mem_of_getElem? (i := 99) rfl)) (hw _ (List.mem_of_getElem? (i := 21) rfl)) (by decide) (by decide)) (g := (mkF m 82 #[.val (.ref rel), .val (.int (Int32.ofNat fi)), .val (.int (Int32.ofNat ti)), .val (.int (own_bs (M fi) ti)), .val (.ref em), .val (.int (Int32.ofNat (own_sz (M fi)))), .val (.int (1 : Int32)), .val (.int (Int32.ofNat (own_cnt (M fi) ti))), .val (.int (Int32.ofNat n))] [(.int (Int32.ofNat n)), (.ref em)])) rfl (by rw [hml]; rfl) (argsL := [(.ref em), (.int (Int32.ofNat n))]) (rest := []) (lenOf pd___II__I rfl) rfl (by show 2 * 0 + _ ≤ _; exact Nat.le_of_eq rfl) (hb hby d13_82) (fun _ _ => ⟨rfl, e6, (by decide : 0 + 1 ≤ _), (by decide : 0 + 3 ≤ _)⟩)
    dsimp only [Pt.U, Pt.locs, Pt.cells, Pt.slots] at X7 l7 y7 z7 st7 hQ7
    rw [l7, y7, z7] at X7
    obtain ⟨nb_7, knb_7, rfl, N7q, P7_0, P7_1, P7_2, P7_3, P7_4⟩ := hQ7
    have K7 : Keep h0 T7.heap [rel, ro, rz, bw] := Keep.trans (Keep.refl h0 [rel, ro, rz, bw]) P7_0 all0
    have sz_nb_7 : h0.size ≤ nb_7 := Nat.le_trans (Keep.refl h0 [rel, ro, rz, bw]).1 P7_3
    have N7 := Fr.app N6 N7q
    refine OwnR.of (st7) ?_
    show OwnR _ _ _ _ _ _ _ (T7.setTop (mkF m 85 #[.val (.ref rel), .val (.int (Int32.ofNat fi)), .val (.int (Int32.ofNat ti)), .val (.int (own_bs (M fi) ti)), .val (.ref em), .val (.int (Int32.ofNat (own_sz (M fi)))), .val (.int (1 : Int32)), .val (.int (Int32.ofNat (own_cnt (M fi) ti))), .val (.int (Int32.ofNat n))] [(.ref nb_7)]))
    have FR : OwnF Z T7.heap nb_7 knb_7 .int n (own_rowv (M fi)) := OwnF.congr P7_2 fun j _ => by rw [hM0, own_row0]
    obtain ⟨n_4, n_5, n_6, hb2⟩ := own_on OO (OwnF.lt RR.2.1) sz_nb_7
    refine OwnR.of (fun _ hr => XS.astore X7.here hx rfl (hb hby d13_85) rfl rfl (l' := #[.val (.ref rel), .val (.int (Int32.ofNat fi)), .val (.int (Int32.ofNat ti)), .val (.int (own_bs (M fi) ti)), .val (.ref nb_7), .val (.int (Int32.ofNat (own_sz (M fi)))), .val (.int (1 : Int32)), .val (.int (Int32.ofNat (own_cnt (M fi) ti))), .val (.int (Int32.ofNat n))]) rfl hr) ?_
    show OwnR _ _ _ _ _ _ _ (T7.setTop (mkF m 87 #[.val (.ref rel), .val (.int (Int32.ofNat fi)), .val (.int (Int32.ofNat ti)), .val (.int (own_bs (M fi) ti)), .val (.ref nb_7), .val (.int (Int32.ofNat (own_sz (M fi)))), .val (.int (1 : Int32)), .val (.int (Int32.ofNat (own_cnt (M fi) ti))), .val (.int (Int32.ofNat n))] []))
    refine OwnR.of (fun _ hr => XS.aloadN X7.here hx rfl (hb hby d13_87) rfl rfl hr) ?_
    show OwnR _ _ _ _ _ _ _ (T7.setTop (mkF m 88 #[.val (.ref rel), .val (.int (Int32.ofNat fi)), .val (.int (Int32.ofNat ti)), .val (.int (own_bs (M fi) ti)), .val (.ref nb_7), .val (.int (Int32.ofNat (own_sz (M fi)))), .val (.int (1 : Int32)), .val (.int (Int32.ofNat (own_cnt (M fi) ti))), .val (.int (Int32.ofNat n))] [(.ref rel)]))
    obtain ⟨T8, X8, e8, st8⟩ := getF X7 hx hZ hown (host := "") (Or.inl (hw _ (List.mem_of_getElem? (i := 15) rfl))) Via.refl rfl (F_rows_rel.keep P7_0 nin0) (g := (mkF m 88 #[.val (.ref rel), .val (.int (Int32.ofNat fi)), .val (.int (Int32.ofNat ti)), .val (.int (own_bs (M fi) ti)), .val (.ref nb_7), .val (.int (Int32.ofNat (own_sz (M fi)))), .val (.int (1 : Int32)), .val (.int (Int32.ofNat (own_cnt (M fi) ti))), .val (.int (Int32.ofNat n))] [(.ref rel)])) rfl rfl (hb hby d13_88)
    refine OwnR.of (st8) ?_
    show OwnR _ _ _ _ _ _ _ (T8.setTop (mkF m 91 #[.val (.ref rel), .val (.int (Int32.ofNat fi)), .val (.int (Int32.ofNat ti)), .val (.int (own_bs (M fi) ti)), .val (.ref nb_7), .val (.int (Int32.ofNat (own_sz (M fi)))), .val (.int (1 : Int32)), .val (.int (Int32.ofNat (own_cnt (M fi) ti))), .val (.int (Int32.ofNat n))] [(.ref ro)]))
    refine OwnR.of (fun _ hr => XS.iloadN X8.here hx rfl (hb hby d13_91) rfl hr) ?_
    show OwnR _ _ _ _ _ _ _ (T8.setTop (mkF m 92 #[.val (.ref rel), .val (.int (Int32.ofNat fi)), .val (.int (Int32.ofNat ti)), .val (.int (own_bs (M fi) ti)), .val (.ref nb_7), .val (.int (Int32.ofNat (own_sz (M fi)))), .val (.int (1 : Int32)), .val (.int (Int32.ofNat (own_cnt (M fi) ti))), .val (.int (Int32.ofNat n))] [(.int (Int32.ofNat fi)), (.ref ro)]))
    refine OwnR.of (fun _ hr => XS.aload X8.here hx rfl (hb hby d13_92) rfl rfl hr) ?_
    show OwnR _ _ _ _ _ _ _ (T8.setTop (mkF m 94 #[.val (.ref rel), .val (.int (Int32.ofNat fi)), .val (.int (Int32.ofNat ti)), .val (.int (own_bs (M fi) ti)), .val (.ref nb_7), .val (.int (Int32.ofNat (own_sz (M fi)))), .val (.int (1 : Int32)), .val (.int (Int32.ofNat (own_cnt (M fi) ti))), .val (.int (Int32.ofNat n))] [(.ref nb_7), (.int (Int32.ofNat fi)), (.ref ro)]))
    obtain ⟨T9, h9, X9, e9, W9, st9⟩ := own_aastore rfl X8 hx hZ e8 (OwnF.keep RR.1 P7_0 nin0) (own_cN hf hn4) (own_nN hf hn4) hf Ov (Ins.self P7_1) (g := (mkF m 94 #[.val (.ref rel), .val (.int (Int32.ofNat fi)), .val (.int (Int32.ofNat ti)), .val (.int (own_bs (M fi) ti)), .val (.ref nb_7), .val (.int (Int32.ofNat (own_sz (M fi)))), .val (.int (1 : Int32)), .val (.int (Int32.ofNat (own_cnt (M fi) ti))), .val (.int (Int32.ofNat n))] [(.ref nb_7), (.int (Int32.ofNat fi)), (.ref ro)])) rfl rfl (hb hby d13_94)
    refine OwnR.of (st9) ?_
    have FW := OwnF.set (OwnF.keep RR.1 P7_0 nin0) W9
    have K9 : Keep h0 h9 [rel, ro, rz, bw] := Keep.wr K7 W9 (Or.inl (List.mem_of_getElem? (i := 1) rfl))
    have N9 := Fr.snoc X9 N7 g_ro
    show OwnR _ _ _ _ _ _ _ (T9.setTop (mkF m 95 #[.val (.ref rel), .val (.int (Int32.ofNat fi)), .val (.int (Int32.ofNat ti)), .val (.int (own_bs (M fi) ti)), .val (.ref nb_7), .val (.int (Int32.ofNat (own_sz (M fi)))), .val (.int (1 : Int32)), .val (.int (Int32.ofNat (own_cnt (M fi) ti))), .val (.int (Int32.ofNat n))] []))
    refine OwnR.of (fun _ hr => XS.aload X9.here hx rfl (hb hby d13_95) rfl rfl hr) ?_
    show OwnR _ _ _ _ _ _ _ (T9.setTop (mkF m 97 #[.val (.ref rel), .val (.int (Int32.ofNat fi)), .val (.int (Int32.ofNat ti)), .val (.int (own_bs (M fi) ti)), .val (.ref nb_7), .val (.int (Int32.ofNat (own_sz (M fi)))), .val (.int (1 : Int32)), .val (.int (Int32.ofNat (own_cnt (M fi) ti))), .val (.int (Int32.ofNat n))] [(.ref nb_7)]))
    refine OwnR.of (fun _ hr => XS.iload X9.here hx rfl (hb hby d13_97) rfl hr) ?_
    show OwnR _ _ _ _ _ _ _ (T9.setTop (mkF m 99 #[.val (.ref rel), .val (.int (Int32.ofNat fi)), .val (.int (Int32.ofNat ti)), .val (.int (own_bs (M fi) ti)), .val (.ref nb_7), .val (.int (Int32.ofNat (own_sz (M fi)))), .val (.int (1 : Int32)), .val (.int (Int32.ofNat (own_cnt (M fi) ti))), .val (.int (Int32.ofNat n))] [(.int (Int32.ofNat (own_cnt (M fi) ti))), (.ref nb_7)]))
    refine OwnR.of (fun _ hr => XS.aload X9.here hx rfl (hb hby d13_99) rfl rfl hr) ?_
    show OwnR _ _ _ _ _ _ _ (T9.setTop (mkF m 101 #[.val (.ref rel), .val (.int (Int32.ofNat fi)), .val (.int (Int32.ofNat ti)), .val (.int (own_bs (M fi) ti)), .val (.ref nb_7), .val (.int (Int32.ofNat (own_sz (M fi)))), .val (.int (1 : Int32)), .val (.int (Int32.ofNat (own_cnt (M fi) ti))), .val (.int (Int32.ofNat n))] [(.ref nb_7), (.int (Int32.ofNat (own_cnt (M fi) ti))), (.ref nb_7)]))
    refine OwnR.of (fun _ hr => XS.iload X9.here hx rfl (hb hby d13_101) rfl hr) ?_
    show OwnR _ _ _ _ _ _ _ (T9.setTop (mkF m 103 #[.val (.ref rel), .val (.int (Int32.ofNat fi)), .val (.int (Int32.ofNat ti)), .val (.int (own_bs (M fi) ti)), .val (.ref nb_7), .val (.int (Int32.ofNat (own_sz (M fi)))), .val (.int (1 : Int32)), .val (.int (Int32.ofNat (own_cnt (M fi) ti))), .val (.int (Int32.ofNat n))] [(.int (Int32.ofNat (own_cnt (M fi) ti))), (.ref nb_7), (.int (Int32.ofNat (own_cnt (M fi) ti))), (.ref nb_7)]))
    refine OwnR.of (fun _ hr => XS.iconst X9.here hx rfl (hb hby d13_103) hr) ?_
    show OwnR _ _ _ _ _ _ _ (T9.setTop (mkF m 104 #[.val (.ref rel), .val (.int (Int32.ofNat fi)), .val (.int (Int32.ofNat ti)), .val (.int (own_bs (M fi) ti)), .val (.ref nb_7), .val (.int (Int32.ofNat (own_sz (M fi)))), .val (.int (1 : Int32)), .val (.int (Int32.ofNat (own_cnt (M fi) ti))), .val (.int (Int32.ofNat n))] [(.int (1 : Int32)), (.int (Int32.ofNat (own_cnt (M fi) ti))), (.ref nb_7), (.int (Int32.ofNat (own_cnt (M fi) ti))), (.ref nb_7)]))
    refine OwnR.of (fun _ hr => XS.iadd X9.here hx rfl (hb hby d13_104) rfl hr) ?_
    show OwnR _ _ _ _ _ _ _ (T9.setTop (mkF m 105 #[.val (.ref rel), .val (.int (Int32.ofNat fi)), .val (.int (Int32.ofNat ti)), .val (.int (own_bs (M fi) ti)), .val (.ref nb_7), .val (.int (Int32.ofNat (own_sz (M fi)))), .val (.int (1 : Int32)), .val (.int (Int32.ofNat (own_cnt (M fi) ti))), .val (.int (Int32.ofNat n))] [(.int ((Int32.ofNat (own_cnt (M fi) ti)) + (1 : Int32))), (.ref nb_7), (.int (Int32.ofNat (own_cnt (M fi) ti))), (.ref nb_7)]))
    rw [own_succ (own_cnt (M fi) ti)]
    show OwnR _ _ _ _ _ _ _ (T9.setTop (mkF m 105 #[.val (.ref rel), .val (.int (Int32.ofNat fi)), .val (.int (Int32.ofNat ti)), .val (.int (own_bs (M fi) ti)), .val (.ref nb_7), .val (.int (Int32.ofNat (own_sz (M fi)))), .val (.int (1 : Int32)), .val (.int (Int32.ofNat (own_cnt (M fi) ti))), .val (.int (Int32.ofNat n))] [(.int (Int32.ofNat (own_cnt (M fi) ti + 1))), (.ref nb_7), (.int (Int32.ofNat (own_cnt (M fi) ti))), (.ref nb_7)]))
    refine OwnR.of (fun _ hr => XS.iload X9.here hx rfl (hb hby d13_105) rfl hr) ?_
    show OwnR _ _ _ _ _ _ _ (T9.setTop (mkF m 107 #[.val (.ref rel), .val (.int (Int32.ofNat fi)), .val (.int (Int32.ofNat ti)), .val (.int (own_bs (M fi) ti)), .val (.ref nb_7), .val (.int (Int32.ofNat (own_sz (M fi)))), .val (.int (1 : Int32)), .val (.int (Int32.ofNat (own_cnt (M fi) ti))), .val (.int (Int32.ofNat n))] [(.int (Int32.ofNat (own_sz (M fi)))), (.int (Int32.ofNat (own_cnt (M fi) ti + 1))), (.ref nb_7), (.int (Int32.ofNat (own_cnt (M fi) ti))), (.ref nb_7)]))
    refine OwnR.of (fun _ hr => XS.iload X9.here hx rfl (hb hby d13_107) rfl hr) ?_
    show OwnR _ _ _ _ _ _ _ (T9.setTop (mkF m 109 #[.val (.ref rel), .val (.int (Int32.ofNat fi)), .val (.int (Int32.ofNat ti)), .val (.int (own_bs (M fi) ti)), .val (.ref nb_7), .val (.int (Int32.ofNat (own_sz (M fi)))), .val (.int (1 : Int32)), .val (.int (Int32.ofNat (own_cnt (M fi) ti))), .val (.int (Int32.ofNat n))] [(.int (Int32.ofNat (own_cnt (M fi) ti))), (.int (Int32.ofNat (own_sz (M fi)))), (.int (Int32.ofNat (own_cnt (M fi) ti + 1))), (.ref nb_7), (.int (Int32.ofNat (own_cnt (M fi) ti))), (.ref nb_7)]))
    refine OwnR.of (fun _ hr => XS.isub X9.here hx rfl (hb hby d13_109) rfl hr) ?_
    show OwnR _ _ _ _ _ _ _ (T9.setTop (mkF m 110 #[.val (.ref rel), .val (.int (Int32.ofNat fi)), .val (.int (Int32.ofNat ti)), .val (.int (own_bs (M fi) ti)), .val (.ref nb_7), .val (.int (Int32.ofNat (own_sz (M fi)))), .val (.int (1 : Int32)), .val (.int (Int32.ofNat (own_cnt (M fi) ti))), .val (.int (Int32.ofNat n))] [(.int ((Int32.ofNat (own_sz (M fi))) - (Int32.ofNat (own_cnt (M fi) ti)))), (.int (Int32.ofNat (own_cnt (M fi) ti + 1))), (.ref nb_7), (.int (Int32.ofNat (own_cnt (M fi) ti))), (.ref nb_7)]))
    rw [b5]
    show OwnR _ _ _ _ _ _ _ (T9.setTop (mkF m 110 #[.val (.ref rel), .val (.int (Int32.ofNat fi)), .val (.int (Int32.ofNat ti)), .val (.int (own_bs (M fi) ti)), .val (.ref nb_7), .val (.int (Int32.ofNat (own_sz (M fi)))), .val (.int (1 : Int32)), .val (.int (Int32.ofNat (own_cnt (M fi) ti))), .val (.int (Int32.ofNat n))] [(.int (Int32.ofNat (own_sz (M fi) - own_cnt (M fi) ti))), (.int (Int32.ofNat (own_cnt (M fi) ti + 1))), (.ref nb_7), (.int (Int32.ofNat (own_cnt (M fi) ti))), (.ref nb_7)]))
    obtain ⟨T10, h10, L10, X10, e10, N10, Kp10, FC, st10⟩ := own_copy X9 hx hZ hown (hw _ (List.mem_of_getElem? (i := 107) rfl)) (hw _ (List.mem_of_getElem? (i := 106) rfl)) (hw _ (List.mem_of_getElem? (i := 104) rfl)) (hw _ (List.mem_of_getElem? (i := 105) rfl)) e9 (OwnF.other FR W9 (Ne.symm n_5)) hn4 (fun _ _ => ⟨_, rfl⟩) (own_cb b3 hszn) N9 P7_4 (g := (mkF m 110 #[.val (.ref rel), .val (.int (Int32.ofNat fi)), .val (.int (Int32.ofNat ti)), .val (.int (own_bs (M fi) ti)), .val (.ref nb_7), .val (.int (Int32.ofNat (own_sz (M fi)))), .val (.int (1 : Int32)), .val (.int (Int32.ofNat (own_cnt (M fi) ti))), .val (.int (Int32.ofNat n))] [(.int (Int32.ofNat (own_sz (M fi) - own_cnt (M fi) ti))), (.int (Int32.ofNat (own_cnt (M fi) ti + 1))), (.ref nb_7), (.int (Int32.ofNat (own_cnt (M fi) ti))), (.ref nb_7)])) rfl (by rw [hml]; rfl) rfl (hb hby d13_110) (by decide) (W := 0) (by show 2 * 0 + _ ≤ _; exact Nat.le_of_eq rfl) (by decide)
    refine OwnR.of (st10) ?_
    have K10 : Keep h0 h10 [rel, ro, rz, bw] := Keep.trans K9 Kp10 (allS (Or.inr sz_nb_7) all0)
    show OwnR _ _ _ _ _ _ _ (T10.setTop (mkF m 113 #[.val (.ref rel), .val (.int (Int32.ofNat fi)), .val (.int (Int32.ofNat ti)), .val (.int (own_bs (M fi) ti)), .val (.ref nb_7), .val (.int (Int32.ofNat (own_sz (M fi)))), .val (.int (1 : Int32)), .val (.int (Int32.ofNat (own_cnt (M fi) ti))), .val (.int (Int32.ofNat n))] []))
    refine OwnR.of (fun _ hr => XS.aload X10.here hx rfl (hb hby d13_113) rfl rfl hr) ?_
    show OwnR _ _ _ _ _ _ _ (T10.setTop (mkF m 115 #[.val (.ref rel), .val (.int (Int32.ofNat fi)), .val (.int (Int32.ofNat ti)), .val (.int (own_bs (M fi) ti)), .val (.ref nb_7), .val (.int (Int32.ofNat (own_sz (M fi)))), .val (.int (1 : Int32)), .val (.int (Int32.ofNat (own_cnt (M fi) ti))), .val (.int (Int32.ofNat n))] [(.ref nb_7)]))
    refine OwnR.of (fun _ hr => XS.iload X10.here hx rfl (hb hby d13_115) rfl hr) ?_
    show OwnR _ _ _ _ _ _ _ (T10.setTop (mkF m 117 #[.val (.ref rel), .val (.int (Int32.ofNat fi)), .val (.int (Int32.ofNat ti)), .val (.int (own_bs (M fi) ti)), .val (.ref nb_7), .val (.int (Int32.ofNat (own_sz (M fi)))), .val (.int (1 : Int32)), .val (.int (Int32.ofNat (own_cnt (M fi) ti))), .val (.int (Int32.ofNat n))] [(.int (Int32.ofNat (own_cnt (M fi) ti))), (.ref nb_7)]))
    refine OwnR.of (fun _ hr => XS.iloadN X10.here hx rfl (hb hby d13_117) rfl hr) ?_
    show OwnR _ _ _ _ _ _ _ (T10.setTop (mkF m 118 #[.val (.ref rel), .val (.int (Int32.ofNat fi)), .val (.int (Int32.ofNat ti)), .val (.int (own_bs (M fi) ti)), .val (.ref nb_7), .val (.int (Int32.ofNat (own_sz (M fi)))), .val (.int (1 : Int32)), .val (.int (Int32.ofNat (own_cnt (M fi) ti))), .val (.int (Int32.ofNat n))] [(.int (Int32.ofNat ti)), (.int (Int32.ofNat (own_cnt (M fi) ti))), (.ref nb_7)]))
    obtain ⟨T11, h11, X11, e11, W11, st11⟩ := own_iastore X10 hx hZ e10 FC (own_cN (own_cl b3 hszn) hn4) (own_nN (own_cl b3 hszn) hn4) (own_cl b3 hszn) (g := (mkF m 118 #[.val (.ref rel), .val (.int (Int32.ofNat fi)), .val (.int (Int32.ofNat ti)), .val (.int (own_bs (M fi) ti)), .val (.ref nb_7), .val (.int (Int32.ofNat (own_sz (M fi)))), .val (.int (1 : Int32)), .val (.int (Int32.ofNat (own_cnt (M fi) ti))), .val (.int (Int32.ofNat n))] [(.int (Int32.ofNat ti)), (.int (Int32.ofNat (own_cnt (M fi) ti))), (.ref nb_7)])) rfl rfl (hb hby d13_118)
    refine OwnR.of (st11) ?_
    have FD := OwnF.congr (OwnF.set FC W11) fun j hj => own_ins_row hm8 ht3 hn4 hbit j hj
    have K11 : Keep h0 h11 [rel, ro, rz, bw] := Keep.wr K10 W11 (Or.inr sz_nb_7)
    have N11 := Fr.snoc X11 N10 P7_4
    show OwnR _ _ _ _ _ _ _ (T11.setTop (mkF m 119 #[.val (.ref rel), .val (.int (Int32.ofNat fi)), .val (.int (Int32.ofNat ti)), .val (.int (own_bs (M fi) ti)), .val (.ref nb_7), .val (.int (Int32.ofNat (own_sz (M fi)))), .val (.int (1 : Int32)), .val (.int (Int32.ofNat (own_cnt (M fi) ti))), .val (.int (Int32.ofNat n))] []))
    refine OwnR.of (fun _ hr => XS.aloadN X11.here hx rfl (hb hby d13_119) rfl rfl hr) ?_
    show OwnR _ _ _ _ _ _ _ (T11.setTop (mkF m 120 #[.val (.ref rel), .val (.int (Int32.ofNat fi)), .val (.int (Int32.ofNat ti)), .val (.int (own_bs (M fi) ti)), .val (.ref nb_7), .val (.int (Int32.ofNat (own_sz (M fi)))), .val (.int (1 : Int32)), .val (.int (Int32.ofNat (own_cnt (M fi) ti))), .val (.int (Int32.ofNat n))] [(.ref rel)]))
    obtain ⟨T12, X12, e12, st12⟩ := getF X11 hx hZ hown (host := "") (Or.inl (hw _ (List.mem_of_getElem? (i := 25) rfl))) Via.refl e11 (Fld.other W11 ((Fld.other W9 (F_rowSizes_rel.keep P7_0 nin0) (Or.inl n_1)).keep Kp10 (ninS n_4 nin0)) (Or.inl n_4)) (g := (mkF m 120 #[.val (.ref rel), .val (.int (Int32.ofNat fi)), .val (.int (Int32.ofNat ti)), .val (.int (own_bs (M fi) ti)), .val (.ref nb_7), .val (.int (Int32.ofNat (own_sz (M fi)))), .val (.int (1 : Int32)), .val (.int (Int32.ofNat (own_cnt (M fi) ti))), .val (.int (Int32.ofNat n))] [(.ref rel)])) rfl rfl (hb hby d13_120)
    refine OwnR.of (st12) ?_
    show OwnR _ _ _ _ _ _ _ (T12.setTop (mkF m 123 #[.val (.ref rel), .val (.int (Int32.ofNat fi)), .val (.int (Int32.ofNat ti)), .val (.int (own_bs (M fi) ti)), .val (.ref nb_7), .val (.int (Int32.ofNat (own_sz (M fi)))), .val (.int (1 : Int32)), .val (.int (Int32.ofNat (own_cnt (M fi) ti))), .val (.int (Int32.ofNat n))] [(.ref rz)]))
    refine OwnR.of (fun _ hr => XS.iloadN X12.here hx rfl (hb hby d13_123) rfl hr) ?_
    show OwnR _ _ _ _ _ _ _ (T12.setTop (mkF m 124 #[.val (.ref rel), .val (.int (Int32.ofNat fi)), .val (.int (Int32.ofNat ti)), .val (.int (own_bs (M fi) ti)), .val (.ref nb_7), .val (.int (Int32.ofNat (own_sz (M fi)))), .val (.int (1 : Int32)), .val (.int (Int32.ofNat (own_cnt (M fi) ti))), .val (.int (Int32.ofNat n))] [(.int (Int32.ofNat fi)), (.ref rz)]))
    refine OwnR.of (fun _ hr => XS.iload X12.here hx rfl (hb hby d13_124) rfl hr) ?_
    show OwnR _ _ _ _ _ _ _ (T12.setTop (mkF m 126 #[.val (.ref rel), .val (.int (Int32.ofNat fi)), .val (.int (Int32.ofNat ti)), .val (.int (own_bs (M fi) ti)), .val (.ref nb_7), .val (.int (Int32.ofNat (own_sz (M fi)))), .val (.int (1 : Int32)), .val (.int (Int32.ofNat (own_cnt (M fi) ti))), .val (.int (Int32.ofNat n))] [(.int (Int32.ofNat (own_sz (M fi)))), (.int (Int32.ofNat fi)), (.ref rz)]))
    refine OwnR.of (fun _ hr => XS.iconst X12.here hx rfl (hb hby d13_126) hr) ?_
    show OwnR _ _ _ _ _ _ _ (T12.setTop (mkF m 127 #[.val (.ref rel), .val (.int (Int32.ofNat fi)), .val (.int (Int32.ofNat ti)), .val (.int (own_bs (M fi) ti)), .val (.ref nb_7), .val (.int (Int32.ofNat (own_sz (M fi)))), .val (.int (1 : Int32)), .val (.int (Int32.ofNat (own_cnt (M fi) ti))), .val (.int (Int32.ofNat n))] [(.int (1 : Int32)), (.int (Int32.ofNat (own_sz (M fi)))), (.int (Int32.ofNat fi)), (.ref rz)]))
    refine OwnR.of (fun _ hr => XS.iadd X12.here hx rfl (hb hby d13_127) rfl hr) ?_
    show OwnR _ _ _ _ _ _ _ (T12.setTop (mkF m 128 #[.val (.ref rel), .val (.int (Int32.ofNat fi)), .val (.int (Int32.ofNat ti)), .val (.int (own_bs (M fi) ti)), .val (.ref nb_7), .val (.int (Int32.ofNat (own_sz (M fi)))), .val (.int (1 : Int32)), .val (.int (Int32.ofNat (own_cnt (M fi) ti))), .val (.int (Int32.ofNat n))] [(.int ((Int32.ofNat (own_sz (M fi))) + (1 : Int32))), (.int (Int32.ofNat fi)), (.ref rz)]))
    rw [own_succ (own_sz (M fi))]
    show OwnR _ _ _ _ _ _ _ (T12.setTop (mkF m 128 #[.val (.ref rel), .val (.int (Int32.ofNat fi)), .val (.int (Int32.ofNat ti)), .val (.int (own_bs (M fi) ti)), .val (.ref nb_7), .val (.int (Int32.ofNat (own_sz (M fi)))), .val (.int (1 : Int32)), .val (.int (Int32.ofNat (own_cnt (M fi) ti))), .val (.int (Int32.ofNat n))] [(.int (Int32.ofNat (own_sz (M fi) + 1))), (.int (Int32.ofNat fi)), (.ref rz)]))
    obtain ⟨T13, h13, X13, e13, W13, st13⟩ := own_iastore X12 hx hZ e12 (OwnF.other (OwnF.keep (OwnF.other (OwnF.keep RR.2.1 P7_0 nin0) W9 (Ne.symm n_3)) Kp10 (ninS n_6 nin0)) W11 n_6) (own_cN hf hn4) (own_nN hf hn4) hf (g := (mkF m 128 #[.val (.ref rel), .val (.int (Int32.ofNat fi)), .val (.int (Int32.ofNat ti)), .val (.int (own_bs (M fi) ti)), .val (.ref nb_7), .val (.int (Int32.ofNat (own_sz (M fi)))), .val (.int (1 : Int32)), .val (.int (Int32.ofNat (own_cnt (M fi) ti))), .val (.int (Int32.ofNat n))] [(.int (Int32.ofNat (own_sz (M fi) + 1))), (.int (Int32.ofNat fi)), (.ref rz)])) rfl rfl (hb hby d13_128)
    refine OwnR.of (st13) ?_
    have FS := OwnF.set (OwnF.other (OwnF.keep (OwnF.other (OwnF.keep RR.2.1 P7_0 nin0) W9 (Ne.symm n_3)) Kp10 (ninS n_6 nin0)) W11 n_6) W13
    have K13 : Keep h0 h13 [rel, ro, rz, bw] := Keep.wr K11 W13 (Or.inl (List.mem_of_getElem? (i := 2) rfl))
    have N13 := Fr.snoc X13 N11 g_rz
    show OwnR _ _ _ _ _ _ _ (T13.setTop (mkF m 129 #[.val (.ref rel), .val (.int (Int32.ofNat fi)), .val (.int (Int32.ofNat ti)), .val (.int (own_bs (M fi) ti)), .val (.ref nb_7), .val (.int (Int32.ofNat (own_sz (M fi)))), .val (.int (1 : Int32)), .val (.int (Int32.ofNat (own_cnt (M fi) ti))), .val (.int (Int32.ofNat n))] []))
    refine OwnR.of (fun _ hr => XS.aloadN X13.here hx rfl (hb hby d13_129) rfl rfl hr) ?_
    show OwnR _ _ _ _ _ _ _ (T13.setTop (mkF m 130 #[.val (.ref rel), .val (.int (Int32.ofNat fi)), .val (.int (Int32.ofNat ti)), .val (.int (own_bs (M fi) ti)), .val (.ref nb_7), .val (.int (Int32.ofNat (own_sz (M fi)))), .val (.int (1 : Int32)), .val (.int (Int32.ofNat (own_cnt (M fi) ti))), .val (.int (Int32.ofNat n))] [(.ref rel)]))
    refine OwnR.of (fun _ hr => XS.dup X13.here hx rfl (hb hby d13_130) rfl rfl hr) ?_
    show OwnR _ _ _ _ _ _ _ (T13.setTop (mkF m 131 #[.val (.ref rel), .val (.int (Int32.ofNat fi)), .val (.int (Int32.ofNat ti)), .val (.int (own_bs (M fi) ti)), .val (.ref nb_7), .val (.int (Int32.ofNat (own_sz (M fi)))), .val (.int (1 : Int32)), .val (.int (Int32.ofNat (own_cnt (M fi) ti))), .val (.int (Int32.ofNat n))] [(.ref rel), (.ref rel)]))
    obtain ⟨T14, X14, e14, st14⟩ := getF X13 hx hZ hown (host := "") (Or.inl (hw _ (List.mem_of_getElem? (i := 108) rfl))) Via.refl e13 (Fld.other W13 (Fld.other W11 ((Fld.other W9 (F_pairCount_rel.keep P7_0 nin0) (Or.inl n_1)).keep Kp10 (ninS n_4 nin0)) (Or.inl n_4)) (Or.inl n_2)) (g := (mkF m 131 #[.val (.ref rel), .val (.int (Int32.ofNat fi)), .val (.int (Int32.ofNat ti)), .val (.int (own_bs (M fi) ti)), .val (.ref nb_7), .val (.int (Int32.ofNat (own_sz (M fi)))), .val (.int (1 : Int32)), .val (.int (Int32.ofNat (own_cnt (M fi) ti))), .val (.int (Int32.ofNat n))] [(.ref rel), (.ref rel)])) rfl rfl (hb hby d13_131)
    refine OwnR.of (st14) ?_
    show OwnR _ _ _ _ _ _ _ (T14.setTop (mkF m 134 #[.val (.ref rel), .val (.int (Int32.ofNat fi)), .val (.int (Int32.ofNat ti)), .val (.int (own_bs (M fi) ti)), .val (.ref nb_7), .val (.int (Int32.ofNat (own_sz (M fi)))), .val (.int (1 : Int32)), .val (.int (Int32.ofNat (own_cnt (M fi) ti))), .val (.int (Int32.ofNat n))] [(.long pq), (.ref rel)]))
    refine OwnR.of (fun _ hr => XS.lconst X14.here hx rfl (hb hby d13_134) hr) ?_
    show OwnR _ _ _ _ _ _ _ (T14.setTop (mkF m 135 #[.val (.ref rel), .val (.int (Int32.ofNat fi)), .val (.int (Int32.ofNat ti)), .val (.int (own_bs (M fi) ti)), .val (.ref nb_7), .val (.int (Int32.ofNat (own_sz (M fi)))), .val (.int (1 : Int32)), .val (.int (Int32.ofNat (own_cnt (M fi) ti))), .val (.int (Int32.ofNat n))] [(.long (1 : Int64)), (.long pq), (.ref rel)]))
    refine OwnR.of (fun _ hr => XS.ladd X14.here hx rfl (hb hby d13_135) rfl hr) ?_
    show OwnR _ _ _ _ _ _ _ (T14.setTop (mkF m 136 #[.val (.ref rel), .val (.int (Int32.ofNat fi)), .val (.int (Int32.ofNat ti)), .val (.int (own_bs (M fi) ti)), .val (.ref nb_7), .val (.int (Int32.ofNat (own_sz (M fi)))), .val (.int (1 : Int32)), .val (.int (Int32.ofNat (own_cnt (M fi) ti))), .val (.int (Int32.ofNat n))] [(.long (pq + (1 : Int64))), (.ref rel)]))
    obtain ⟨T15, h15, X15, e15, W15, st15⟩ := putF X14 hx hZ hown (host := "") (Or.inl (hw _ (List.mem_of_getElem? (i := 108) rfl))) Via.refl e14 (Fld.other W13 (Fld.other W11 ((Fld.other W9 (F_pairCount_rel.keep P7_0 nin0) (Or.inl n_1)).keep Kp10 (ninS n_4 nin0)) (Or.inl n_4)) (Or.inl n_2)) (Exa.keep E_rel K13) (Or.inl (hw _ (List.mem_of_getElem? (i := 109) rfl))) (hw _ (List.mem_of_getElem? (i := 5) rfl)) (ty := .long) (by decide) rfl rfl (g := (mkF m 136 #[.val (.ref rel), .val (.int (Int32.ofNat fi)), .val (.int (Int32.ofNat ti)), .val (.int (own_bs (M fi) ti)), .val (.ref nb_7), .val (.int (Int32.ofNat (own_sz (M fi)))), .val (.int (1 : Int32)), .val (.int (Int32.ofNat (own_cnt (M fi) ti))), .val (.int (Int32.ofNat n))] [(.long (pq + (1 : Int64))), (.ref rel)])) rfl rfl (hb hby d13_136)
    refine OwnR.of (st15) ?_
    have F15 := Fld.same W15 (Fld.other W13 (Fld.other W11 ((Fld.other W9 (F_pairCount_rel.keep P7_0 nin0) (Or.inl n_1)).keep Kp10 (ninS n_4 nin0)) (Or.inl n_4)) (Or.inl n_2))
    have K15 : Keep h0 h15 [rel, ro, rz, bw] := Keep.wr K13 W15 (Or.inl (List.mem_of_getElem? (i := 0) rfl))
    have N15 := Fr.snoc X15 N13 g_rel
    show OwnR _ _ _ _ _ _ _ (T15.setTop (mkF m 139 #[.val (.ref rel), .val (.int (Int32.ofNat fi)), .val (.int (Int32.ofNat ti)), .val (.int (own_bs (M fi) ti)), .val (.ref nb_7), .val (.int (Int32.ofNat (own_sz (M fi)))), .val (.int (1 : Int32)), .val (.int (Int32.ofNat (own_cnt (M fi) ti))), .val (.int (Int32.ofNat n))] []))
    refine OwnR.of (fun _ hr => XS.iload X15.here hx rfl (hb hby d13_139) rfl hr) ?_
    show OwnR _ _ _ _ _ _ _ (T15.setTop (mkF m 141 #[.val (.ref rel), .val (.int (Int32.ofNat fi)), .val (.int (Int32.ofNat ti)), .val (.int (own_bs (M fi) ti)), .val (.ref nb_7), .val (.int (Int32.ofNat (own_sz (M fi)))), .val (.int (1 : Int32)), .val (.int (Int32.ofNat (own_cnt (M fi) ti))), .val (.int (Int32.ofNat n))] [(.int (1 : Int32))]))
    refine own_leafN X15 hx hlk (t := .boolean) Bd.returns (by simp) (hb hby d13_141) (z' := (1 : Int32)) rfl (by decide) (by decide) ?_
    show QAdd Z rel em ro rz kW kS n M fi ti bw h0 n0 _ T15.heap _
    rw [show T15.heap = h15 from e15]
    refine ⟨(fun i => if i = fi then nb_7 else B i), (pq + (1 : Int64)), ?_, N15, ⟨K15, (Exa.keep E_rel K15), (Fld.other W15 (Fld.other W13 (Fld.other W11 ((Fld.other W9 (F_rows_rel.keep P7_0 nin0) (Or.inl n_1)).keep Kp10 (ninS n_4 nin0)) (Or.inl n_4)) (Or.inl n_2)) (Or.inr (slot_ne (Or.inr (hw _ (List.mem_of_getElem? (i := 16) rfl))) (Or.inl (hw _ (List.mem_of_getElem? (i := 109) rfl))) (by decide) (t := (.array (.array .int))) (t' := .long) (by decide) (by decide)))), (Fld.other W15 (Fld.other W13 (Fld.other W11 ((Fld.other W9 (F_rowSizes_rel.keep P7_0 nin0) (Or.inl n_1)).keep Kp10 (ninS n_4 nin0)) (Or.inl n_4)) (Or.inl n_2)) (Or.inr (slot_ne (Or.inr (hw _ (List.mem_of_getElem? (i := 26) rfl))) (Or.inl (hw _ (List.mem_of_getElem? (i := 109) rfl))) (by decide) (t := (.array .int)) (t' := .long) (by decide) (by decide)))), F15, (OwnRel.upd RR OO hf K15 hbw (OwnF.other (OwnF.other (OwnF.other (OwnF.keep FW Kp10 (ninS n_5 nin0)) W11 n_5) W13 n_3) W15 (Ne.symm n_1)) (OwnF.other FS W15 (Ne.symm n_2)) (OwnF.other (OwnF.other FD W13 (Ne.symm n_6)) W15 (Ne.symm n_4)) b4 hszn hb2 (Or.inr sz_nb_7))⟩⟩
    show (some (.int (1 : Int32)) : Option Value) = some (.int (own_bi (!(M fi).testBit ti)))
    rw [hbit]
    rfl
  · skip
    have hbe : B fi = bw := by rw [hbw]; exact (if_pos hBr).symm
    rw [hbe, hLn] at FB
    obtain ⟨n_4, n_5, n_6, g_bw⟩ := own_ob OO (hbe ▸ hBr : rz < bw)
    by_cases hbit : (M fi).testBit ti = true
    · skip
      have b1 := (own_bs_pos _ hm8 _ ht3 hbit).1
      show OwnR _ _ _ _ _ _ _ (s₁.setTop (mkF m 0 #[.val (.ref rel), .val (.int (Int32.ofNat fi)), .val (.int (Int32.ofNat ti)), .unset, .unset, .unset, .unset, .unset, .unset] []))
      refine OwnR.of (fun _ hr => XS.aloadN X0.here hx rfl (hb hby d13_0) rfl rfl hr) ?_
      show OwnR _ _ _ _ _ _ _ (s₁.setTop (mkF m 1 #[.val (.ref rel), .val (.int (Int32.ofNat fi)), .val (.int (Int32.ofNat ti)), .unset, .unset, .unset, .unset, .unset, .unset] [(.ref rel)]))
      refine OwnR.of (fun _ hr => XS.iloadN X0.here hx rfl (hb hby d13_1) rfl hr) ?_
      show OwnR _ _ _ _ _ _ _ (s₁.setTop (mkF m 2 #[.val (.ref rel), .val (.int (Int32.ofNat fi)), .val (.int (Int32.ofNat ti)), .unset, .unset, .unset, .unset, .unset, .unset] [(.int (Int32.ofNat fi)), (.ref rel)]))
      refine OwnR.of (fun _ hr => XS.iloadN X0.here hx rfl (hb hby d13_2) rfl hr) ?_
      show OwnR _ _ _ _ _ _ _ (s₁.setTop (mkF m 3 #[.val (.ref rel), .val (.int (Int32.ofNat fi)), .val (.int (Int32.ofNat ti)), .unset, .unset, .unset, .unset, .unset, .unset] [(.int (Int32.ofNat ti)), (.int (Int32.ofNat fi)), (.ref rel)]))
      obtain ⟨cq16, q16, q16'⟩ := Exa.cell E_rel
      obtain ⟨_, _, ⟨T16, L16, kc16, ns16⟩, -, X16, ⟨Lc16, hQ16, l16, y16, z16⟩, st16⟩ := X0.privateBack hx (y := (⟨"com/example/fast_taxonomy/fasttaxonomy/taxonomy/Relation", "search", "(II)I"⟩ : MethodName)) hown (mvT hZ (hw _ (List.mem_of_getElem? (i := 63) rfl))) (mvT hZ (hw _ (List.mem_of_getElem? (i := 64) rfl))) (mvT hZ (own_selp hw (y := (⟨"com/example/fast_taxonomy/fasttaxonomy/taxonomy/Relation", "search", "(II)I"⟩ : MethodName)) rfl (hw _ (List.mem_of_getElem? (i := 65) rfl)) (hw _ (List.mem_of_getElem? (i := 64) rfl)))) (Cond.privateMethod_at (mvP hZ (hw _ (List.mem_of_getElem? (i := 65) rfl)) (args := #[]))) (mvT hZ (hw _ (List.mem_of_getElem? (i := 66) rfl))) (by decide) (backOf (W := 0) (rmSearch l Z a0 hw [] rel em ro rz kW kS n M B fi ti h0 n0 (Nat.le_trans Z0 (Keep.refl h0 [rel, ro, rz, bw]).1) E_rel F_rows_rel F_rowSizes_rel RR hn4 hM hf ht) hZ (hw _ (List.mem_of_getElem? (i := 66) rfl)) (hw _ (List.mem_of_getElem? (i := 6) rfl)) (by decide) (by decide)) (g := (mkF m 3 #[.val (.ref rel), .val (.int (Int32.ofNat fi)), .val (.int (Int32.ofNat ti)), .unset, .unset, .unset, .unset, .unset, .unset] [(.int (Int32.ofNat ti)), (.int (Int32.ofNat fi)), (.ref rel)])) rfl (by rw [hml]; rfl) (Steps.refl _) (a := rel) (by rw [e0]; exact q16) q16' (argsL := [(.int (Int32.ofNat fi)), (.int (Int32.ofNat ti))]) (rest := []) (lenOf pd__II_I rfl) rfl (by show 2 * 0 + _ ≤ _; exact Nat.le_of_eq rfl) (hb hby d13_3) (fun _ _ => ⟨rfl, e0, (by decide : 0 + 0 ≤ _), (by decide : 0 + 0 ≤ _)⟩)
      dsimp only [Pt.U, Pt.locs, Pt.cells, Pt.slots] at X16 l16 y16 z16 st16 hQ16
      rw [l16, y16, z16] at X16
      obtain ⟨rfl, N16q, e16⟩ := hQ16
      have N16 := Fr.app N0 N16q
      refine OwnR.of (fun _ hr => st16.trans hr) ?_
      show OwnR _ _ _ _ _ _ _ (T16.setTop (mkF m 6 #[.val (.ref rel), .val (.int (Int32.ofNat fi)), .val (.int (Int32.ofNat ti)), .unset, .unset, .unset, .unset, .unset, .unset] [(.int (own_bs (M fi) ti))]))
      refine OwnR.of (fun _ hr => XS.istoreN X16.here hx rfl (hb hby d13_6) rfl (l' := #[.val (.ref rel), .val (.int (Int32.ofNat fi)), .val (.int (Int32.ofNat ti)), .val (.int (own_bs (M fi) ti)), .unset, .unset, .unset, .unset, .unset]) rfl hr) ?_
      show OwnR _ _ _ _ _ _ _ (T16.setTop (mkF m 7 #[.val (.ref rel), .val (.int (Int32.ofNat fi)), .val (.int (Int32.ofNat ti)), .val (.int (own_bs (M fi) ti)), .unset, .unset, .unset, .unset, .unset] []))
      refine OwnR.of (fun _ hr => XS.aloadN X16.here hx rfl (hb hby d13_7) rfl rfl hr) ?_
      show OwnR _ _ _ _ _ _ _ (T16.setTop (mkF m 8 #[.val (.ref rel), .val (.int (Int32.ofNat fi)), .val (.int (Int32.ofNat ti)), .val (.int (own_bs (M fi) ti)), .unset, .unset, .unset, .unset, .unset] [(.ref rel)]))
      obtain ⟨T17, X17, e17, st17⟩ := getF X16 hx hZ hown (host := "") (Or.inl (hw _ (List.mem_of_getElem? (i := 15) rfl))) Via.refl e16 F_rows_rel (g := (mkF m 8 #[.val (.ref rel), .val (.int (Int32.ofNat fi)), .val (.int (Int32.ofNat ti)), .val (.int (own_bs (M fi) ti)), .unset, .unset, .unset, .unset, .unset] [(.ref rel)])) rfl rfl (hb hby d13_8)
      refine OwnR.of (st17) ?_
      show OwnR _ _ _ _ _ _ _ (T17.setTop (mkF m 11 #[.val (.ref rel), .val (.int (Int32.ofNat fi)), .val (.int (Int32.ofNat ti)), .val (.int (own_bs (M fi) ti)), .unset, .unset, .unset, .unset, .unset] [(.ref ro)]))
      refine OwnR.of (fun _ hr => XS.iloadN X17.here hx rfl (hb hby d13_11) rfl hr) ?_
      show OwnR _ _ _ _ _ _ _ (T17.setTop (mkF m 12 #[.val (.ref rel), .val (.int (Int32.ofNat fi)), .val (.int (Int32.ofNat ti)), .val (.int (own_bs (M fi) ti)), .unset, .unset, .unset, .unset, .unset] [(.int (Int32.ofNat fi)), (.ref ro)]))
      refine OwnR.of (own_aaload rfl X17 hx hZ e17 RR.1 (own_cN hf hn4) (own_nN hf hn4) hf (v := .ref bw) (congrArg Value.ref hbe) (g := (mkF m 12 #[.val (.ref rel), .val (.int (Int32.ofNat fi)), .val (.int (Int32.ofNat ti)), .val (.int (own_bs (M fi) ti)), .unset, .unset, .unset, .unset, .unset] [(.int (Int32.ofNat fi)), (.ref ro)])) rfl rfl (hb hby d13_12)) ?_
      show OwnR _ _ _ _ _ _ _ (T17.setTop (mkF m 13 #[.val (.ref rel), .val (.int (Int32.ofNat fi)), .val (.int (Int32.ofNat ti)), .val (.int (own_bs (M fi) ti)), .unset, .unset, .unset, .unset, .unset] [(.ref bw)]))
      refine OwnR.of (fun _ hr => XS.astore X17.here hx rfl (hb hby d13_13) rfl rfl (l' := #[.val (.ref rel), .val (.int (Int32.ofNat fi)), .val (.int (Int32.ofNat ti)), .val (.int (own_bs (M fi) ti)), .val (.ref bw), .unset, .unset, .unset, .unset]) rfl hr) ?_
      show OwnR _ _ _ _ _ _ _ (T17.setTop (mkF m 15 #[.val (.ref rel), .val (.int (Int32.ofNat fi)), .val (.int (Int32.ofNat ti)), .val (.int (own_bs (M fi) ti)), .val (.ref bw), .unset, .unset, .unset, .unset] []))
      refine OwnR.of (fun _ hr => XS.aloadN X17.here hx rfl (hb hby d13_15) rfl rfl hr) ?_
      show OwnR _ _ _ _ _ _ _ (T17.setTop (mkF m 16 #[.val (.ref rel), .val (.int (Int32.ofNat fi)), .val (.int (Int32.ofNat ti)), .val (.int (own_bs (M fi) ti)), .val (.ref bw), .unset, .unset, .unset, .unset] [(.ref rel)]))
      obtain ⟨T18, X18, e18, st18⟩ := getF X17 hx hZ hown (host := "") (Or.inl (hw _ (List.mem_of_getElem? (i := 25) rfl))) Via.refl e17 F_rowSizes_rel (g := (mkF m 16 #[.val (.ref rel), .val (.int (Int32.ofNat fi)), .val (.int (Int32.ofNat ti)), .val (.int (own_bs (M fi) ti)), .val (.ref bw), .unset, .unset, .unset, .unset] [(.ref rel)])) rfl rfl (hb hby d13_16)
      refine OwnR.of (st18) ?_
      show OwnR _ _ _ _ _ _ _ (T18.setTop (mkF m 19 #[.val (.ref rel), .val (.int (Int32.ofNat fi)), .val (.int (Int32.ofNat ti)), .val (.int (own_bs (M fi) ti)), .val (.ref bw), .unset, .unset, .unset, .unset] [(.ref rz)]))
      refine OwnR.of (fun _ hr => XS.iloadN X18.here hx rfl (hb hby d13_19) rfl hr) ?_
      show OwnR _ _ _ _ _ _ _ (T18.setTop (mkF m 20 #[.val (.ref rel), .val (.int (Int32.ofNat fi)), .val (.int (Int32.ofNat ti)), .val (.int (own_bs (M fi) ti)), .val (.ref bw), .unset, .unset, .unset, .unset] [(.int (Int32.ofNat fi)), (.ref rz)]))
      refine OwnR.of (own_iaload X18 hx hZ e18 RR.2.1 (own_cN hf hn4) (own_nN hf hn4) hf (v := .int (Int32.ofNat (own_sz (M fi)))) rfl (g := (mkF m 20 #[.val (.ref rel), .val (.int (Int32.ofNat fi)), .val (.int (Int32.ofNat ti)), .val (.int (own_bs (M fi) ti)), .val (.ref bw), .unset, .unset, .unset, .unset] [(.int (Int32.ofNat fi)), (.ref rz)])) rfl rfl (hb hby d13_20)) ?_
      show OwnR _ _ _ _ _ _ _ (T18.setTop (mkF m 21 #[.val (.ref rel), .val (.int (Int32.ofNat fi)), .val (.int (Int32.ofNat ti)), .val (.int (own_bs (M fi) ti)), .val (.ref bw), .unset, .unset, .unset, .unset] [(.int (Int32.ofNat (own_sz (M fi))))]))
      refine OwnR.of (fun _ hr => XS.istore X18.here hx rfl (hb hby d13_21) rfl (l' := #[.val (.ref rel), .val (.int (Int32.ofNat fi)), .val (.int (Int32.ofNat ti)), .val (.int (own_bs (M fi) ti)), .val (.ref bw), .val (.int (Int32.ofNat (own_sz (M fi)))), .unset, .unset, .unset]) rfl hr) ?_
      show OwnR _ _ _ _ _ _ _ (T18.setTop (mkF m 23 #[.val (.ref rel), .val (.int (Int32.ofNat fi)), .val (.int (Int32.ofNat ti)), .val (.int (own_bs (M fi) ti)), .val (.ref bw), .val (.int (Int32.ofNat (own_sz (M fi)))), .unset, .unset, .unset] []))
      refine OwnR.of (fun _ hr => XS.iloadN X18.here hx rfl (hb hby d13_23) rfl hr) ?_
      show OwnR _ _ _ _ _ _ _ (T18.setTop (mkF m 24 #[.val (.ref rel), .val (.int (Int32.ofNat fi)), .val (.int (Int32.ofNat ti)), .val (.int (own_bs (M fi) ti)), .val (.ref bw), .val (.int (Int32.ofNat (own_sz (M fi)))), .unset, .unset, .unset] [(.int (own_bs (M fi) ti))]))
      refine OwnR.of (fun _ hr => XS.ifYes X18.here hx rfl (pc0 := 24) (pc' := 31) rfl (hb hby d13_24) rfl ((if0 _ _).trans (flt b1).2.1) (by decide) (by decide) hr) ?_
      show OwnR _ _ _ _ _ _ _ (T18.setTop (mkF m 31 #[.val (.ref rel), .val (.int (Int32.ofNat fi)), .val (.int (Int32.ofNat ti)), .val (.int (own_bs (M fi) ti)), .val (.ref bw), .val (.int (Int32.ofNat (own_sz (M fi)))), .unset, .unset, .unset] []))
      refine OwnR.of (fun _ hr => XS.iconst X18.here hx rfl (hb hby d13_31) hr) ?_
      show OwnR _ _ _ _ _ _ _ (T18.setTop (mkF m 32 #[.val (.ref rel), .val (.int (Int32.ofNat fi)), .val (.int (Int32.ofNat ti)), .val (.int (own_bs (M fi) ti)), .val (.ref bw), .val (.int (Int32.ofNat (own_sz (M fi)))), .unset, .unset, .unset] [(.int (0 : Int32))]))
      refine OwnR.of (fun _ hr => XS.istore X18.here hx rfl (hb hby d13_32) rfl (l' := #[.val (.ref rel), .val (.int (Int32.ofNat fi)), .val (.int (Int32.ofNat ti)), .val (.int (own_bs (M fi) ti)), .val (.ref bw), .val (.int (Int32.ofNat (own_sz (M fi)))), .val (.int (0 : Int32)), .unset, .unset]) rfl hr) ?_
      show OwnR _ _ _ _ _ _ _ (T18.setTop (mkF m 34 #[.val (.ref rel), .val (.int (Int32.ofNat fi)), .val (.int (Int32.ofNat ti)), .val (.int (own_bs (M fi) ti)), .val (.ref bw), .val (.int (Int32.ofNat (own_sz (M fi)))), .val (.int (0 : Int32)), .unset, .unset] []))
      refine OwnR.of (fun _ hr => XS.iload X18.here hx rfl (hb hby d13_34) rfl hr) ?_
      show OwnR _ _ _ _ _ _ _ (T18.setTop (mkF m 36 #[.val (.ref rel), .val (.int (Int32.ofNat fi)), .val (.int (Int32.ofNat ti)), .val (.int (own_bs (M fi) ti)), .val (.ref bw), .val (.int (Int32.ofNat (own_sz (M fi)))), .val (.int (0 : Int32)), .unset, .unset] [(.int (0 : Int32))]))
      refine OwnR.of (fun _ hr => XS.ifYes X18.here hx rfl (pc0 := 36) (pc' := 139) rfl (hb hby d13_36) rfl ((if0 _ _).trans (teq (by decide : (0 : Int32) = (0 : Int32))).1) (by decide) (by decide) hr) ?_
      show OwnR _ _ _ _ _ _ _ (T18.setTop (mkF m 139 #[.val (.ref rel), .val (.int (Int32.ofNat fi)), .val (.int (Int32.ofNat ti)), .val (.int (own_bs (M fi) ti)), .val (.ref bw), .val (.int (Int32.ofNat (own_sz (M fi)))), .val (.int (0 : Int32)), .unset, .unset] []))
      refine OwnR.of (fun _ hr => XS.iload X18.here hx rfl (hb hby d13_139) rfl hr) ?_
      show OwnR _ _ _ _ _ _ _ (T18.setTop (mkF m 141 #[.val (.ref rel), .val (.int (Int32.ofNat fi)), .val (.int (Int32.ofNat ti)), .val (.int (own_bs (M fi) ti)), .val (.ref bw), .val (.int (Int32.ofNat (own_sz (M fi)))), .val (.int (0 : Int32)), .unset, .unset] [(.int (0 : Int32))]))
      refine own_leafN X18 hx hlk (t := .boolean) Bd.returns (by simp) (hb hby d13_141) (z' := (0 : Int32)) rfl (by decide) (by decide) ?_
      show QAdd Z rel em ro rz kW kS n M fi ti bw h0 n0 _ T18.heap _
      rw [show T18.heap = h0 from e18]
      refine ⟨B, pq, ?_, N16, ⟨(Keep.refl h0 [rel, ro, rz, bw]), E_rel, F_rows_rel, F_rowSizes_rel, F_pairCount_rel, (by rw [own_upd_same hm8 ht3 hbit]; exact RR)⟩⟩
      show (some (.int (0 : Int32)) : Option Value) = some (.int (own_bi (!(M fi).testBit ti)))
      rw [hbit]
      rfl
    · skip
      have hbit : (M fi).testBit ti = false := by simpa using hbit
      obtain ⟨b1, b2, b3, b4⟩ := own_bs_neg _ hm8 _ ht3 hbit
      have b5 : (Int32.ofNat (own_sz (M fi))) - (Int32.ofNat (own_cnt (M fi) ti)) = (Int32.ofNat (own_sz (M fi) - own_cnt (M fi) ti)) := (own_subn _ hm8 _ ht3).resolve_right (Nat.not_lt.mpr b3)
      have hszn := own_sz_lt n hn4 _ (hM fi) _ ht hbit
      show OwnR _ _ _ _ _ _ _ (s₁.setTop (mkF m 0 #[.val (.ref rel), .val (.int (Int32.ofNat fi)), .val (.int (Int32.ofNat ti)), .unset, .unset, .unset, .unset, .unset, .unset] []))
      refine OwnR.of (fun _ hr => XS.aloadN X0.here hx rfl (hb hby d13_0) rfl rfl hr) ?_
      show OwnR _ _ _ _ _ _ _ (s₁.setTop (mkF m 1 #[.val (.ref rel), .val (.int (Int32.ofNat fi)), .val (.int (Int32.ofNat ti)), .unset, .unset, .unset, .unset, .unset, .unset] [(.ref rel)]))
      refine OwnR.of (fun _ hr => XS.iloadN X0.here hx rfl (hb hby d13_1) rfl hr) ?_
      show OwnR _ _ _ _ _ _ _ (s₁.setTop (mkF m 2 #[.val (.ref rel), .val (.int (Int32.ofNat fi)), .val (.int (Int32.ofNat ti)), .unset, .unset, .unset, .unset, .unset, .unset] [(.int (Int32.ofNat fi)), (.ref rel)]))
      refine OwnR.of (fun _ hr => XS.iloadN X0.here hx rfl (hb hby d13_2) rfl hr) ?_
      show OwnR _ _ _ _ _ _ _ (s₁.setTop (mkF m 3 #[.val (.ref rel), .val (.int (Int32.ofNat fi)), .val (.int (Int32.ofNat ti)), .unset, .unset, .unset, .unset, .unset, .unset] [(.int (Int32.ofNat ti)), (.int (Int32.ofNat fi)), (.ref rel)]))
      obtain ⟨cq19, q19, q19'⟩ := Exa.cell E_rel
      obtain ⟨_, _, ⟨T19, L19, kc19, ns19⟩, -, X19, ⟨Lc19, hQ19, l19, y19, z19⟩, st19⟩ := X0.privateBack hx (y := (⟨"com/example/fast_taxonomy/fasttaxonomy/taxonomy/Relation", "search", "(II)I"⟩ : MethodName)) hown (mvT hZ (hw _ (List.mem_of_getElem? (i := 63) rfl))) (mvT hZ (hw _ (List.mem_of_getElem? (i := 64) rfl))) (mvT hZ (own_selp hw (y := (⟨"com/example/fast_taxonomy/fasttaxonomy/taxonomy/Relation", "search", "(II)I"⟩ : MethodName)) rfl (hw _ (List.mem_of_getElem? (i := 65) rfl)) (hw _ (List.mem_of_getElem? (i := 64) rfl)))) (Cond.privateMethod_at (mvP hZ (hw _ (List.mem_of_getElem? (i := 65) rfl)) (args := #[]))) (mvT hZ (hw _ (List.mem_of_getElem? (i := 66) rfl))) (by decide) (backOf (W := 0) (rmSearch l Z a0 hw [] rel em ro rz kW kS n M B fi ti h0 n0 (Nat.le_trans Z0 (Keep.refl h0 [rel, ro, rz, bw]).1) E_rel F_rows_rel F_rowSizes_rel RR hn4 hM hf ht) hZ (hw _ (List.mem_of_getElem? (i := 66) rfl)) (hw _ (List.mem_of_getElem? (i := 6) rfl)) (by decide) (by decide)) (g := (mkF m 3 #[.val (.ref rel), .val (.int (Int32.ofNat fi)), .val (.int (Int32.ofNat ti)), .unset, .unset, .unset, .unset, .unset, .unset] [(.int (Int32.ofNat ti)), (.int (Int32.ofNat fi)), (.ref rel)])) rfl (by rw [hml]; rfl) (Steps.refl _) (a := rel) (by rw [e0]; exact q19) q19' (argsL := [(.int (Int32.ofNat fi)), (.int (Int32.ofNat ti))]) (rest := []) (lenOf pd__II_I rfl) rfl (by show 2 * 0 + _ ≤ _; exact Nat.le_of_eq rfl) (hb hby d13_3) (fun _ _ => ⟨rfl, e0, (by decide : 0 + 0 ≤ _), (by decide : 0 + 0 ≤ _)⟩)
      dsimp only [Pt.U, Pt.locs, Pt.cells, Pt.slots] at X19 l19 y19 z19 st19 hQ19
      rw [l19, y19, z19] at X19
      obtain ⟨rfl, N19q, e19⟩ := hQ19
      have N19 := Fr.app N0 N19q
      refine OwnR.of (fun _ hr => st19.trans hr) ?_
      show OwnR _ _ _ _ _ _ _ (T19.setTop (mkF m 6 #[.val (.ref rel), .val (.int (Int32.ofNat fi)), .val (.int (Int32.ofNat ti)), .unset, .unset, .unset, .unset, .unset, .unset] [(.int (own_bs (M fi) ti))]))
      refine OwnR.of (fun _ hr => XS.istoreN X19.here hx rfl (hb hby d13_6) rfl (l' := #[.val (.ref rel), .val (.int (Int32.ofNat fi)), .val (.int (Int32.ofNat ti)), .val (.int (own_bs (M fi) ti)), .unset, .unset, .unset, .unset, .unset]) rfl hr) ?_
      show OwnR _ _ _ _ _ _ _ (T19.setTop (mkF m 7 #[.val (.ref rel), .val (.int (Int32.ofNat fi)), .val (.int (Int32.ofNat ti)), .val (.int (own_bs (M fi) ti)), .unset, .unset, .unset, .unset, .unset] []))
      refine OwnR.of (fun _ hr => XS.aloadN X19.here hx rfl (hb hby d13_7) rfl rfl hr) ?_
      show OwnR _ _ _ _ _ _ _ (T19.setTop (mkF m 8 #[.val (.ref rel), .val (.int (Int32.ofNat fi)), .val (.int (Int32.ofNat ti)), .val (.int (own_bs (M fi) ti)), .unset, .unset, .unset, .unset, .unset] [(.ref rel)]))
      obtain ⟨T20, X20, e20, st20⟩ := getF X19 hx hZ hown (host := "") (Or.inl (hw _ (List.mem_of_getElem? (i := 15) rfl))) Via.refl e19 F_rows_rel (g := (mkF m 8 #[.val (.ref rel), .val (.int (Int32.ofNat fi)), .val (.int (Int32.ofNat ti)), .val (.int (own_bs (M fi) ti)), .unset, .unset, .unset, .unset, .unset] [(.ref rel)])) rfl rfl (hb hby d13_8)
      refine OwnR.of (st20) ?_
      show OwnR _ _ _ _ _ _ _ (T20.setTop (mkF m 11 #[.val (.ref rel), .val (.int (Int32.ofNat fi)), .val (.int (Int32.ofNat ti)), .val (.int (own_bs (M fi) ti)), .unset, .unset, .unset, .unset, .unset] [(.ref ro)]))
      refine OwnR.of (fun _ hr => XS.iloadN X20.here hx rfl (hb hby d13_11) rfl hr) ?_
      show OwnR _ _ _ _ _ _ _ (T20.setTop (mkF m 12 #[.val (.ref rel), .val (.int (Int32.ofNat fi)), .val (.int (Int32.ofNat ti)), .val (.int (own_bs (M fi) ti)), .unset, .unset, .unset, .unset, .unset] [(.int (Int32.ofNat fi)), (.ref ro)]))
      refine OwnR.of (own_aaload rfl X20 hx hZ e20 RR.1 (own_cN hf hn4) (own_nN hf hn4) hf (v := .ref bw) (congrArg Value.ref hbe) (g := (mkF m 12 #[.val (.ref rel), .val (.int (Int32.ofNat fi)), .val (.int (Int32.ofNat ti)), .val (.int (own_bs (M fi) ti)), .unset, .unset, .unset, .unset, .unset] [(.int (Int32.ofNat fi)), (.ref ro)])) rfl rfl (hb hby d13_12)) ?_
      show OwnR _ _ _ _ _ _ _ (T20.setTop (mkF m 13 #[.val (.ref rel), .val (.int (Int32.ofNat fi)), .val (.int (Int32.ofNat ti)), .val (.int (own_bs (M fi) ti)), .unset, .unset, .unset, .unset, .unset] [(.ref bw)]))
      refine OwnR.of (fun _ hr => XS.astore X20.here hx rfl (hb hby d13_13) rfl rfl (l' := #[.val (.ref rel), .val (.int (Int32.ofNat fi)), .val (.int (Int32.ofNat ti)), .val (.int (own_bs (M fi) ti)), .val (.ref bw), .unset, .unset, .unset, .unset]) rfl hr) ?_
      show OwnR _ _ _ _ _ _ _ (T20.setTop (mkF m 15 #[.val (.ref rel), .val (.int (Int32.ofNat fi)), .val (.int (Int32.ofNat ti)), .val (.int (own_bs (M fi) ti)), .val (.ref bw), .unset, .unset, .unset, .unset] []))
      refine OwnR.of (fun _ hr => XS.aloadN X20.here hx rfl (hb hby d13_15) rfl rfl hr) ?_
      show OwnR _ _ _ _ _ _ _ (T20.setTop (mkF m 16 #[.val (.ref rel), .val (.int (Int32.ofNat fi)), .val (.int (Int32.ofNat ti)), .val (.int (own_bs (M fi) ti)), .val (.ref bw), .unset, .unset, .unset, .unset] [(.ref rel)]))
      obtain ⟨T21, X21, e21, st21⟩ := getF X20 hx hZ hown (host := "") (Or.inl (hw _ (List.mem_of_getElem? (i := 25) rfl))) Via.refl e20 F_rowSizes_rel (g := (mkF m 16 #[.val (.ref rel), .val (.int (Int32.ofNat fi)), .val (.int (Int32.ofNat ti)), .val (.int (own_bs (M fi) ti)), .val (.ref bw), .unset, .unset, .unset, .unset] [(.ref rel)])) rfl rfl (hb hby d13_16)
      refine OwnR.of (st21) ?_
      show OwnR _ _ _ _ _ _ _ (T21.setTop (mkF m 19 #[.val (.ref rel), .val (.int (Int32.ofNat fi)), .val (.int (Int32.ofNat ti)), .val (.int (own_bs (M fi) ti)), .val (.ref bw), .unset, .unset, .unset, .unset] [(.ref rz)]))
      refine OwnR.of (fun _ hr => XS.iloadN X21.here hx rfl (hb hby d13_19) rfl hr) ?_
      show OwnR _ _ _ _ _ _ _ (T21.setTop (mkF m 20 #[.val (.ref rel), .val (.int (Int32.ofNat fi)), .val (.int (Int32.ofNat ti)), .val (.int (own_bs (M fi) ti)), .val (.ref bw), .unset, .unset, .unset, .unset] [(.int (Int32.ofNat fi)), (.ref rz)]))
      refine OwnR.of (own_iaload X21 hx hZ e21 RR.2.1 (own_cN hf hn4) (own_nN hf hn4) hf (v := .int (Int32.ofNat (own_sz (M fi)))) rfl (g := (mkF m 20 #[.val (.ref rel), .val (.int (Int32.ofNat fi)), .val (.int (Int32.ofNat ti)), .val (.int (own_bs (M fi) ti)), .val (.ref bw), .unset, .unset, .unset, .unset] [(.int (Int32.ofNat fi)), (.ref rz)])) rfl rfl (hb hby d13_20)) ?_
      show OwnR _ _ _ _ _ _ _ (T21.setTop (mkF m 21 #[.val (.ref rel), .val (.int (Int32.ofNat fi)), .val (.int (Int32.ofNat ti)), .val (.int (own_bs (M fi) ti)), .val (.ref bw), .unset, .unset, .unset, .unset] [(.int (Int32.ofNat (own_sz (M fi))))]))
      refine OwnR.of (fun _ hr => XS.istore X21.here hx rfl (hb hby d13_21) rfl (l' := #[.val (.ref rel), .val (.int (Int32.ofNat fi)), .val (.int (Int32.ofNat ti)), .val (.int (own_bs (M fi) ti)), .val (.ref bw), .val (.int (Int32.ofNat (own_sz (M fi)))), .unset, .unset, .unset]) rfl hr) ?_
      show OwnR _ _ _ _ _ _ _ (T21.setTop (mkF m 23 #[.val (.ref rel), .val (.int (Int32.ofNat fi)), .val (.int (Int32.ofNat ti)), .val (.int (own_bs (M fi) ti)), .val (.ref bw), .val (.int (Int32.ofNat (own_sz (M fi)))), .unset, .unset, .unset] []))
      refine OwnR.of (fun _ hr => XS.iloadN X21.here hx rfl (hb hby d13_23) rfl hr) ?_
      show OwnR _ _ _ _ _ _ _ (T21.setTop (mkF m 24 #[.val (.ref rel), .val (.int (Int32.ofNat fi)), .val (.int (Int32.ofNat ti)), .val (.int (own_bs (M fi) ti)), .val (.ref bw), .val (.int (Int32.ofNat (own_sz (M fi)))), .unset, .unset, .unset] [(.int (own_bs (M fi) ti))]))
      refine OwnR.of (fun _ hr => XS.ifNo X21.here hx rfl (hb hby d13_24) rfl ((if0 _ _).trans (tlt b1).2.1) hr) ?_
      show OwnR _ _ _ _ _ _ _ (T21.setTop (mkF m 27 #[.val (.ref rel), .val (.int (Int32.ofNat fi)), .val (.int (Int32.ofNat ti)), .val (.int (own_bs (M fi) ti)), .val (.ref bw), .val (.int (Int32.ofNat (own_sz (M fi)))), .unset, .unset, .unset] []))
      refine OwnR.of (fun _ hr => XS.iconst X21.here hx rfl (hb hby d13_27) hr) ?_
      show OwnR _ _ _ _ _ _ _ (T21.setTop (mkF m 28 #[.val (.ref rel), .val (.int (Int32.ofNat fi)), .val (.int (Int32.ofNat ti)), .val (.int (own_bs (M fi) ti)), .val (.ref bw), .val (.int (Int32.ofNat (own_sz (M fi)))), .unset, .unset, .unset] [(.int (1 : Int32))]))
      refine OwnR.of (fun _ hr => XS.goto X21.here hx rfl (pc0 := 28) (pc' := 32) rfl (hb hby d13_28) (by decide) (by decide) hr) ?_
      show OwnR _ _ _ _ _ _ _ (T21.setTop (mkF m 32 #[.val (.ref rel), .val (.int (Int32.ofNat fi)), .val (.int (Int32.ofNat ti)), .val (.int (own_bs (M fi) ti)), .val (.ref bw), .val (.int (Int32.ofNat (own_sz (M fi)))), .unset, .unset, .unset] [(.int (1 : Int32))]))
      refine OwnR.of (fun _ hr => XS.istore X21.here hx rfl (hb hby d13_32) rfl (l' := #[.val (.ref rel), .val (.int (Int32.ofNat fi)), .val (.int (Int32.ofNat ti)), .val (.int (own_bs (M fi) ti)), .val (.ref bw), .val (.int (Int32.ofNat (own_sz (M fi)))), .val (.int (1 : Int32)), .unset, .unset]) rfl hr) ?_
      show OwnR _ _ _ _ _ _ _ (T21.setTop (mkF m 34 #[.val (.ref rel), .val (.int (Int32.ofNat fi)), .val (.int (Int32.ofNat ti)), .val (.int (own_bs (M fi) ti)), .val (.ref bw), .val (.int (Int32.ofNat (own_sz (M fi)))), .val (.int (1 : Int32)), .unset, .unset] []))
      refine OwnR.of (fun _ hr => XS.iload X21.here hx rfl (hb hby d13_34) rfl hr) ?_
      show OwnR _ _ _ _ _ _ _ (T21.setTop (mkF m 36 #[.val (.ref rel), .val (.int (Int32.ofNat fi)), .val (.int (Int32.ofNat ti)), .val (.int (own_bs (M fi) ti)), .val (.ref bw), .val (.int (Int32.ofNat (own_sz (M fi)))), .val (.int (1 : Int32)), .unset, .unset] [(.int (1 : Int32))]))
      refine OwnR.of (fun _ hr => XS.ifNo X21.here hx rfl (hb hby d13_36) rfl ((if0 _ _).trans (feq (by decide : ¬ ((1 : Int32) = (0 : Int32)))).1) hr) ?_
      show OwnR _ _ _ _ _ _ _ (T21.setTop (mkF m 39 #[.val (.ref rel), .val (.int (Int32.ofNat fi)), .val (.int (Int32.ofNat ti)), .val (.int (own_bs (M fi) ti)), .val (.ref bw), .val (.int (Int32.ofNat (own_sz (M fi)))), .val (.int (1 : Int32)), .unset, .unset] []))
      refine OwnR.of (fun _ hr => XS.iloadN X21.here hx rfl (hb hby d13_39) rfl hr) ?_
      show OwnR _ _ _ _ _ _ _ (T21.setTop (mkF m 40 #[.val (.ref rel), .val (.int (Int32.ofNat fi)), .val (.int (Int32.ofNat ti)), .val (.int (own_bs (M fi) ti)), .val (.ref bw), .val (.int (Int32.ofNat (own_sz (M fi)))), .val (.int (1 : Int32)), .unset, .unset] [(.int (own_bs (M fi) ti))]))
      refine OwnR.of (fun _ hr => XS.ineg X21.here hx rfl (hb hby d13_40) rfl hr) ?_
      show OwnR _ _ _ _ _ _ _ (T21.setTop (mkF m 41 #[.val (.ref rel), .val (.int (Int32.ofNat fi)), .val (.int (Int32.ofNat ti)), .val (.int (own_bs (M fi) ti)), .val (.ref bw), .val (.int (Int32.ofNat (own_sz (M fi)))), .val (.int (1 : Int32)), .unset, .unset] [(.int (-(own_bs (M fi) ti)))]))
      refine OwnR.of (fun _ hr => XS.iconst X21.here hx rfl (hb hby d13_41) hr) ?_
      show OwnR _ _ _ _ _ _ _ (T21.setTop (mkF m 42 #[.val (.ref rel), .val (.int (Int32.ofNat fi)), .val (.int (Int32.ofNat ti)), .val (.int (own_bs (M fi) ti)), .val (.ref bw), .val (.int (Int32.ofNat (own_sz (M fi)))), .val (.int (1 : Int32)), .unset, .unset] [(.int (1 : Int32)), (.int (-(own_bs (M fi) ti)))]))
      refine OwnR.of (fun _ hr => XS.isub X21.here hx rfl (hb hby d13_42) rfl hr) ?_
      show OwnR _ _ _ _ _ _ _ (T21.setTop (mkF m 43 #[.val (.ref rel), .val (.int (Int32.ofNat fi)), .val (.int (Int32.ofNat ti)), .val (.int (own_bs (M fi) ti)), .val (.ref bw), .val (.int (Int32.ofNat (own_sz (M fi)))), .val (.int (1 : Int32)), .unset, .unset] [(.int ((-(own_bs (M fi) ti)) - (1 : Int32)))]))
      rw [b2]
      show OwnR _ _ _ _ _ _ _ (T21.setTop (mkF m 43 #[.val (.ref rel), .val (.int (Int32.ofNat fi)), .val (.int (Int32.ofNat ti)), .val (.int (own_bs (M fi) ti)), .val (.ref bw), .val (.int (Int32.ofNat (own_sz (M fi)))), .val (.int (1 : Int32)), .unset, .unset] [(.int (Int32.ofNat (own_cnt (M fi) ti)))]))
      refine OwnR.of (fun _ hr => XS.istore X21.here hx rfl (hb hby d13_43) rfl (l' := #[.val (.ref rel), .val (.int (Int32.ofNat fi)), .val (.int (Int32.ofNat ti)), .val (.int (own_bs (M fi) ti)), .val (.ref bw), .val (.int (Int32.ofNat (own_sz (M fi)))), .val (.int (1 : Int32)), .val (.int (Int32.ofNat (own_cnt (M fi) ti))), .unset]) rfl hr) ?_
      show OwnR _ _ _ _ _ _ _ (T21.setTop (mkF m 45 #[.val (.ref rel), .val (.int (Int32.ofNat fi)), .val (.int (Int32.ofNat ti)), .val (.int (own_bs (M fi) ti)), .val (.ref bw), .val (.int (Int32.ofNat (own_sz (M fi)))), .val (.int (1 : Int32)), .val (.int (Int32.ofNat (own_cnt (M fi) ti))), .unset] []))
      refine OwnR.of (fun _ hr => XS.iload X21.here hx rfl (hb hby d13_45) rfl hr) ?_
      show OwnR _ _ _ _ _ _ _ (T21.setTop (mkF m 47 #[.val (.ref rel), .val (.int (Int32.ofNat fi)), .val (.int (Int32.ofNat ti)), .val (.int (own_bs (M fi) ti)), .val (.ref bw), .val (.int (Int32.ofNat (own_sz (M fi)))), .val (.int (1 : Int32)), .val (.int (Int32.ofNat (own_cnt (M fi) ti))), .unset] [(.int (Int32.ofNat (own_sz (M fi))))]))
      refine OwnR.of (fun _ hr => XS.aload X21.here hx rfl (hb hby d13_47) rfl rfl hr) ?_
      show OwnR _ _ _ _ _ _ _ (T21.setTop (mkF m 49 #[.val (.ref rel), .val (.int (Int32.ofNat fi)), .val (.int (Int32.ofNat ti)), .val (.int (own_bs (M fi) ti)), .val (.ref bw), .val (.int (Int32.ofNat (own_sz (M fi)))), .val (.int (1 : Int32)), .val (.int (Int32.ofNat (own_cnt (M fi) ti))), .unset] [(.ref bw), (.int (Int32.ofNat (own_sz (M fi))))]))
      refine OwnR.of (own_alen X21 hx hZ e21 FB (z := (Int32.ofNat n)) (own_c4 hn4) (own_n4 hn4) (g := (mkF m 49 #[.val (.ref rel), .val (.int (Int32.ofNat fi)), .val (.int (Int32.ofNat ti)), .val (.int (own_bs (M fi) ti)), .val (.ref bw), .val (.int (Int32.ofNat (own_sz (M fi)))), .val (.int (1 : Int32)), .val (.int (Int32.ofNat (own_cnt (M fi) ti))), .unset] [(.ref bw), (.int (Int32.ofNat (own_sz (M fi))))])) rfl rfl (hb hby d13_49)) ?_
      show OwnR _ _ _ _ _ _ _ (T21.setTop (mkF m 50 #[.val (.ref rel), .val (.int (Int32.ofNat fi)), .val (.int (Int32.ofNat ti)), .val (.int (own_bs (M fi) ti)), .val (.ref bw), .val (.int (Int32.ofNat (own_sz (M fi)))), .val (.int (1 : Int32)), .val (.int (Int32.ofNat (own_cnt (M fi) ti))), .unset] [(.int (Int32.ofNat n)), (.int (Int32.ofNat (own_sz (M fi))))]))
      refine OwnR.of (fun _ hr => XS.icmpYes X21.here hx rfl (pc0 := 50) (pc' := 95) rfl (hb hby d13_50) rfl (feq (own_ne4 (Nat.ne_of_lt hszn) (Nat.lt_trans hszn hn4) hn4)).2 (by decide) (by decide) hr) ?_
      show OwnR _ _ _ _ _ _ _ (T21.setTop (mkF m 95 #[.val (.ref rel), .val (.int (Int32.ofNat fi)), .val (.int (Int32.ofNat ti)), .val (.int (own_bs (M fi) ti)), .val (.ref bw), .val (.int (Int32.ofNat (own_sz (M fi)))), .val (.int (1 : Int32)), .val (.int (Int32.ofNat (own_cnt (M fi) ti))), .unset] []))
      refine OwnR.of (fun _ hr => XS.aload X21.here hx rfl (hb hby d13_95) rfl rfl hr) ?_
      show OwnR _ _ _ _ _ _ _ (T21.setTop (mkF m 97 #[.val (.ref rel), .val (.int (Int32.ofNat fi)), .val (.int (Int32.ofNat ti)), .val (.int (own_bs (M fi) ti)), .val (.ref bw), .val (.int (Int32.ofNat (own_sz (M fi)))), .val (.int (1 : Int32)), .val (.int (Int32.ofNat (own_cnt (M fi) ti))), .unset] [(.ref bw)]))
      refine OwnR.of (fun _ hr => XS.iload X21.here hx rfl (hb hby d13_97) rfl hr) ?_
      show OwnR _ _ _ _ _ _ _ (T21.setTop (mkF m 99 #[.val (.ref rel), .val (.int (Int32.ofNat fi)), .val (.int (Int32.ofNat ti)), .val (.int (own_bs (M fi) ti)), .val (.ref bw), .val (.int (Int32.ofNat (own_sz (M fi)))), .val (.int (1 : Int32)), .val (.int (Int32.ofNat (own_cnt (M fi) ti))), .unset] [(.int (Int32.ofNat (own_cnt (M fi) ti))), (.ref bw)]))
      refine OwnR.of (fun _ hr => XS.aload X21.here hx rfl (hb hby d13_99) rfl rfl hr) ?_
      show OwnR _ _ _ _ _ _ _ (T21.setTop (mkF m 101 #[.val (.ref rel), .val (.int (Int32.ofNat fi)), .val (.int (Int32.ofNat ti)), .val (.int (own_bs (M fi) ti)), .val (.ref bw), .val (.int (Int32.ofNat (own_sz (M fi)))), .val (.int (1 : Int32)), .val (.int (Int32.ofNat (own_cnt (M fi) ti))), .unset] [(.ref bw), (.int (Int32.ofNat (own_cnt (M fi) ti))), (.ref bw)]))
      refine OwnR.of (fun _ hr => XS.iload X21.here hx rfl (hb hby d13_101) rfl hr) ?_
      show OwnR _ _ _ _ _ _ _ (T21.setTop (mkF m 103 #[.val (.ref rel), .val (.int (Int32.ofNat fi)), .val (.int (Int32.ofNat ti)), .val (.int (own_bs (M fi) ti)), .val (.ref bw), .val (.int (Int32.ofNat (own_sz (M fi)))), .val (.int (1 : Int32)), .val (.int (Int32.ofNat (own_cnt (M fi) ti))), .unset] [(.int (Int32.ofNat (own_cnt (M fi) ti))), (.ref bw), (.int (Int32.ofNat (own_cnt (M fi) ti))), (.ref bw)]))
      refine OwnR.of (fun _ hr => XS.iconst X21.here hx rfl (hb hby d13_103) hr) ?_
      show OwnR _ _ _ _ _ _ _ (T21.setTop (mkF m 104 #[.val (.ref rel), .val (.int (Int32.ofNat fi)), .val (.int (Int32.ofNat ti)), .val (.int (own_bs (M fi) ti)), .val (.ref bw), .val (.int (Int32.ofNat (own_sz (M fi)))), .val (.int (1 : Int32)), .val (.int (Int32.ofNat (own_cnt (M fi) ti))), .unset] [(.int (1 : Int32)), (.int (Int32.ofNat (own_cnt (M fi) ti))), (.ref bw), (.int (Int32.ofNat (own_cnt (M fi) ti))), (.ref bw)]))
      refine OwnR.of (fun _ hr => XS.iadd X21.here hx rfl (hb hby d13_104) rfl hr) ?_
      show OwnR _ _ _ _ _ _ _ (T21.setTop (mkF m 105 #[.val (.ref rel), .val (.int (Int32.ofNat fi)), .val (.int (Int32.ofNat ti)), .val (.int (own_bs (M fi) ti)), .val (.ref bw), .val (.int (Int32.ofNat (own_sz (M fi)))), .val (.int (1 : Int32)), .val (.int (Int32.ofNat (own_cnt (M fi) ti))), .unset] [(.int ((Int32.ofNat (own_cnt (M fi) ti)) + (1 : Int32))), (.ref bw), (.int (Int32.ofNat (own_cnt (M fi) ti))), (.ref bw)]))
      rw [own_succ (own_cnt (M fi) ti)]
      show OwnR _ _ _ _ _ _ _ (T21.setTop (mkF m 105 #[.val (.ref rel), .val (.int (Int32.ofNat fi)), .val (.int (Int32.ofNat ti)), .val (.int (own_bs (M fi) ti)), .val (.ref bw), .val (.int (Int32.ofNat (own_sz (M fi)))), .val (.int (1 : Int32)), .val (.int (Int32.ofNat (own_cnt (M fi) ti))), .unset] [(.int (Int32.ofNat (own_cnt (M fi) ti + 1))), (.ref bw), (.int (Int32.ofNat (own_cnt (M fi) ti))), (.ref bw)]))
      refine OwnR.of (fun _ hr => XS.iload X21.here hx rfl (hb hby d13_105) rfl hr) ?_
      show OwnR _ _ _ _ _ _ _ (T21.setTop (mkF m 107 #[.val (.ref rel), .val (.int (Int32.ofNat fi)), .val (.int (Int32.ofNat ti)), .val (.int (own_bs (M fi) ti)), .val (.ref bw), .val (.int (Int32.ofNat (own_sz (M fi)))), .val (.int (1 : Int32)), .val (.int (Int32.ofNat (own_cnt (M fi) ti))), .unset] [(.int (Int32.ofNat (own_sz (M fi)))), (.int (Int32.ofNat (own_cnt (M fi) ti + 1))), (.ref bw), (.int (Int32.ofNat (own_cnt (M fi) ti))), (.ref bw)]))
      refine OwnR.of (fun _ hr => XS.iload X21.here hx rfl (hb hby d13_107) rfl hr) ?_
      show OwnR _ _ _ _ _ _ _ (T21.setTop (mkF m 109 #[.val (.ref rel), .val (.int (Int32.ofNat fi)), .val (.int (Int32.ofNat ti)), .val (.int (own_bs (M fi) ti)), .val (.ref bw), .val (.int (Int32.ofNat (own_sz (M fi)))), .val (.int (1 : Int32)), .val (.int (Int32.ofNat (own_cnt (M fi) ti))), .unset] [(.int (Int32.ofNat (own_cnt (M fi) ti))), (.int (Int32.ofNat (own_sz (M fi)))), (.int (Int32.ofNat (own_cnt (M fi) ti + 1))), (.ref bw), (.int (Int32.ofNat (own_cnt (M fi) ti))), (.ref bw)]))
      refine OwnR.of (fun _ hr => XS.isub X21.here hx rfl (hb hby d13_109) rfl hr) ?_
      show OwnR _ _ _ _ _ _ _ (T21.setTop (mkF m 110 #[.val (.ref rel), .val (.int (Int32.ofNat fi)), .val (.int (Int32.ofNat ti)), .val (.int (own_bs (M fi) ti)), .val (.ref bw), .val (.int (Int32.ofNat (own_sz (M fi)))), .val (.int (1 : Int32)), .val (.int (Int32.ofNat (own_cnt (M fi) ti))), .unset] [(.int ((Int32.ofNat (own_sz (M fi))) - (Int32.ofNat (own_cnt (M fi) ti)))), (.int (Int32.ofNat (own_cnt (M fi) ti + 1))), (.ref bw), (.int (Int32.ofNat (own_cnt (M fi) ti))), (.ref bw)]))
      rw [b5]
      show OwnR _ _ _ _ _ _ _ (T21.setTop (mkF m 110 #[.val (.ref rel), .val (.int (Int32.ofNat fi)), .val (.int (Int32.ofNat ti)), .val (.int (own_bs (M fi) ti)), .val (.ref bw), .val (.int (Int32.ofNat (own_sz (M fi)))), .val (.int (1 : Int32)), .val (.int (Int32.ofNat (own_cnt (M fi) ti))), .unset] [(.int (Int32.ofNat (own_sz (M fi) - own_cnt (M fi) ti))), (.int (Int32.ofNat (own_cnt (M fi) ti + 1))), (.ref bw), (.int (Int32.ofNat (own_cnt (M fi) ti))), (.ref bw)]))
      obtain ⟨T22, h22, L22, X22, e22, N22, Kp22, FC, st22⟩ := own_copy X21 hx hZ hown (hw _ (List.mem_of_getElem? (i := 107) rfl)) (hw _ (List.mem_of_getElem? (i := 106) rfl)) (hw _ (List.mem_of_getElem? (i := 104) rfl)) (hw _ (List.mem_of_getElem? (i := 105) rfl)) e21 FB hn4 (fun _ _ => ⟨_, rfl⟩) (own_cb b3 hszn) N19 g_bw (g := (mkF m 110 #[.val (.ref rel), .val (.int (Int32.ofNat fi)), .val (.int (Int32.ofNat ti)), .val (.int (own_bs (M fi) ti)), .val (.ref bw), .val (.int (Int32.ofNat (own_sz (M fi)))), .val (.int (1 : Int32)), .val (.int (Int32.ofNat (own_cnt (M fi) ti))), .unset] [(.int (Int32.ofNat (own_sz (M fi) - own_cnt (M fi) ti))), (.int (Int32.ofNat (own_cnt (M fi) ti + 1))), (.ref bw), (.int (Int32.ofNat (own_cnt (M fi) ti))), (.ref bw)])) rfl (by rw [hml]; rfl) rfl (hb hby d13_110) (by decide) (W := 0) (by show 2 * 0 + _ ≤ _; exact Nat.le_of_eq rfl) (by decide)
      refine OwnR.of (st22) ?_
      have K22 : Keep h0 h22 [rel, ro, rz, bw] := Keep.trans (Keep.refl h0 [rel, ro, rz, bw]) Kp22 (allS (Or.inl (List.mem_of_getElem? (i := 3) rfl)) all0)
      show OwnR _ _ _ _ _ _ _ (T22.setTop (mkF m 113 #[.val (.ref rel), .val (.int (Int32.ofNat fi)), .val (.int (Int32.ofNat ti)), .val (.int (own_bs (M fi) ti)), .val (.ref bw), .val (.int (Int32.ofNat (own_sz (M fi)))), .val (.int (1 : Int32)), .val (.int (Int32.ofNat (own_cnt (M fi) ti))), .unset] []))
      refine OwnR.of (fun _ hr => XS.aload X22.here hx rfl (hb hby d13_113) rfl rfl hr) ?_
      show OwnR _ _ _ _ _ _ _ (T22.setTop (mkF m 115 #[.val (.ref rel), .val (.int (Int32.ofNat fi)), .val (.int (Int32.ofNat ti)), .val (.int (own_bs (M fi) ti)), .val (.ref bw), .val (.int (Int32.ofNat (own_sz (M fi)))), .val (.int (1 : Int32)), .val (.int (Int32.ofNat (own_cnt (M fi) ti))), .unset] [(.ref bw)]))
      refine OwnR.of (fun _ hr => XS.iload X22.here hx rfl (hb hby d13_115) rfl hr) ?_
      show OwnR _ _ _ _ _ _ _ (T22.setTop (mkF m 117 #[.val (.ref rel), .val (.int (Int32.ofNat fi)), .val (.int (Int32.ofNat ti)), .val (.int (own_bs (M fi) ti)), .val (.ref bw), .val (.int (Int32.ofNat (own_sz (M fi)))), .val (.int (1 : Int32)), .val (.int (Int32.ofNat (own_cnt (M fi) ti))), .unset] [(.int (Int32.ofNat (own_cnt (M fi) ti))), (.ref bw)]))
      refine OwnR.of (fun _ hr => XS.iloadN X22.here hx rfl (hb hby d13_117) rfl hr) ?_
      show OwnR _ _ _ _ _ _ _ (T22.setTop (mkF m 118 #[.val (.ref rel), .val (.int (Int32.ofNat fi)), .val (.int (Int32.ofNat ti)), .val (.int (own_bs (M fi) ti)), .val (.ref bw), .val (.int (Int32.ofNat (own_sz (M fi)))), .val (.int (1 : Int32)), .val (.int (Int32.ofNat (own_cnt (M fi) ti))), .unset] [(.int (Int32.ofNat ti)), (.int (Int32.ofNat (own_cnt (M fi) ti))), (.ref bw)]))
      obtain ⟨T23, h23, X23, e23, W23, st23⟩ := own_iastore X22 hx hZ e22 FC (own_cN (own_cl b3 hszn) hn4) (own_nN (own_cl b3 hszn) hn4) (own_cl b3 hszn) (g := (mkF m 118 #[.val (.ref rel), .val (.int (Int32.ofNat fi)), .val (.int (Int32.ofNat ti)), .val (.int (own_bs (M fi) ti)), .val (.ref bw), .val (.int (Int32.ofNat (own_sz (M fi)))), .val (.int (1 : Int32)), .val (.int (Int32.ofNat (own_cnt (M fi) ti))), .unset] [(.int (Int32.ofNat ti)), (.int (Int32.ofNat (own_cnt (M fi) ti))), (.ref bw)])) rfl rfl (hb hby d13_118)
      refine OwnR.of (st23) ?_
      have FD := OwnF.congr (OwnF.set FC W23) fun j hj => own_ins_row hm8 ht3 hn4 hbit j hj
      have K23 : Keep h0 h23 [rel, ro, rz, bw] := Keep.wr K22 W23 (Or.inl (List.mem_of_getElem? (i := 3) rfl))
      have N23 := Fr.snoc X23 N22 g_bw
      show OwnR _ _ _ _ _ _ _ (T23.setTop (mkF m 119 #[.val (.ref rel), .val (.int (Int32.ofNat fi)), .val (.int (Int32.ofNat ti)), .val (.int (own_bs (M fi) ti)), .val (.ref bw), .val (.int (Int32.ofNat (own_sz (M fi)))), .val (.int (1 : Int32)), .val (.int (Int32.ofNat (own_cnt (M fi) ti))), .unset] []))
      refine OwnR.of (fun _ hr => XS.aloadN X23.here hx rfl (hb hby d13_119) rfl rfl hr) ?_
      show OwnR _ _ _ _ _ _ _ (T23.setTop (mkF m 120 #[.val (.ref rel), .val (.int (Int32.ofNat fi)), .val (.int (Int32.ofNat ti)), .val (.int (own_bs (M fi) ti)), .val (.ref bw), .val (.int (Int32.ofNat (own_sz (M fi)))), .val (.int (1 : Int32)), .val (.int (Int32.ofNat (own_cnt (M fi) ti))), .unset] [(.ref rel)]))
      obtain ⟨T24, X24, e24, st24⟩ := getF X23 hx hZ hown (host := "") (Or.inl (hw _ (List.mem_of_getElem? (i := 25) rfl))) Via.refl e23 (Fld.other W23 (F_rowSizes_rel.keep Kp22 (ninS n_4 nin0)) (Or.inl n_4)) (g := (mkF m 120 #[.val (.ref rel), .val (.int (Int32.ofNat fi)), .val (.int (Int32.ofNat ti)), .val (.int (own_bs (M fi) ti)), .val (.ref bw), .val (.int (Int32.ofNat (own_sz (M fi)))), .val (.int (1 : Int32)), .val (.int (Int32.ofNat (own_cnt (M fi) ti))), .unset] [(.ref rel)])) rfl rfl (hb hby d13_120)
      refine OwnR.of (st24) ?_
      show OwnR _ _ _ _ _ _ _ (T24.setTop (mkF m 123 #[.val (.ref rel), .val (.int (Int32.ofNat fi)), .val (.int (Int32.ofNat ti)), .val (.int (own_bs (M fi) ti)), .val (.ref bw), .val (.int (Int32.ofNat (own_sz (M fi)))), .val (.int (1 : Int32)), .val (.int (Int32.ofNat (own_cnt (M fi) ti))), .unset] [(.ref rz)]))
      refine OwnR.of (fun _ hr => XS.iloadN X24.here hx rfl (hb hby d13_123) rfl hr) ?_
      show OwnR _ _ _ _ _ _ _ (T24.setTop (mkF m 124 #[.val (.ref rel), .val (.int (Int32.ofNat fi)), .val (.int (Int32.ofNat ti)), .val (.int (own_bs (M fi) ti)), .val (.ref bw), .val (.int (Int32.ofNat (own_sz (M fi)))), .val (.int (1 : Int32)), .val (.int (Int32.ofNat (own_cnt (M fi) ti))), .unset] [(.int (Int32.ofNat fi)), (.ref rz)]))
      refine OwnR.of (fun _ hr => XS.iload X24.here hx rfl (hb hby d13_124) rfl hr) ?_
      show OwnR _ _ _ _ _ _ _ (T24.setTop (mkF m 126 #[.val (.ref rel), .val (.int (Int32.ofNat fi)), .val (.int (Int32.ofNat ti)), .val (.int (own_bs (M fi) ti)), .val (.ref bw), .val (.int (Int32.ofNat (own_sz (M fi)))), .val (.int (1 : Int32)), .val (.int (Int32.ofNat (own_cnt (M fi) ti))), .unset] [(.int (Int32.ofNat (own_sz (M fi)))), (.int (Int32.ofNat fi)), (.ref rz)]))
      refine OwnR.of (fun _ hr => XS.iconst X24.here hx rfl (hb hby d13_126) hr) ?_
      show OwnR _ _ _ _ _ _ _ (T24.setTop (mkF m 127 #[.val (.ref rel), .val (.int (Int32.ofNat fi)), .val (.int (Int32.ofNat ti)), .val (.int (own_bs (M fi) ti)), .val (.ref bw), .val (.int (Int32.ofNat (own_sz (M fi)))), .val (.int (1 : Int32)), .val (.int (Int32.ofNat (own_cnt (M fi) ti))), .unset] [(.int (1 : Int32)), (.int (Int32.ofNat (own_sz (M fi)))), (.int (Int32.ofNat fi)), (.ref rz)]))
      refine OwnR.of (fun _ hr => XS.iadd X24.here hx rfl (hb hby d13_127) rfl hr) ?_
      show OwnR _ _ _ _ _ _ _ (T24.setTop (mkF m 128 #[.val (.ref rel), .val (.int (Int32.ofNat fi)), .val (.int (Int32.ofNat ti)), .val (.int (own_bs (M fi) ti)), .val (.ref bw), .val (.int (Int32.ofNat (own_sz (M fi)))), .val (.int (1 : Int32)), .val (.int (Int32.ofNat (own_cnt (M fi) ti))), .unset] [(.int ((Int32.ofNat (own_sz (M fi))) + (1 : Int32))), (.int (Int32.ofNat fi)), (.ref rz)]))
      rw [own_succ (own_sz (M fi))]
      show OwnR _ _ _ _ _ _ _ (T24.setTop (mkF m 128 #[.val (.ref rel), .val (.int (Int32.ofNat fi)), .val (.int (Int32.ofNat ti)), .val (.int (own_bs (M fi) ti)), .val (.ref bw), .val (.int (Int32.ofNat (own_sz (M fi)))), .val (.int (1 : Int32)), .val (.int (Int32.ofNat (own_cnt (M fi) ti))), .unset] [(.int (Int32.ofNat (own_sz (M fi) + 1))), (.int (Int32.ofNat fi)), (.ref rz)]))
      obtain ⟨T25, h25, X25, e25, W25, st25⟩ := own_iastore X24 hx hZ e24 (OwnF.other (OwnF.keep RR.2.1 Kp22 (ninS n_6 nin0)) W23 n_6) (own_cN hf hn4) (own_nN hf hn4) hf (g := (mkF m 128 #[.val (.ref rel), .val (.int (Int32.ofNat fi)), .val (.int (Int32.ofNat ti)), .val (.int (own_bs (M fi) ti)), .val (.ref bw), .val (.int (Int32.ofNat (own_sz (M fi)))), .val (.int (1 : Int32)), .val (.int (Int32.ofNat (own_cnt (M fi) ti))), .unset] [(.int (Int32.ofNat (own_sz (M fi) + 1))), (.int (Int32.ofNat fi)), (.ref rz)])) rfl rfl (hb hby d13_128)
      refine OwnR.of (st25) ?_
      have FS := OwnF.set (OwnF.other (OwnF.keep RR.2.1 Kp22 (ninS n_6 nin0)) W23 n_6) W25
      have K25 : Keep h0 h25 [rel, ro, rz, bw] := Keep.wr K23 W25 (Or.inl (List.mem_of_getElem? (i := 2) rfl))
      have N25 := Fr.snoc X25 N23 g_rz
      show OwnR _ _ _ _ _ _ _ (T25.setTop (mkF m 129 #[.val (.ref rel), .val (.int (Int32.ofNat fi)), .val (.int (Int32.ofNat ti)), .val (.int (own_bs (M fi) ti)), .val (.ref bw), .val (.int (Int32.ofNat (own_sz (M fi)))), .val (.int (1 : Int32)), .val (.int (Int32.ofNat (own_cnt (M fi) ti))), .unset] []))
      refine OwnR.of (fun _ hr => XS.aloadN X25.here hx rfl (hb hby d13_129) rfl rfl hr) ?_
      show OwnR _ _ _ _ _ _ _ (T25.setTop (mkF m 130 #[.val (.ref rel), .val (.int (Int32.ofNat fi)), .val (.int (Int32.ofNat ti)), .val (.int (own_bs (M fi) ti)), .val (.ref bw), .val (.int (Int32.ofNat (own_sz (M fi)))), .val (.int (1 : Int32)), .val (.int (Int32.ofNat (own_cnt (M fi) ti))), .unset] [(.ref rel)]))
      refine OwnR.of (fun _ hr => XS.dup X25.here hx rfl (hb hby d13_130) rfl rfl hr) ?_
      show OwnR _ _ _ _ _ _ _ (T25.setTop (mkF m 131 #[.val (.ref rel), .val (.int (Int32.ofNat fi)), .val (.int (Int32.ofNat ti)), .val (.int (own_bs (M fi) ti)), .val (.ref bw), .val (.int (Int32.ofNat (own_sz (M fi)))), .val (.int (1 : Int32)), .val (.int (Int32.ofNat (own_cnt (M fi) ti))), .unset] [(.ref rel), (.ref rel)]))
      obtain ⟨T26, X26, e26, st26⟩ := getF X25 hx hZ hown (host := "") (Or.inl (hw _ (List.mem_of_getElem? (i := 108) rfl))) Via.refl e25 (Fld.other W25 (Fld.other W23 (F_pairCount_rel.keep Kp22 (ninS n_4 nin0)) (Or.inl n_4)) (Or.inl n_2)) (g := (mkF m 131 #[.val (.ref rel), .val (.int (Int32.ofNat fi)), .val (.int (Int32.ofNat ti)), .val (.int (own_bs (M fi) ti)), .val (.ref bw), .val (.int (Int32.ofNat (own_sz (M fi)))), .val (.int (1 : Int32)), .val (.int (Int32.ofNat (own_cnt (M fi) ti))), .unset] [(.ref rel), (.ref rel)])) rfl rfl (hb hby d13_131)
      refine OwnR.of (st26) ?_
      show OwnR _ _ _ _ _ _ _ (T26.setTop (mkF m 134 #[.val (.ref rel), .val (.int (Int32.ofNat fi)), .val (.int (Int32.ofNat ti)), .val (.int (own_bs (M fi) ti)), .val (.ref bw), .val (.int (Int32.ofNat (own_sz (M fi)))), .val (.int (1 : Int32)), .val (.int (Int32.ofNat (own_cnt (M fi) ti))), .unset] [(.long pq), (.ref rel)]))
      refine OwnR.of (fun _ hr => XS.lconst X26.here hx rfl (hb hby d13_134) hr) ?_
      show OwnR _ _ _ _ _ _ _ (T26.setTop (mkF m 135 #[.val (.ref rel), .val (.int (Int32.ofNat fi)), .val (.int (Int32.ofNat ti)), .val (.int (own_bs (M fi) ti)), .val (.ref bw), .val (.int (Int32.ofNat (own_sz (M fi)))), .val (.int (1 : Int32)), .val (.int (Int32.ofNat (own_cnt (M fi) ti))), .unset] [(.long (1 : Int64)), (.long pq), (.ref rel)]))
      refine OwnR.of (fun _ hr => XS.ladd X26.here hx rfl (hb hby d13_135) rfl hr) ?_
      show OwnR _ _ _ _ _ _ _ (T26.setTop (mkF m 136 #[.val (.ref rel), .val (.int (Int32.ofNat fi)), .val (.int (Int32.ofNat ti)), .val (.int (own_bs (M fi) ti)), .val (.ref bw), .val (.int (Int32.ofNat (own_sz (M fi)))), .val (.int (1 : Int32)), .val (.int (Int32.ofNat (own_cnt (M fi) ti))), .unset] [(.long (pq + (1 : Int64))), (.ref rel)]))
      obtain ⟨T27, h27, X27, e27, W27, st27⟩ := putF X26 hx hZ hown (host := "") (Or.inl (hw _ (List.mem_of_getElem? (i := 108) rfl))) Via.refl e26 (Fld.other W25 (Fld.other W23 (F_pairCount_rel.keep Kp22 (ninS n_4 nin0)) (Or.inl n_4)) (Or.inl n_2)) (Exa.keep E_rel K25) (Or.inl (hw _ (List.mem_of_getElem? (i := 109) rfl))) (hw _ (List.mem_of_getElem? (i := 5) rfl)) (ty := .long) (by decide) rfl rfl (g := (mkF m 136 #[.val (.ref rel), .val (.int (Int32.ofNat fi)), .val (.int (Int32.ofNat ti)), .val (.int (own_bs (M fi) ti)), .val (.ref bw), .val (.int (Int32.ofNat (own_sz (M fi)))), .val (.int (1 : Int32)), .val (.int (Int32.ofNat (own_cnt (M fi) ti))), .unset] [(.long (pq + (1 : Int64))), (.ref rel)])) rfl rfl (hb hby d13_136)
      refine OwnR.of (st27) ?_
      have F27 := Fld.same W27 (Fld.other W25 (Fld.other W23 (F_pairCount_rel.keep Kp22 (ninS n_4 nin0)) (Or.inl n_4)) (Or.inl n_2))
      have K27 : Keep h0 h27 [rel, ro, rz, bw] := Keep.wr K25 W27 (Or.inl (List.mem_of_getElem? (i := 0) rfl))
      have N27 := Fr.snoc X27 N25 g_rel
      show OwnR _ _ _ _ _ _ _ (T27.setTop (mkF m 139 #[.val (.ref rel), .val (.int (Int32.ofNat fi)), .val (.int (Int32.ofNat ti)), .val (.int (own_bs (M fi) ti)), .val (.ref bw), .val (.int (Int32.ofNat (own_sz (M fi)))), .val (.int (1 : Int32)), .val (.int (Int32.ofNat (own_cnt (M fi) ti))), .unset] []))
      refine OwnR.of (fun _ hr => XS.iload X27.here hx rfl (hb hby d13_139) rfl hr) ?_
      show OwnR _ _ _ _ _ _ _ (T27.setTop (mkF m 141 #[.val (.ref rel), .val (.int (Int32.ofNat fi)), .val (.int (Int32.ofNat ti)), .val (.int (own_bs (M fi) ti)), .val (.ref bw), .val (.int (Int32.ofNat (own_sz (M fi)))), .val (.int (1 : Int32)), .val (.int (Int32.ofNat (own_cnt (M fi) ti))), .unset] [(.int (1 : Int32))]))
      refine own_leafN X27 hx hlk (t := .boolean) Bd.returns (by simp) (hb hby d13_141) (z' := (1 : Int32)) rfl (by decide) (by decide) ?_
      show QAdd Z rel em ro rz kW kS n M fi ti bw h0 n0 _ T27.heap _
      rw [show T27.heap = h27 from e27]
      refine ⟨(fun i => if i = fi then bw else B i), (pq + (1 : Int64)), ?_, N27, ⟨K27, (Exa.keep E_rel K27), (Fld.other W27 (Fld.other W25 (Fld.other W23 (F_rows_rel.keep Kp22 (ninS n_4 nin0)) (Or.inl n_4)) (Or.inl n_2)) (Or.inr (slot_ne (Or.inr (hw _ (List.mem_of_getElem? (i := 16) rfl))) (Or.inl (hw _ (List.mem_of_getElem? (i := 109) rfl))) (by decide) (t := (.array (.array .int))) (t' := .long) (by decide) (by decide)))), (Fld.other W27 (Fld.other W25 (Fld.other W23 (F_rowSizes_rel.keep Kp22 (ninS n_4 nin0)) (Or.inl n_4)) (Or.inl n_2)) (Or.inr (slot_ne (Or.inr (hw _ (List.mem_of_getElem? (i := 26) rfl))) (Or.inl (hw _ (List.mem_of_getElem? (i := 109) rfl))) (by decide) (t := (.array .int)) (t' := .long) (by decide) (by decide)))), F27, (OwnRel.upd RR OO hf K27 hbw (OwnF.congr (OwnF.other (OwnF.other (OwnF.other (OwnF.keep RR.1 Kp22 (ninS n_5 nin0)) W23 n_5) W25 n_3) W27 (Ne.symm n_1)) fun i _ => own_ifB hbe i) (OwnF.other FS W27 (Ne.symm n_2)) (OwnF.other (OwnF.other FD W25 (Ne.symm n_6)) W27 (Ne.symm n_4)) b4 hszn (hbe ▸ hBr : rz < bw) (Or.inl hbe.symm))⟩⟩
      show (some (.int (1 : Int32)) : Option Value) = some (.int (own_bi (!(M fi).testBit ti)))
      rw [hbit]
      rfl
theorem own_oD {n0 em ea rel ro rz : Nat} {D : Nat → Nat} (O : OwnO n0 em ea D rel ro rz) {i : Nat} (hi : i < 3) : rel ≠ D i ∧ n0 ≤ D i := by
  obtain ⟨h1, h2, h3, h4, h5, h6, h7⟩ := O
  have := h4 i hi
  exact ⟨by omega, by omega⟩
theorem ef_rmEdge (m : MethodId) (x0 : Addr) (x1 : Addr) (x3 : Int32) : entryFrame m #[(.ref x0), (.ref x1), (.int (Int32.ofNat n)), (.int x3)] 6 = mkF m 0 #[.val (.ref x0), .val (.ref x1), .val (.int (Int32.ofNat n)), .val (.int x3), .unset, .unset] [] := by first | (simp [entryFrame, mkF, argsToLocals, Value.category]; done) | rfl
theorem d4_0 : decode method_3_code 0 = .ok (.iload_n 3, 1) := by decide +kernel
theorem d4_1 : decode method_3_code 1 = .ok (.ldc 33, 2) := by decide +kernel
theorem d4_3 : decode method_3_code 3 = .ok (.iand, 1) := by decide +kernel
theorem d4_4 : decode method_3_code 4 = .ok (.ifCond .eq 41, 3) := by decide +kernel
theorem d4_45 : decode method_3_code 45 = .ok (.return_, 1) := by decide +kernel
theorem d4_7 : decode method_3_code 7 = .ok (.iload_n 3, 1) := by decide +kernel
theorem d4_8 : decode method_3_code 8 = .ok (.sipush 255, 3) := by decide +kernel
theorem d4_11 : decode method_3_code 11 = .ok (.iand, 1) := by decide +kernel
theorem d4_12 : decode method_3_code 12 = .ok (.iload_n 2, 1) := by decide +kernel
theorem d4_13 : decode method_3_code 13 = .ok (.irem, 1) := by decide +kernel
theorem d4_14 : decode method_3_code 14 = .ok (.istore 4, 2) := by decide +kernel
theorem d4_16 : decode method_3_code 16 = .ok (.iload_n 3, 1) := by decide +kernel
theorem d4_17 : decode method_3_code 17 = .ok (.bipush 8, 2) := by decide +kernel
theorem d4_19 : decode method_3_code 19 = .ok (.iushr, 1) := by decide +kernel
theorem d4_20 : decode method_3_code 20 = .ok (.sipush 255, 3) := by decide +kernel
theorem d4_23 : decode method_3_code 23 = .ok (.iand, 1) := by decide +kernel
theorem d4_24 : decode method_3_code 24 = .ok (.iload_n 2, 1) := by decide +kernel
theorem d4_25 : decode method_3_code 25 = .ok (.irem, 1) := by decide +kernel
theorem d4_26 : decode method_3_code 26 = .ok (.istore 5, 2) := by decide +kernel
theorem d4_28 : decode method_3_code 28 = .ok (.aload_n 0, 1) := by decide +kernel
theorem d4_29 : decode method_3_code 29 = .ok (.iload 4, 2) := by decide +kernel
theorem d4_31 : decode method_3_code 31 = .ok (.iload 5, 2) := by decide +kernel
theorem d4_33 : decode method_3_code 33 = .ok (.invokevirtual 34, 3) := by decide +kernel
theorem pd__II_Z : parseMethodDescriptor "(II)Z" = some ⟨[.int, .int], some .boolean⟩ := by decide +kernel
theorem d4_36 : decode method_3_code 36 = .ok (.pop, 1) := by decide +kernel
theorem d4_37 : decode method_3_code 37 = .ok (.aload_n 1, 1) := by decide +kernel
theorem d4_38 : decode method_3_code 38 = .ok (.iload 4, 2) := by decide +kernel
theorem d4_40 : decode method_3_code 40 = .ok (.aaload, 1) := by decide +kernel
theorem d4_41 : decode method_3_code 41 = .ok (.iload 5, 2) := by decide +kernel
theorem d4_43 : decode method_3_code 43 = .ok (.iconst 1, 1) := by decide +kernel
theorem d4_44 : decode method_3_code 44 = .ok (.bastore, 1) := by decide +kernel
def QEdge (Z : State) (rel : Addr) (ea : Addr) (em : Addr) (ro : Addr) (rz : Addr) (kW : ClassId) (kS : ClassId) (n : Nat) (kE : ClassId) (D : Nat → Addr) (kD : Nat → ClassId) (h0 : Heap) (n0 : Nat) (v : Option Value) (h : Heap) (L : List Loc) : Prop := ∃ (M2 : Nat → Nat) (B2 : Nat → Addr) (pq2 : Int64), v = none ∧ Fr n0 L ∧ Exa Z h rel "com/example/fast_taxonomy/fasttaxonomy/taxonomy/Relation" ∧ Fld Z h rel "com/example/fast_taxonomy/fasttaxonomy/taxonomy/Relation" "rows" "[[I" (.ref ro) ∧ Fld Z h rel "com/example/fast_taxonomy/fasttaxonomy/taxonomy/Relation" "rowSizes" "[I" (.ref rz) ∧ Fld Z h rel "com/example/fast_taxonomy/fasttaxonomy/taxonomy/Relation" "pairCount" "J" (.long pq2) ∧ OwnRel Z h em ro rz kW kS n M2 B2 ∧ OwnE Z h ea kE D kD M2 ∧ (∀ i, M2 i < 2 ^ n) ∧ (∀ i, n ≤ i → M2 i = 0) ∧ h0.size ≤ h.size
set_option maxRecDepth 65536 in
set_option maxHeartbeats 40000000 in
theorem rmEdge (l : Launch) (Z : State) (a0 : Array Value) (hw : ∀ d ∈ tables_1, d.before a0 Z = true) (ws : List Jvm.Cond) (rel : Addr) (ea : Addr) (xv : Int32) (em ro rz : Addr) (kW kS : ClassId) (n : Nat) (M : Nat → Nat) (B : Nat → Addr) (pq : Int64) (kE : ClassId) (D : Nat → Addr) (kD : Nat → ClassId) (h0 : Heap) (n0 : Nat) (Z0 : n0 ≤ h0.size) (E_rel : Exa Z h0 rel "com/example/fast_taxonomy/fasttaxonomy/taxonomy/Relation") (F_rows_rel : Fld Z h0 rel "com/example/fast_taxonomy/fasttaxonomy/taxonomy/Relation" "rows" "[[I" (.ref ro)) (F_rowSizes_rel : Fld Z h0 rel "com/example/fast_taxonomy/fasttaxonomy/taxonomy/Relation" "rowSizes" "[I" (.ref rz)) (F_pairCount_rel : Fld Z h0 rel "com/example/fast_taxonomy/fasttaxonomy/taxonomy/Relation" "pairCount" "J" (.long pq)) (RR : OwnRel Z h0 em ro rz kW kS n M B) (hn4 : n < 4) (hM : ∀ i, M i < 2 ^ n) (hz : ∀ i, n ≤ i → M i = 0) (hn : 0 < n) (OO : OwnO n0 em ea D rel ro rz) (Ov : OvrA Z kW .int "[I") (EE : OwnE Z h0 ea kE D kD M) :
    MetFree l (⟨"com/example/fast_taxonomy/fasttaxonomy/taxonomy/RelationTopologicalOrderPinLaw", "addEdge", "(Lcom/example/fast_taxonomy/fasttaxonomy/taxonomy/Relation;[[ZII)V"⟩ : MethodName) (head1 (Jvm.Cond.code (⟨"com/example/fast_taxonomy/fasttaxonomy/taxonomy/RelationTopologicalOrderPinLaw", "addEdge", "(Lcom/example/fast_taxonomy/fasttaxonomy/taxonomy/Relation;[[ZII)V"⟩ : MethodName) method_3_code 6 none :: ws) ({ frames := 5, cells := 1, slots := 3, locals := 115 } : Room)) (fun a U => a = #[(.ref rel), (.ref ea), (.int (Int32.ofNat n)), (.int xv)] ∧ Z.Warmed39 U.vm ∧ U.heap = h0) (fun _ _ _ _ _ => True) (fun _ U o U' => ∃ v L, o = .returned v ∧ QEdge Z rel ea em ro rz kW kS n kE D kD h0 n0 v U'.heap L ∧ FrameEnd U o U' L ({ frames := 5, cells := 1, slots := 3, locals := 115 } : Room).cells ({ frames := 5, cells := 1, slots := 3, locals := 115 } : Room).slots) := by
  refine MetFree.of_bodySF (plainFor_of_name pn_com_example_fast_taxonomy_fasttaxonomy_taxonomy_RelationTopologicalOrderPinLaw) hisR ?_
  intro p e s m args below meth c s₁ Bd hml0 hP hK
  obtain ⟨rfl, hZ, hh⟩ := hP
  have hx := Bd.exec
  have hby := Bd.bytes
  have hlk := BodyLoose.notSynchronized Bd
  have hml : c.maxLocals = 6 := hml0
  have hown : s.vm.findClass "com/example/fast_taxonomy/fasttaxonomy/taxonomy/RelationTopologicalOrderPinLaw" = some m.cls := findClass_of_methodNamed Bd.named
  have hnm := (name_of_methodNamed Bd.named Bd.method).1
  have X0 : Stand p l e ({ frames := 5, cells := 1, slots := 3, locals := 115 } : Room) s m #[(.ref rel), (.ref ea), (.int (Int32.ofNat n)), (.int xv)] below meth c s₁ [] 0 0 := Stand.of_body Bd
  have e0 : s₁.heap = h0 := by rw [← hh, Bd.state]; rfl
  have N0 := Fr.nil n0
  refine OwnR.of (s := s) (Q := QEdge Z rel ea em ro rz kW kS n kE D kD h0 n0) (fun t k => castTop (ef_rmEdge m rel ea xv) k) ?_
  show OwnR _ _ _ _ _ _ _ (s₁.setTop (mkF m 0 #[.val (.ref rel), .val (.ref ea), .val (.int (Int32.ofNat n)), .val (.int xv), .unset, .unset] []))
  have hnz := own_nz4 hn hn4
  refine OwnR.of (fun _ hr => XS.iloadN X0.here hx rfl (hb hby d4_0) rfl hr) ?_
  show OwnR _ _ _ _ _ _ _ (s₁.setTop (mkF m 1 #[.val (.ref rel), .val (.ref ea), .val (.int (Int32.ofNat n)), .val (.int xv), .unset, .unset] [(.int xv)]))
  refine OwnR.of (X0.ldcInt hx hown (mvT hZ (hw _ (List.mem_of_getElem? (i := 31) rfl))) (g := (mkF m 1 #[.val (.ref rel), .val (.ref ea), .val (.int (Int32.ofNat n)), .val (.int xv), .unset, .unset] [(.int xv)])) rfl (hb hby d4_1)) ?_
  show OwnR _ _ _ _ _ _ _ (s₁.setTop (mkF m 3 #[.val (.ref rel), .val (.ref ea), .val (.int (Int32.ofNat n)), .val (.int xv), .unset, .unset] [(.int (65536 : Int32)), (.int xv)]))
  refine OwnR.of (fun _ hr => XS.iand X0.here hx rfl (hb hby d4_3) rfl hr) ?_
  show OwnR _ _ _ _ _ _ _ (s₁.setTop (mkF m 4 #[.val (.ref rel), .val (.ref ea), .val (.int (Int32.ofNat n)), .val (.int xv), .unset, .unset] [(.int (xv &&& (65536 : Int32)))]))
  by_cases hc4_1 : (xv &&& (65536 : Int32)) = (0 : Int32)
  · skip
    refine OwnR.of (fun _ hr => XS.ifYes X0.here hx rfl (pc0 := 4) (pc' := 45) rfl (hb hby d4_4) rfl ((if0 _ _).trans (teq hc4_1).1) (by decide) (by decide) hr) ?_
    show OwnR _ _ _ _ _ _ _ (s₁.setTop (mkF m 45 #[.val (.ref rel), .val (.ref ea), .val (.int (Int32.ofNat n)), .val (.int xv), .unset, .unset] []))
    refine own_leafV X0 hx hlk Bd.returns (hb hby d4_45) (by decide) (by decide) ?_
    show QEdge Z rel ea em ro rz kW kS n kE D kD h0 n0 _ s₁.heap _
    rw [show s₁.heap = h0 from e0]
    refine ⟨M, B, pq, rfl, N0, ⟨E_rel, F_rows_rel, F_rowSizes_rel, F_pairCount_rel, RR, EE, hM, hz, (Keep.refl h0 []).1⟩⟩
  · skip
    refine OwnR.of (fun _ hr => XS.ifNo X0.here hx rfl (hb hby d4_4) rfl ((if0 _ _).trans (feq hc4_1).1) hr) ?_
    show OwnR _ _ _ _ _ _ _ (s₁.setTop (mkF m 7 #[.val (.ref rel), .val (.ref ea), .val (.int (Int32.ofNat n)), .val (.int xv), .unset, .unset] []))
    refine OwnR.of (fun _ hr => XS.iloadN X0.here hx rfl (hb hby d4_7) rfl hr) ?_
    show OwnR _ _ _ _ _ _ _ (s₁.setTop (mkF m 8 #[.val (.ref rel), .val (.ref ea), .val (.int (Int32.ofNat n)), .val (.int xv), .unset, .unset] [(.int xv)]))
    refine OwnR.of (fun _ hr => XS.sipush X0.here hx rfl (hb hby d4_8) hr) ?_
    show OwnR _ _ _ _ _ _ _ (s₁.setTop (mkF m 11 #[.val (.ref rel), .val (.ref ea), .val (.int (Int32.ofNat n)), .val (.int xv), .unset, .unset] [(.int (255 : Int32)), (.int xv)]))
    refine OwnR.of (fun _ hr => XS.iand X0.here hx rfl (hb hby d4_11) rfl hr) ?_
    show OwnR _ _ _ _ _ _ _ (s₁.setTop (mkF m 12 #[.val (.ref rel), .val (.ref ea), .val (.int (Int32.ofNat n)), .val (.int xv), .unset, .unset] [(.int (xv &&& (255 : Int32)))]))
    refine OwnR.of (fun _ hr => XS.iloadN X0.here hx rfl (hb hby d4_12) rfl hr) ?_
    show OwnR _ _ _ _ _ _ _ (s₁.setTop (mkF m 13 #[.val (.ref rel), .val (.ref ea), .val (.int (Int32.ofNat n)), .val (.int xv), .unset, .unset] [(.int (Int32.ofNat n)), (.int (xv &&& (255 : Int32)))]))
    refine OwnR.of (fun _ hr => iremM X0 hx rfl (hb hby d4_13) rfl hnz hr) ?_
    show OwnR _ _ _ _ _ _ _ (s₁.setTop (mkF m 14 #[.val (.ref rel), .val (.ref ea), .val (.int (Int32.ofNat n)), .val (.int xv), .unset, .unset] [(.int ((xv &&& (255 : Int32)) % (Int32.ofNat n)))]))
    obtain ⟨fi, hf, hqfi⟩ := own_fromto hn hn4 xv
    rw [hqfi]
    show OwnR _ _ _ _ _ _ _ (s₁.setTop (mkF m 14 #[.val (.ref rel), .val (.ref ea), .val (.int (Int32.ofNat n)), .val (.int xv), .unset, .unset] [(.int (Int32.ofNat fi))]))
    refine OwnR.of (fun _ hr => XS.istore X0.here hx rfl (hb hby d4_14) rfl (l' := #[.val (.ref rel), .val (.ref ea), .val (.int (Int32.ofNat n)), .val (.int xv), .val (.int (Int32.ofNat fi)), .unset]) rfl hr) ?_
    show OwnR _ _ _ _ _ _ _ (s₁.setTop (mkF m 16 #[.val (.ref rel), .val (.ref ea), .val (.int (Int32.ofNat n)), .val (.int xv), .val (.int (Int32.ofNat fi)), .unset] []))
    refine OwnR.of (fun _ hr => XS.iloadN X0.here hx rfl (hb hby d4_16) rfl hr) ?_
    show OwnR _ _ _ _ _ _ _ (s₁.setTop (mkF m 17 #[.val (.ref rel), .val (.ref ea), .val (.int (Int32.ofNat n)), .val (.int xv), .val (.int (Int32.ofNat fi)), .unset] [(.int xv)]))
    refine OwnR.of (fun _ hr => XS.bipush X0.here hx rfl (hb hby d4_17) hr) ?_
    show OwnR _ _ _ _ _ _ _ (s₁.setTop (mkF m 19 #[.val (.ref rel), .val (.ref ea), .val (.int (Int32.ofNat n)), .val (.int xv), .val (.int (Int32.ofNat fi)), .unset] [(.int (8 : Int32)), (.int xv)]))
    refine OwnR.of (fun _ hr => XS.iushr X0.here hx rfl (hb hby d4_19) rfl hr) ?_
    show OwnR _ _ _ _ _ _ _ (s₁.setTop (mkF m 20 #[.val (.ref rel), .val (.ref ea), .val (.int (Int32.ofNat n)), .val (.int xv), .val (.int (Int32.ofNat fi)), .unset] [(.int ((xv.toUInt32 >>> ((8 : Int32) &&& 31).toUInt32).toInt32))]))
    refine OwnR.of (fun _ hr => XS.sipush X0.here hx rfl (hb hby d4_20) hr) ?_
    show OwnR _ _ _ _ _ _ _ (s₁.setTop (mkF m 23 #[.val (.ref rel), .val (.ref ea), .val (.int (Int32.ofNat n)), .val (.int xv), .val (.int (Int32.ofNat fi)), .unset] [(.int (255 : Int32)), (.int ((xv.toUInt32 >>> ((8 : Int32) &&& 31).toUInt32).toInt32))]))
    refine OwnR.of (fun _ hr => XS.iand X0.here hx rfl (hb hby d4_23) rfl hr) ?_
    show OwnR _ _ _ _ _ _ _ (s₁.setTop (mkF m 24 #[.val (.ref rel), .val (.ref ea), .val (.int (Int32.ofNat n)), .val (.int xv), .val (.int (Int32.ofNat fi)), .unset] [(.int (((xv.toUInt32 >>> ((8 : Int32) &&& 31).toUInt32).toInt32) &&& (255 : Int32)))]))
    refine OwnR.of (fun _ hr => XS.iloadN X0.here hx rfl (hb hby d4_24) rfl hr) ?_
    show OwnR _ _ _ _ _ _ _ (s₁.setTop (mkF m 25 #[.val (.ref rel), .val (.ref ea), .val (.int (Int32.ofNat n)), .val (.int xv), .val (.int (Int32.ofNat fi)), .unset] [(.int (Int32.ofNat n)), (.int (((xv.toUInt32 >>> ((8 : Int32) &&& 31).toUInt32).toInt32) &&& (255 : Int32)))]))
    refine OwnR.of (fun _ hr => iremM X0 hx rfl (hb hby d4_25) rfl hnz hr) ?_
    show OwnR _ _ _ _ _ _ _ (s₁.setTop (mkF m 26 #[.val (.ref rel), .val (.ref ea), .val (.int (Int32.ofNat n)), .val (.int xv), .val (.int (Int32.ofNat fi)), .unset] [(.int ((((xv.toUInt32 >>> ((8 : Int32) &&& 31).toUInt32).toInt32) &&& (255 : Int32)) % (Int32.ofNat n)))]))
    obtain ⟨ti, ht, hqti⟩ := own_fromto hn hn4 ((xv.toUInt32 >>> ((8 : Int32) &&& 31).toUInt32).toInt32)
    rw [hqti]
    show OwnR _ _ _ _ _ _ _ (s₁.setTop (mkF m 26 #[.val (.ref rel), .val (.ref ea), .val (.int (Int32.ofNat n)), .val (.int xv), .val (.int (Int32.ofNat fi)), .unset] [(.int (Int32.ofNat ti))]))
    refine OwnR.of (fun _ hr => XS.istore X0.here hx rfl (hb hby d4_26) rfl (l' := #[.val (.ref rel), .val (.ref ea), .val (.int (Int32.ofNat n)), .val (.int xv), .val (.int (Int32.ofNat fi)), .val (.int (Int32.ofNat ti))]) rfl hr) ?_
    show OwnR _ _ _ _ _ _ _ (s₁.setTop (mkF m 28 #[.val (.ref rel), .val (.ref ea), .val (.int (Int32.ofNat n)), .val (.int xv), .val (.int (Int32.ofNat fi)), .val (.int (Int32.ofNat ti))] []))
    refine OwnR.of (fun _ hr => XS.aloadN X0.here hx rfl (hb hby d4_28) rfl rfl hr) ?_
    show OwnR _ _ _ _ _ _ _ (s₁.setTop (mkF m 29 #[.val (.ref rel), .val (.ref ea), .val (.int (Int32.ofNat n)), .val (.int xv), .val (.int (Int32.ofNat fi)), .val (.int (Int32.ofNat ti))] [(.ref rel)]))
    refine OwnR.of (fun _ hr => XS.iload X0.here hx rfl (hb hby d4_29) rfl hr) ?_
    show OwnR _ _ _ _ _ _ _ (s₁.setTop (mkF m 31 #[.val (.ref rel), .val (.ref ea), .val (.int (Int32.ofNat n)), .val (.int xv), .val (.int (Int32.ofNat fi)), .val (.int (Int32.ofNat ti))] [(.int (Int32.ofNat fi)), (.ref rel)]))
    refine OwnR.of (fun _ hr => XS.iload X0.here hx rfl (hb hby d4_31) rfl hr) ?_
    show OwnR _ _ _ _ _ _ _ (s₁.setTop (mkF m 33 #[.val (.ref rel), .val (.ref ea), .val (.int (Int32.ofNat n)), .val (.int xv), .val (.int (Int32.ofNat fi)), .val (.int (Int32.ofNat ti))] [(.int (Int32.ofNat ti)), (.int (Int32.ofNat fi)), (.ref rel)]))
    obtain ⟨cq2, kq2, q2a, q2b, q2c⟩ := isOf hZ e0 E_rel
    obtain ⟨_, _, ⟨T2, L2, kc2, ns2⟩, -, X2, ⟨Lc2, hQ2, l2, y2, z2⟩, st2⟩ := X0.virtualBack hx (y := (⟨"com/example/fast_taxonomy/fasttaxonomy/taxonomy/Relation", "add", "(II)Z"⟩ : MethodName)) (z := (⟨"com/example/fast_taxonomy/fasttaxonomy/taxonomy/Relation", "add", "(II)Z"⟩ : MethodName)) hown (mvT hZ (hw _ (List.mem_of_getElem? (i := 58) rfl))) (mvT hZ (hw _ (List.mem_of_getElem? (i := 59) rfl))) (notFace_of_selects (args := #[]) (mvT hZ (hw _ (List.mem_of_getElem? (i := 61) rfl)))) (mvT hZ (hw _ (List.mem_of_getElem? (i := 61) rfl))) (mvT hZ (hw _ (List.mem_of_getElem? (i := 60) rfl))) (by decide) (backOf (W := 0) (rmAdd l Z a0 hw [] rel em ro rz kW kS n M B fi ti pq (own_bw rz (B fi)) h0 n0 (Nat.le_trans Z0 (Keep.refl h0 []).1) E_rel F_rows_rel F_rowSizes_rel F_pairCount_rel RR hn4 hM hn hf ht (OwnO.r OO) Ov rfl) hZ (hw _ (List.mem_of_getElem? (i := 62) rfl)) (hw _ (List.mem_of_getElem? (i := 6) rfl)) (by decide) (by decide)) q2a q2c (g := (mkF m 33 #[.val (.ref rel), .val (.ref ea), .val (.int (Int32.ofNat n)), .val (.int xv), .val (.int (Int32.ofNat fi)), .val (.int (Int32.ofNat ti))] [(.int (Int32.ofNat ti)), (.int (Int32.ofNat fi)), (.ref rel)])) rfl (by rw [hml]; rfl) (Steps.refl _) (argsL := [(.int (Int32.ofNat fi)), (.int (Int32.ofNat ti))]) (rest := []) (lenOf pd__II_Z rfl) rfl (by show 2 * 0 + _ ≤ _; exact Nat.le_of_eq rfl) (hb hby d4_33) (fun _ _ => ⟨rfl, e0, (by decide : 0 + 1 ≤ _), (by decide : 0 + 3 ≤ _)⟩)
    dsimp only [Pt.U, Pt.locs, Pt.cells, Pt.slots] at X2 l2 y2 z2 st2 hQ2
    rw [l2, y2, z2] at X2
    obtain ⟨B2_2, pq2_2, rfl, N2q, P2_0, P2_1, P2_2, P2_3, P2_4, P2_5⟩ := hQ2
    have K2 : h0.size ≤ T2.heap.size ∧ True := ⟨Nat.le_trans (Keep.refl h0 []).1 P2_0.1, trivial⟩
    have N2 := Fr.app N0 N2q
    refine OwnR.of (fun _ hr => st2.trans hr) ?_
    show OwnR _ _ _ _ _ _ _ (T2.setTop (mkF m 36 #[.val (.ref rel), .val (.ref ea), .val (.int (Int32.ofNat n)), .val (.int xv), .val (.int (Int32.ofNat fi)), .val (.int (Int32.ofNat ti))] [(.int (own_bi (!(M fi).testBit ti)))]))
    have hf3 := own_lt3 hf hn4
    have ht3 := own_lt3 ht hn4
    have EE2 := OwnE.keepA EE OO P2_0 (own_bw_ge _ _)
    obtain ⟨n_D, g_D⟩ := own_oD OO hf3
    refine OwnR.of (fun _ hr => XS.pop X2.here hx rfl (hb hby d4_36) rfl rfl hr) ?_
    show OwnR _ _ _ _ _ _ _ (T2.setTop (mkF m 37 #[.val (.ref rel), .val (.ref ea), .val (.int (Int32.ofNat n)), .val (.int xv), .val (.int (Int32.ofNat fi)), .val (.int (Int32.ofNat ti))] []))
    refine OwnR.of (fun _ hr => XS.aloadN X2.here hx rfl (hb hby d4_37) rfl rfl hr) ?_
    show OwnR _ _ _ _ _ _ _ (T2.setTop (mkF m 38 #[.val (.ref rel), .val (.ref ea), .val (.int (Int32.ofNat n)), .val (.int xv), .val (.int (Int32.ofNat fi)), .val (.int (Int32.ofNat ti))] [(.ref ea)]))
    refine OwnR.of (fun _ hr => XS.iload X2.here hx rfl (hb hby d4_38) rfl hr) ?_
    show OwnR _ _ _ _ _ _ _ (T2.setTop (mkF m 40 #[.val (.ref rel), .val (.ref ea), .val (.int (Int32.ofNat n)), .val (.int xv), .val (.int (Int32.ofNat fi)), .val (.int (Int32.ofNat ti))] [(.int (Int32.ofNat fi)), (.ref ea)]))
    refine OwnR.of (own_aaload rfl X2 hx hZ rfl EE2.1 (own_cN hf hn4) (own_nN hf hn4) hf3 (v := .ref (D fi)) rfl (g := (mkF m 40 #[.val (.ref rel), .val (.ref ea), .val (.int (Int32.ofNat n)), .val (.int xv), .val (.int (Int32.ofNat fi)), .val (.int (Int32.ofNat ti))] [(.int (Int32.ofNat fi)), (.ref ea)])) rfl rfl (hb hby d4_40)) ?_
    show OwnR _ _ _ _ _ _ _ (T2.setTop (mkF m 41 #[.val (.ref rel), .val (.ref ea), .val (.int (Int32.ofNat n)), .val (.int xv), .val (.int (Int32.ofNat fi)), .val (.int (Int32.ofNat ti))] [(.ref (D fi))]))
    refine OwnR.of (fun _ hr => XS.iload X2.here hx rfl (hb hby d4_41) rfl hr) ?_
    show OwnR _ _ _ _ _ _ _ (T2.setTop (mkF m 43 #[.val (.ref rel), .val (.ref ea), .val (.int (Int32.ofNat n)), .val (.int xv), .val (.int (Int32.ofNat fi)), .val (.int (Int32.ofNat ti))] [(.int (Int32.ofNat ti)), (.ref (D fi))]))
    refine OwnR.of (fun _ hr => XS.iconst X2.here hx rfl (hb hby d4_43) hr) ?_
    show OwnR _ _ _ _ _ _ _ (T2.setTop (mkF m 44 #[.val (.ref rel), .val (.ref ea), .val (.int (Int32.ofNat n)), .val (.int xv), .val (.int (Int32.ofNat fi)), .val (.int (Int32.ofNat ti))] [(.int (1 : Int32)), (.int (Int32.ofNat ti)), (.ref (D fi))]))
    obtain ⟨T3, h3, X3, e3, W3, st3⟩ := own_zastore X2 hx hZ rfl (EE2.2 fi hf3) (own_cN ht hn4) (own_nN ht hn4) ht3 (g := (mkF m 44 #[.val (.ref rel), .val (.ref ea), .val (.int (Int32.ofNat n)), .val (.int xv), .val (.int (Int32.ofNat fi)), .val (.int (Int32.ofNat ti))] [(.int (1 : Int32)), (.int (Int32.ofNat ti)), (.ref (D fi))])) rfl rfl (hb hby d4_44)
    refine OwnR.of (st3) ?_
    have EE3 := OwnE.set EE2 OO hf3 ht3 (own_p8 hn4 (hM fi)) W3
    have RR3 := OwnRel.wrD P2_5 OO hf3 W3
    have K3 : h0.size ≤ h3.size ∧ True := ⟨Nat.le_trans K2.1 (Nat.le_of_eq (Wr.size W3).symm), trivial⟩
    have N3 := Fr.snoc X3 N2 g_D
    show OwnR _ _ _ _ _ _ _ (T3.setTop (mkF m 45 #[.val (.ref rel), .val (.ref ea), .val (.int (Int32.ofNat n)), .val (.int xv), .val (.int (Int32.ofNat fi)), .val (.int (Int32.ofNat ti))] []))
    refine own_leafV X3 hx hlk Bd.returns (hb hby d4_45) (by decide) (by decide) ?_
    show QEdge Z rel ea em ro rz kW kS n kE D kD h0 n0 _ T3.heap _
    rw [show T3.heap = h3 from e3]
    refine ⟨(own_upd M fi ti), B2_2, pq2_2, rfl, N3, ⟨(Exa.wr W3 P2_1), (Fld.other W3 P2_2 (Or.inl n_D)), (Fld.other W3 P2_3 (Or.inl n_D)), (Fld.other W3 P2_4 (Or.inl n_D)), RR3, EE3, (fun i => own_upd_lt hn4 hM ht i), (fun i hi => own_upd_z hz hf i hi), K3.1⟩⟩
theorem own_incF {qa : List Int32} {x n : Nat} (hx : x < n) (hl : qa.length = n) (j : Nat) : (if j = x then Value.int (qa.getD x 0 + (1 : Int32)) else .int (qa.getD j 0)) = .int ((own_inc qa x).getD j 0) := by
  unfold own_inc; rw [own_setD (by omega)]; split <;> rfl
theorem own_decF {qa : List Int32} {x n : Nat} (hx : x < n) (hl : qa.length = n) (j : Nat) : (if j = x then Value.int (qa.getD x 0 - (1 : Int32)) else .int (qa.getD j 0)) = .int ((own_dec qa x).getD j 0) := by
  unfold own_dec; rw [own_setD (by omega)]; split <;> rfl
theorem own_atF {o : List Nat} {r x n : Nat} (hr : r < n) (hl : o.length = n) (j : Nat) : (if j = r then Value.int (Int32.ofNat x) else .int (own_at o j)) = .int (own_at (o.set r x) j) := by
  unfold own_at; rw [own_setN (by omega)]; split <;> rfl
theorem own_at0 (n j : Nat) : own_at (List.replicate n 0) j = 0 := by unfold own_at; rw [own_rep]; rfl
theorem own_nl5 {a b : Nat} (h : ¬ a < b) (ha : a < 6) (hb : b < 4) : ¬ Int32.ofNat a < Int32.ofNat b := fun q => h ((own_ltn (by omega) (by omega)).mp q)
theorem own_f5 {a d : Nat} (h : a + d = 5) : a < 6 := by omega
theorem own_le4 {r n : Nat} (h : r ≤ n) (hn : n < 4) : r < 4 := by omega
theorem own_f20 {pl : List Int32} {i : Nat} {o O : List Nat} {r r2 : Nat} (h : own_f2 pl (List.range' i 0) o r = some (O, r2)) : o = O ∧ r = r2 := by
  have h' : some (o, r) = some (O, r2) := h
  cases h'; exact ⟨rfl, rfl⟩
theorem own_f40 {pl : List Int32} {i : Nat} {o O : List Nat} {r r2 : Nat} (h : own_f4 pl (List.range' i 0) o r = some (O, r2)) : o = O ∧ r = r2 := by
  have h' : some (o, r) = some (O, r2) := h
  cases h'; exact ⟨rfl, rfl⟩
theorem ef_rmTop (m : MethodId) (x0 : Addr) : entryFrame m #[(.ref x0)] 8 = mkF m 0 #[.val (.ref x0), .unset, .unset, .unset, .unset, .unset, .unset, .unset] [] := by first | (simp [entryFrame, mkF, argsToLocals, Value.category]; done) | rfl
theorem d5_0 : decode prog_24_method_13_code 0 = .ok (.aload_n 0, 1) := by decide +kernel
theorem d5_1 : decode prog_24_method_13_code 1 = .ok (.getfield 18, 3) := by decide +kernel
theorem d5_4 : decode prog_24_method_13_code 4 = .ok (.arraylength, 1) := by decide +kernel
theorem d5_5 : decode prog_24_method_13_code 5 = .ok (.newarray .int, 2) := by decide +kernel
theorem d5_7 : decode prog_24_method_13_code 7 = .ok (.astore_n 1, 1) := by decide +kernel
theorem d5_8 : decode prog_24_method_13_code 8 = .ok (.iconst 0, 1) := by decide +kernel
theorem d5_9 : decode prog_24_method_13_code 9 = .ok (.istore_n 2, 1) := by decide +kernel
theorem d5_10 : decode prog_24_method_13_code 10 = .ok (.iload_n 2, 1) := by decide +kernel
theorem d5_11 : decode prog_24_method_13_code 11 = .ok (.aload_n 0, 1) := by decide +kernel
theorem d5_12 : decode prog_24_method_13_code 12 = .ok (.getfield 18, 3) := by decide +kernel
theorem d5_15 : decode prog_24_method_13_code 15 = .ok (.arraylength, 1) := by decide +kernel
theorem d5_16 : decode prog_24_method_13_code 16 = .ok (.if_icmp .ge 41, 3) := by decide +kernel
theorem d5_57 : decode prog_24_method_13_code 57 = .ok (.aload_n 0, 1) := by decide +kernel
theorem d5_58 : decode prog_24_method_13_code 58 = .ok (.getfield 18, 3) := by decide +kernel
theorem d5_61 : decode prog_24_method_13_code 61 = .ok (.arraylength, 1) := by decide +kernel
theorem d5_62 : decode prog_24_method_13_code 62 = .ok (.newarray .int, 2) := by decide +kernel
theorem d5_64 : decode prog_24_method_13_code 64 = .ok (.astore_n 2, 1) := by decide +kernel
theorem d5_65 : decode prog_24_method_13_code 65 = .ok (.iconst 0, 1) := by decide +kernel
theorem d5_66 : decode prog_24_method_13_code 66 = .ok (.istore_n 3, 1) := by decide +kernel
theorem d5_67 : decode prog_24_method_13_code 67 = .ok (.iconst 0, 1) := by decide +kernel
theorem d5_68 : decode prog_24_method_13_code 68 = .ok (.istore 4, 2) := by decide +kernel
theorem d5_70 : decode prog_24_method_13_code 70 = .ok (.iload 4, 2) := by decide +kernel
theorem d5_72 : decode prog_24_method_13_code 72 = .ok (.aload_n 0, 1) := by decide +kernel
theorem d5_73 : decode prog_24_method_13_code 73 = .ok (.getfield 18, 3) := by decide +kernel
theorem d5_76 : decode prog_24_method_13_code 76 = .ok (.arraylength, 1) := by decide +kernel
theorem d5_77 : decode prog_24_method_13_code 77 = .ok (.if_icmp .ge 24, 3) := by decide +kernel
theorem d5_101 : decode prog_24_method_13_code 101 = .ok (.iconst 0, 1) := by decide +kernel
theorem d5_102 : decode prog_24_method_13_code 102 = .ok (.istore 4, 2) := by decide +kernel
theorem d5_104 : decode prog_24_method_13_code 104 = .ok (.iload 4, 2) := by decide +kernel
theorem d5_106 : decode prog_24_method_13_code 106 = .ok (.iload_n 3, 1) := by decide +kernel
theorem d5_107 : decode prog_24_method_13_code 107 = .ok (.if_icmp .ge 71, 3) := by decide +kernel
theorem d5_110 : decode prog_24_method_13_code 110 = .ok (.aload_n 2, 1) := by decide +kernel
theorem d5_111 : decode prog_24_method_13_code 111 = .ok (.iload 4, 2) := by decide +kernel
theorem d5_113 : decode prog_24_method_13_code 113 = .ok (.iaload, 1) := by decide +kernel
theorem d5_114 : decode prog_24_method_13_code 114 = .ok (.istore 5, 2) := by decide +kernel
theorem d5_116 : decode prog_24_method_13_code 116 = .ok (.iconst 0, 1) := by decide +kernel
theorem d5_117 : decode prog_24_method_13_code 117 = .ok (.istore 6, 2) := by decide +kernel
theorem d5_119 : decode prog_24_method_13_code 119 = .ok (.iload 6, 2) := by decide +kernel
theorem d5_121 : decode prog_24_method_13_code 121 = .ok (.aload_n 0, 1) := by decide +kernel
theorem d5_122 : decode prog_24_method_13_code 122 = .ok (.getfield 33, 3) := by decide +kernel
theorem d5_125 : decode prog_24_method_13_code 125 = .ok (.iload 5, 2) := by decide +kernel
theorem d5_127 : decode prog_24_method_13_code 127 = .ok (.iaload, 1) := by decide +kernel
theorem d5_128 : decode prog_24_method_13_code 128 = .ok (.if_icmp .ge 44, 3) := by decide +kernel
theorem d5_172 : decode prog_24_method_13_code 172 = .ok (.iinc 4 1, 3) := by decide +kernel
theorem d5_175 : decode prog_24_method_13_code 175 = .ok (.goto (-71), 3) := by decide +kernel
theorem d5_131 : decode prog_24_method_13_code 131 = .ok (.aload_n 0, 1) := by decide +kernel
theorem d5_132 : decode prog_24_method_13_code 132 = .ok (.getfield 18, 3) := by decide +kernel
theorem d5_135 : decode prog_24_method_13_code 135 = .ok (.iload 5, 2) := by decide +kernel
theorem d5_137 : decode prog_24_method_13_code 137 = .ok (.aaload, 1) := by decide +kernel
theorem d5_138 : decode prog_24_method_13_code 138 = .ok (.iload 6, 2) := by decide +kernel
theorem d5_140 : decode prog_24_method_13_code 140 = .ok (.iaload, 1) := by decide +kernel
theorem d5_141 : decode prog_24_method_13_code 141 = .ok (.istore 7, 2) := by decide +kernel
theorem d5_143 : decode prog_24_method_13_code 143 = .ok (.aload_n 1, 1) := by decide +kernel
theorem d5_144 : decode prog_24_method_13_code 144 = .ok (.iload 7, 2) := by decide +kernel
theorem d5_146 : decode prog_24_method_13_code 146 = .ok (.dup2, 1) := by decide +kernel
theorem d5_147 : decode prog_24_method_13_code 147 = .ok (.iaload, 1) := by decide +kernel
theorem d5_148 : decode prog_24_method_13_code 148 = .ok (.iconst 1, 1) := by decide +kernel
theorem d5_149 : decode prog_24_method_13_code 149 = .ok (.isub, 1) := by decide +kernel
theorem d5_150 : decode prog_24_method_13_code 150 = .ok (.iastore, 1) := by decide +kernel
theorem d5_151 : decode prog_24_method_13_code 151 = .ok (.aload_n 1, 1) := by decide +kernel
theorem d5_152 : decode prog_24_method_13_code 152 = .ok (.iload 7, 2) := by decide +kernel
theorem d5_154 : decode prog_24_method_13_code 154 = .ok (.iaload, 1) := by decide +kernel
theorem d5_155 : decode prog_24_method_13_code 155 = .ok (.ifCond .ne 11, 3) := by decide +kernel
theorem d5_158 : decode prog_24_method_13_code 158 = .ok (.aload_n 2, 1) := by decide +kernel
theorem d5_159 : decode prog_24_method_13_code 159 = .ok (.iload_n 3, 1) := by decide +kernel
theorem d5_160 : decode prog_24_method_13_code 160 = .ok (.iload 7, 2) := by decide +kernel
theorem d5_162 : decode prog_24_method_13_code 162 = .ok (.iastore, 1) := by decide +kernel
theorem d5_163 : decode prog_24_method_13_code 163 = .ok (.iinc 3 1, 3) := by decide +kernel
theorem d5_166 : decode prog_24_method_13_code 166 = .ok (.iinc 6 1, 3) := by decide +kernel
theorem d5_169 : decode prog_24_method_13_code 169 = .ok (.goto (-50), 3) := by decide +kernel
theorem d5_178 : decode prog_24_method_13_code 178 = .ok (.iconst 0, 1) := by decide +kernel
theorem d5_179 : decode prog_24_method_13_code 179 = .ok (.istore 4, 2) := by decide +kernel
theorem d5_181 : decode prog_24_method_13_code 181 = .ok (.iload 4, 2) := by decide +kernel
theorem d5_183 : decode prog_24_method_13_code 183 = .ok (.aload_n 0, 1) := by decide +kernel
theorem d5_184 : decode prog_24_method_13_code 184 = .ok (.getfield 18, 3) := by decide +kernel
theorem d5_187 : decode prog_24_method_13_code 187 = .ok (.arraylength, 1) := by decide +kernel
theorem d5_188 : decode prog_24_method_13_code 188 = .ok (.if_icmp .ge 24, 3) := by decide +kernel
theorem d5_212 : decode prog_24_method_13_code 212 = .ok (.aload_n 2, 1) := by decide +kernel
theorem d5_213 : decode prog_24_method_13_code 213 = .ok (.areturn, 1) := by decide +kernel
theorem d5_191 : decode prog_24_method_13_code 191 = .ok (.aload_n 1, 1) := by decide +kernel
theorem d5_192 : decode prog_24_method_13_code 192 = .ok (.iload 4, 2) := by decide +kernel
theorem d5_194 : decode prog_24_method_13_code 194 = .ok (.iaload, 1) := by decide +kernel
theorem d5_195 : decode prog_24_method_13_code 195 = .ok (.ifCond .le 11, 3) := by decide +kernel
theorem d5_198 : decode prog_24_method_13_code 198 = .ok (.aload_n 2, 1) := by decide +kernel
theorem d5_199 : decode prog_24_method_13_code 199 = .ok (.iload_n 3, 1) := by decide +kernel
theorem d5_200 : decode prog_24_method_13_code 200 = .ok (.iload 4, 2) := by decide +kernel
theorem d5_202 : decode prog_24_method_13_code 202 = .ok (.iastore, 1) := by decide +kernel
theorem d5_203 : decode prog_24_method_13_code 203 = .ok (.iinc 3 1, 3) := by decide +kernel
theorem d5_206 : decode prog_24_method_13_code 206 = .ok (.iinc 4 1, 3) := by decide +kernel
theorem d5_209 : decode prog_24_method_13_code 209 = .ok (.goto (-28), 3) := by decide +kernel
theorem d5_80 : decode prog_24_method_13_code 80 = .ok (.aload_n 1, 1) := by decide +kernel
theorem d5_81 : decode prog_24_method_13_code 81 = .ok (.iload 4, 2) := by decide +kernel
theorem d5_83 : decode prog_24_method_13_code 83 = .ok (.iaload, 1) := by decide +kernel
theorem d5_84 : decode prog_24_method_13_code 84 = .ok (.ifCond .ne 11, 3) := by decide +kernel
theorem d5_87 : decode prog_24_method_13_code 87 = .ok (.aload_n 2, 1) := by decide +kernel
theorem d5_88 : decode prog_24_method_13_code 88 = .ok (.iload_n 3, 1) := by decide +kernel
theorem d5_89 : decode prog_24_method_13_code 89 = .ok (.iload 4, 2) := by decide +kernel
theorem d5_91 : decode prog_24_method_13_code 91 = .ok (.iastore, 1) := by decide +kernel
theorem d5_92 : decode prog_24_method_13_code 92 = .ok (.iinc 3 1, 3) := by decide +kernel
theorem d5_95 : decode prog_24_method_13_code 95 = .ok (.iinc 4 1, 3) := by decide +kernel
theorem d5_98 : decode prog_24_method_13_code 98 = .ok (.goto (-28), 3) := by decide +kernel
theorem d5_19 : decode prog_24_method_13_code 19 = .ok (.iconst 0, 1) := by decide +kernel
theorem d5_20 : decode prog_24_method_13_code 20 = .ok (.istore_n 3, 1) := by decide +kernel
theorem d5_21 : decode prog_24_method_13_code 21 = .ok (.iload_n 3, 1) := by decide +kernel
theorem d5_22 : decode prog_24_method_13_code 22 = .ok (.aload_n 0, 1) := by decide +kernel
theorem d5_23 : decode prog_24_method_13_code 23 = .ok (.getfield 33, 3) := by decide +kernel
theorem d5_26 : decode prog_24_method_13_code 26 = .ok (.iload_n 2, 1) := by decide +kernel
theorem d5_27 : decode prog_24_method_13_code 27 = .ok (.iaload, 1) := by decide +kernel
theorem d5_28 : decode prog_24_method_13_code 28 = .ok (.if_icmp .ge 23, 3) := by decide +kernel
theorem d5_51 : decode prog_24_method_13_code 51 = .ok (.iinc 2 1, 3) := by decide +kernel
theorem d5_54 : decode prog_24_method_13_code 54 = .ok (.goto (-44), 3) := by decide +kernel
theorem d5_31 : decode prog_24_method_13_code 31 = .ok (.aload_n 1, 1) := by decide +kernel
theorem d5_32 : decode prog_24_method_13_code 32 = .ok (.aload_n 0, 1) := by decide +kernel
theorem d5_33 : decode prog_24_method_13_code 33 = .ok (.getfield 18, 3) := by decide +kernel
theorem d5_36 : decode prog_24_method_13_code 36 = .ok (.iload_n 2, 1) := by decide +kernel
theorem d5_37 : decode prog_24_method_13_code 37 = .ok (.aaload, 1) := by decide +kernel
theorem d5_38 : decode prog_24_method_13_code 38 = .ok (.iload_n 3, 1) := by decide +kernel
theorem d5_39 : decode prog_24_method_13_code 39 = .ok (.iaload, 1) := by decide +kernel
theorem d5_40 : decode prog_24_method_13_code 40 = .ok (.dup2, 1) := by decide +kernel
theorem d5_41 : decode prog_24_method_13_code 41 = .ok (.iaload, 1) := by decide +kernel
theorem d5_42 : decode prog_24_method_13_code 42 = .ok (.iconst 1, 1) := by decide +kernel
theorem d5_43 : decode prog_24_method_13_code 43 = .ok (.iadd, 1) := by decide +kernel
theorem d5_44 : decode prog_24_method_13_code 44 = .ok (.iastore, 1) := by decide +kernel
theorem d5_45 : decode prog_24_method_13_code 45 = .ok (.iinc 3 1, 3) := by decide +kernel
theorem d5_48 : decode prog_24_method_13_code 48 = .ok (.goto (-27), 3) := by decide +kernel
def QTop (Z : State) (n : Nat) (res : List Nat) (h0 : Heap) (n0 : Nat) (v : Option Value) (h : Heap) (L : List Loc) : Prop := ∃ (ra : Addr) (kR : ClassId), v = some (.ref ra) ∧ Fr n0 L ∧ Keep h0 h [] ∧ OwnF Z h ra kR .int n (fun k => .int (own_at res k)) ∧ h0.size ≤ ra ∧ n0 ≤ ra
set_option maxRecDepth 65536 in
set_option maxHeartbeats 40000000 in
theorem rmTop (l : Launch) (Z : State) (a0 : Array Value) (hw : ∀ d ∈ tables_1, d.before a0 Z = true) (ws : List Jvm.Cond) (rel : Addr) (em ro rz : Addr) (kW kS : ClassId) (n : Nat) (M : Nat → Nat) (B : Nat → Addr) (res : List Nat) (h0 : Heap) (n0 : Nat) (Z0 : n0 ≤ h0.size) (E_rel : Exa Z h0 rel "com/example/fast_taxonomy/fasttaxonomy/taxonomy/Relation") (F_rows_rel : Fld Z h0 rel "com/example/fast_taxonomy/fasttaxonomy/taxonomy/Relation" "rows" "[[I" (.ref ro)) (F_rowSizes_rel : Fld Z h0 rel "com/example/fast_taxonomy/fasttaxonomy/taxonomy/Relation" "rowSizes" "[I" (.ref rz)) (RR : OwnRel Z h0 em ro rz kW kS n M B) (hn4 : n < 4) (hM : ∀ i, M i < 2 ^ n) (ht : own_topo n M = some res) :
    MetFree l (⟨"com/example/fast_taxonomy/fasttaxonomy/taxonomy/Relation", "topologicalOrder", "()[I"⟩ : MethodName) (head1 (Jvm.Cond.code (⟨"com/example/fast_taxonomy/fasttaxonomy/taxonomy/Relation", "topologicalOrder", "()[I"⟩ : MethodName) prog_24_method_13_code 8 (some (.array .int)) :: ws) ({ frames := 0, cells := 2, slots := 6, locals := 0 } : Room)) (fun a U => a = #[(.ref rel)] ∧ Z.Warmed39 U.vm ∧ U.heap = h0) (fun _ _ _ _ _ => True) (fun _ U o U' => ∃ v L, o = .returned v ∧ QTop Z n res h0 n0 v U'.heap L ∧ FrameEnd U o U' L ({ frames := 0, cells := 2, slots := 6, locals := 0 } : Room).cells ({ frames := 0, cells := 2, slots := 6, locals := 0 } : Room).slots) := by
  refine MetFree.of_bodySF (plainFor_of_name pn_com_example_fast_taxonomy_fasttaxonomy_taxonomy_Relation) hisR ?_
  intro p e s m args below meth c s₁ Bd hml0 hP hK
  obtain ⟨rfl, hZ, hh⟩ := hP
  have hx := Bd.exec
  have hby := Bd.bytes
  have hlk := BodyLoose.notSynchronized Bd
  have hml : c.maxLocals = 8 := hml0
  have hown : s.vm.findClass "com/example/fast_taxonomy/fasttaxonomy/taxonomy/Relation" = some m.cls := findClass_of_methodNamed Bd.named
  have hnm := (name_of_methodNamed Bd.named Bd.method).1
  have X0 : Stand p l e ({ frames := 0, cells := 2, slots := 6, locals := 0 } : Room) s m #[(.ref rel)] below meth c s₁ [] 0 0 := Stand.of_body Bd
  have e0 : s₁.heap = h0 := by rw [← hh, Bd.state]; rfl
  have N0 := Fr.nil n0
  refine OwnR.of (s := s) (Q := QTop Z n res h0 n0) (fun t k => castTop (ef_rmTop m rel) k) ?_
  show OwnR _ _ _ _ _ _ _ (s₁.setTop (mkF m 0 #[.val (.ref rel), .unset, .unset, .unset, .unset, .unset, .unset, .unset] []))
  refine OwnR.of (fun _ hr => XS.aloadN X0.here hx rfl (hb hby d5_0) rfl rfl hr) ?_
  show OwnR _ _ _ _ _ _ _ (s₁.setTop (mkF m 1 #[.val (.ref rel), .unset, .unset, .unset, .unset, .unset, .unset, .unset] [(.ref rel)]))
  obtain ⟨T1, X1, e1, st1⟩ := getF X0 hx hZ hown (host := "") (Or.inl (hw _ (List.mem_of_getElem? (i := 15) rfl))) Via.refl e0 F_rows_rel (g := (mkF m 1 #[.val (.ref rel), .unset, .unset, .unset, .unset, .unset, .unset, .unset] [(.ref rel)])) rfl rfl (hb hby d5_1)
  refine OwnR.of (st1) ?_
  show OwnR _ _ _ _ _ _ _ (T1.setTop (mkF m 4 #[.val (.ref rel), .unset, .unset, .unset, .unset, .unset, .unset, .unset] [(.ref ro)]))
  refine OwnR.of (own_alen X1 hx hZ e1 RR.1 (z := (Int32.ofNat n)) (own_c4 hn4) (own_n4 hn4) (g := (mkF m 4 #[.val (.ref rel), .unset, .unset, .unset, .unset, .unset, .unset, .unset] [(.ref ro)])) rfl rfl (hb hby d5_4)) ?_
  show OwnR _ _ _ _ _ _ _ (T1.setTop (mkF m 5 #[.val (.ref rel), .unset, .unset, .unset, .unset, .unset, .unset, .unset] [(.int (Int32.ofNat n))]))
  obtain ⟨T2, h2, k2, X2, e2, E2, A2, AE2, st2⟩ := newPE X1 hx hZ (hw _ (List.mem_of_getElem? (i := 24) rfl)) e1 (g := (mkF m 5 #[.val (.ref rel), .unset, .unset, .unset, .unset, .unset, .unset, .unset] [(.int (Int32.ofNat n))])) rfl (hb hby d5_5) rfl (own_n4 hn4) (cap := 3) (own_cap3 hn4) (by decide) (by decide) (by decide) (ad := "[I") rfl
  obtain ⟨b2, g2⟩ : ∃ z, z = h0.size := ⟨_, rfl⟩
  rw [← g2] at A2 AE2 st2
  refine OwnR.of (st2) ?_
  have gn_b2 : n0 ≤ b2 := Nat.le_trans (Nat.le_trans Z0 (Keep.refl h0 []).1) (Nat.le_of_eq g2.symm)
  have sz_b2 : h0.size ≤ b2 := Nat.le_trans (Keep.refl h0 []).1 (Nat.le_of_eq g2.symm)
  have K2 : Keep h0 h2 [] := Keep.ext (Keep.refl h0 []) E2
  have V2 : Arv Z h2 b2 k2 .int (Int32.ofNat n) [] (.int (0 : Int32)) := Arv.new A2 (own_n4 hn4)
  show OwnR _ _ _ _ _ _ _ (T2.setTop (mkF m 7 #[.val (.ref rel), .unset, .unset, .unset, .unset, .unset, .unset, .unset] [(.ref b2)]))
  have FP0 : OwnF Z h2 b2 k2 .int n (fun j => .int ((List.replicate n (0 : Int32)).getD j 0)) := OwnF.congr (OwnF.new A2 (own_c4 hn4)) fun j _ => by rw [own_rep]; rfl
  refine OwnR.of (fun _ hr => XS.astoreN X2.here hx rfl (hb hby d5_7) rfl rfl (l' := #[.val (.ref rel), .val (.ref b2), .unset, .unset, .unset, .unset, .unset, .unset]) rfl hr) ?_
  show OwnR _ _ _ _ _ _ _ (T2.setTop (mkF m 8 #[.val (.ref rel), .val (.ref b2), .unset, .unset, .unset, .unset, .unset, .unset] []))
  refine OwnR.of (fun _ hr => XS.iconst X2.here hx rfl (hb hby d5_8) hr) ?_
  show OwnR _ _ _ _ _ _ _ (T2.setTop (mkF m 9 #[.val (.ref rel), .val (.ref b2), .unset, .unset, .unset, .unset, .unset, .unset] [(.int (0 : Int32))]))
  refine OwnR.of (fun _ hr => XS.istoreN X2.here hx rfl (hb hby d5_9) rfl (l' := #[.val (.ref rel), .val (.ref b2), .val (.int (0 : Int32)), .unset, .unset, .unset, .unset, .unset]) rfl hr) ?_
  show OwnR _ _ _ _ _ _ _ (T2.setTop (mkF m 10 #[.val (.ref rel), .val (.ref b2), .val (.int (0 : Int32)), .unset, .unset, .unset, .unset, .unset] []))
  obtain ⟨P1, O2, r2, P3, O3, r3, r4, t1, t2, t3, t4⟩ := own_topoS ht
  suffices loop1 : ∀ (d ei : Nat) (TA : State) (hA : Heap) (LA : List Loc) (z3 : Slot) (pl : List Int32), (z3 = .unset ∨ ∃ x, z3 = .val (.int x)) → ei + d = n → pl.length = n → Stand p l e ({ frames := 0, cells := 2, slots := 6, locals := 0 } : Room) s m #[(.ref rel)] below meth c TA LA 1 3 → TA.heap = hA → Keep h0 hA [] → Fr n0 LA → OwnF Z hA b2 k2 .int n (fun j => .int (pl.getD j 0)) → own_f1 M (List.range' ei d) pl = P1 → OwnR p e below s (QTop Z n res h0 n0) ({ frames := 0, cells := 2, slots := 6, locals := 0 } : Room).cells ({ frames := 0, cells := 2, slots := 6, locals := 0 } : Room).slots (TA.setTop (mkF m 10 #[.val (.ref rel), .val (.ref b2), .val (.int (Int32.ofNat ei)), z3, .unset, .unset, .unset, .unset] [])) by
    exact loop1 n 0 _ _ _ _ _ (Or.inl rfl) (Nat.zero_add n) List.length_replicate X2 e2 K2 N0 FP0 t1
  intro d
  induction d with
  | zero =>
    intro ei TA hA LA z3 pl hz3 hd hl XA eA KA NA FA0 hP
    rw [show ei = n from hd]
    have hP' : pl = P1 := hP
    have hP1 : P1.length = n := by rw [← hP']; exact hl
    have FA : OwnF Z hA b2 k2 .int n (fun j => .int (P1.getD j 0)) := by rw [← hP']; exact FA0
    show OwnR _ _ _ _ _ _ _ (TA.setTop (mkF m 10 #[.val (.ref rel), .val (.ref b2), .val (.int (Int32.ofNat n)), z3, .unset, .unset, .unset, .unset] []))
    refine OwnR.of (fun _ hr => XS.iloadN XA.here hx rfl (hb hby d5_10) rfl hr) ?_
    show OwnR _ _ _ _ _ _ _ (TA.setTop (mkF m 11 #[.val (.ref rel), .val (.ref b2), .val (.int (Int32.ofNat n)), z3, .unset, .unset, .unset, .unset] [(.int (Int32.ofNat n))]))
    refine OwnR.of (fun _ hr => XS.aloadN XA.here hx rfl (hb hby d5_11) rfl rfl hr) ?_
    show OwnR _ _ _ _ _ _ _ (TA.setTop (mkF m 12 #[.val (.ref rel), .val (.ref b2), .val (.int (Int32.ofNat n)), z3, .unset, .unset, .unset, .unset] [(.ref rel), (.int (Int32.ofNat n))]))
    obtain ⟨T3, X3, e3, st3⟩ := getF XA hx hZ hown (host := "") (Or.inl (hw _ (List.mem_of_getElem? (i := 15) rfl))) Via.refl eA (Fld.keep F_rows_rel KA nin0) (g := (mkF m 12 #[.val (.ref rel), .val (.ref b2), .val (.int (Int32.ofNat n)), z3, .unset, .unset, .unset, .unset] [(.ref rel), (.int (Int32.ofNat n))])) rfl rfl (hb hby d5_12)
    refine OwnR.of (st3) ?_
    show OwnR _ _ _ _ _ _ _ (T3.setTop (mkF m 15 #[.val (.ref rel), .val (.ref b2), .val (.int (Int32.ofNat n)), z3, .unset, .unset, .unset, .unset] [(.ref ro), (.int (Int32.ofNat n))]))
    refine OwnR.of (own_alen X3 hx hZ e3 (OwnF.keep RR.1 KA nin0) (z := (Int32.ofNat n)) (own_c4 hn4) (own_n4 hn4) (g := (mkF m 15 #[.val (.ref rel), .val (.ref b2), .val (.int (Int32.ofNat n)), z3, .unset, .unset, .unset, .unset] [(.ref ro), (.int (Int32.ofNat n))])) rfl rfl (hb hby d5_15)) ?_
    show OwnR _ _ _ _ _ _ _ (T3.setTop (mkF m 16 #[.val (.ref rel), .val (.ref b2), .val (.int (Int32.ofNat n)), z3, .unset, .unset, .unset, .unset] [(.int (Int32.ofNat n)), (.int (Int32.ofNat n))]))
    refine OwnR.of (fun _ hr => XS.icmpYes X3.here hx rfl (pc0 := 16) (pc' := 57) rfl (hb hby d5_16) rfl (flt (own_ge4 (Nat.le_refl n) hn4)).2.1 (by decide) (by decide) hr) ?_
    show OwnR _ _ _ _ _ _ _ (T3.setTop (mkF m 57 #[.val (.ref rel), .val (.ref b2), .val (.int (Int32.ofNat n)), z3, .unset, .unset, .unset, .unset] []))
    refine OwnR.of (fun _ hr => XS.aloadN X3.here hx rfl (hb hby d5_57) rfl rfl hr) ?_
    show OwnR _ _ _ _ _ _ _ (T3.setTop (mkF m 58 #[.val (.ref rel), .val (.ref b2), .val (.int (Int32.ofNat n)), z3, .unset, .unset, .unset, .unset] [(.ref rel)]))
    obtain ⟨T4, X4, e4, st4⟩ := getF X3 hx hZ hown (host := "") (Or.inl (hw _ (List.mem_of_getElem? (i := 15) rfl))) Via.refl e3 (Fld.keep F_rows_rel KA nin0) (g := (mkF m 58 #[.val (.ref rel), .val (.ref b2), .val (.int (Int32.ofNat n)), z3, .unset, .unset, .unset, .unset] [(.ref rel)])) rfl rfl (hb hby d5_58)
    refine OwnR.of (st4) ?_
    show OwnR _ _ _ _ _ _ _ (T4.setTop (mkF m 61 #[.val (.ref rel), .val (.ref b2), .val (.int (Int32.ofNat n)), z3, .unset, .unset, .unset, .unset] [(.ref ro)]))
    refine OwnR.of (own_alen X4 hx hZ e4 (OwnF.keep RR.1 KA nin0) (z := (Int32.ofNat n)) (own_c4 hn4) (own_n4 hn4) (g := (mkF m 61 #[.val (.ref rel), .val (.ref b2), .val (.int (Int32.ofNat n)), z3, .unset, .unset, .unset, .unset] [(.ref ro)])) rfl rfl (hb hby d5_61)) ?_
    show OwnR _ _ _ _ _ _ _ (T4.setTop (mkF m 62 #[.val (.ref rel), .val (.ref b2), .val (.int (Int32.ofNat n)), z3, .unset, .unset, .unset, .unset] [(.int (Int32.ofNat n))]))
    obtain ⟨T5, h5, k5, X5, e5, E5, A5, AE5, st5⟩ := newPE X4 hx hZ (hw _ (List.mem_of_getElem? (i := 24) rfl)) e4 (g := (mkF m 62 #[.val (.ref rel), .val (.ref b2), .val (.int (Int32.ofNat n)), z3, .unset, .unset, .unset, .unset] [(.int (Int32.ofNat n))])) rfl (hb hby d5_62) rfl (own_n4 hn4) (cap := 3) (own_cap3 hn4) (by decide) (by decide) (by decide) (ad := "[I") rfl
    obtain ⟨b5, g5⟩ : ∃ z, z = hA.size := ⟨_, rfl⟩
    rw [← g5] at A5 AE5 st5
    refine OwnR.of (st5) ?_
    have gn_b5 : n0 ≤ b5 := Nat.le_trans (Nat.le_trans Z0 KA.1) (Nat.le_of_eq g5.symm)
    have sz_b5 : h0.size ≤ b5 := Nat.le_trans KA.1 (Nat.le_of_eq g5.symm)
    have K5 : Keep h0 h5 [] := Keep.ext KA E5
    have V5 : Arv Z h5 b5 k5 .int (Int32.ofNat n) [] (.int (0 : Int32)) := Arv.new A5 (own_n4 hn4)
    show OwnR _ _ _ _ _ _ _ (T5.setTop (mkF m 64 #[.val (.ref rel), .val (.ref b2), .val (.int (Int32.ofNat n)), z3, .unset, .unset, .unset, .unset] [(.ref b5)]))
    have FO0 : OwnF Z h5 b5 k5 .int n (fun j => .int (own_at (List.replicate n 0) j)) := OwnF.congr (OwnF.new A5 (own_c4 hn4)) fun j _ => by rw [own_at0]; rfl
    have n_po : b2 ≠ b5 := by rw [g5]; exact Nat.ne_of_lt (OwnF.lt FA)
    refine OwnR.of (fun _ hr => XS.astoreN X5.here hx rfl (hb hby d5_64) rfl rfl (l' := #[.val (.ref rel), .val (.ref b2), .val (.ref b5), z3, .unset, .unset, .unset, .unset]) rfl hr) ?_
    show OwnR _ _ _ _ _ _ _ (T5.setTop (mkF m 65 #[.val (.ref rel), .val (.ref b2), .val (.ref b5), z3, .unset, .unset, .unset, .unset] []))
    refine OwnR.of (fun _ hr => XS.iconst X5.here hx rfl (hb hby d5_65) hr) ?_
    show OwnR _ _ _ _ _ _ _ (T5.setTop (mkF m 66 #[.val (.ref rel), .val (.ref b2), .val (.ref b5), z3, .unset, .unset, .unset, .unset] [(.int (0 : Int32))]))
    refine OwnR.of (fun _ hr => XS.istoreN X5.here hx rfl (hb hby d5_66) rfl (l' := #[.val (.ref rel), .val (.ref b2), .val (.ref b5), .val (.int (0 : Int32)), .unset, .unset, .unset, .unset]) (by rcases hz3 with rfl | ⟨x, rfl⟩ <;> rfl) hr) ?_
    show OwnR _ _ _ _ _ _ _ (T5.setTop (mkF m 67 #[.val (.ref rel), .val (.ref b2), .val (.ref b5), .val (.int (0 : Int32)), .unset, .unset, .unset, .unset] []))
    refine OwnR.of (fun _ hr => XS.iconst X5.here hx rfl (hb hby d5_67) hr) ?_
    show OwnR _ _ _ _ _ _ _ (T5.setTop (mkF m 68 #[.val (.ref rel), .val (.ref b2), .val (.ref b5), .val (.int (0 : Int32)), .unset, .unset, .unset, .unset] [(.int (0 : Int32))]))
    refine OwnR.of (fun _ hr => XS.istore X5.here hx rfl (hb hby d5_68) rfl (l' := #[.val (.ref rel), .val (.ref b2), .val (.ref b5), .val (.int (0 : Int32)), .val (.int (0 : Int32)), .unset, .unset, .unset]) rfl hr) ?_
    show OwnR _ _ _ _ _ _ _ (T5.setTop (mkF m 70 #[.val (.ref rel), .val (.ref b2), .val (.ref b5), .val (.int (0 : Int32)), .val (.int (0 : Int32)), .unset, .unset, .unset] []))
    suffices loopF : ∀ (dF eFi : Nat) (TF : State) (hF : Heap) (LF : List Loc) (orF : List Nat) (rkF : Nat), eFi + dF = n → orF.length = n → rkF ≤ n → Stand p l e ({ frames := 0, cells := 2, slots := 6, locals := 0 } : Room) s m #[(.ref rel)] below meth c TF LF 2 6 → TF.heap = hF → Keep h0 hF [] → Fr n0 LF → OwnF Z hF b2 k2 .int n (fun j => .int (P1.getD j 0)) → OwnF Z hF b5 k5 .int n (fun j => .int (own_at orF j)) → own_f2 P1 (List.range' eFi dF) orF rkF = some (O2, r2) → OwnR p e below s (QTop Z n res h0 n0) ({ frames := 0, cells := 2, slots := 6, locals := 0 } : Room).cells ({ frames := 0, cells := 2, slots := 6, locals := 0 } : Room).slots (TF.setTop (mkF m 70 #[.val (.ref rel), .val (.ref b2), .val (.ref b5), .val (.int (Int32.ofNat rkF)), .val (.int (Int32.ofNat eFi)), .unset, .unset, .unset] [])) by
      exact loopF n 0 _ _ _ _ _ (Nat.zero_add n) List.length_replicate (Nat.zero_le n) X5 e5 K5 NA (OwnF.ext FA E5) FO0 t2
    intro dF
    induction dF with
    | zero =>
      intro eFi TF hF LF orF rkF hdF hlF hrF XF eF KF NF FPF FOF hqF
      rw [show eFi = n from hdF]
      obtain ⟨uF, wF⟩ := own_f20 hqF
      show OwnR _ _ _ _ _ _ _ (TF.setTop (mkF m 70 #[.val (.ref rel), .val (.ref b2), .val (.ref b5), .val (.int (Int32.ofNat rkF)), .val (.int (Int32.ofNat n)), .unset, .unset, .unset] []))
      refine OwnR.of (fun _ hr => XS.iload XF.here hx rfl (hb hby d5_70) rfl hr) ?_
      show OwnR _ _ _ _ _ _ _ (TF.setTop (mkF m 72 #[.val (.ref rel), .val (.ref b2), .val (.ref b5), .val (.int (Int32.ofNat rkF)), .val (.int (Int32.ofNat n)), .unset, .unset, .unset] [(.int (Int32.ofNat n))]))
      refine OwnR.of (fun _ hr => XS.aloadN XF.here hx rfl (hb hby d5_72) rfl rfl hr) ?_
      show OwnR _ _ _ _ _ _ _ (TF.setTop (mkF m 73 #[.val (.ref rel), .val (.ref b2), .val (.ref b5), .val (.int (Int32.ofNat rkF)), .val (.int (Int32.ofNat n)), .unset, .unset, .unset] [(.ref rel), (.int (Int32.ofNat n))]))
      obtain ⟨T6, X6, e6, st6⟩ := getF XF hx hZ hown (host := "") (Or.inl (hw _ (List.mem_of_getElem? (i := 15) rfl))) Via.refl eF (Fld.keep F_rows_rel KF nin0) (g := (mkF m 73 #[.val (.ref rel), .val (.ref b2), .val (.ref b5), .val (.int (Int32.ofNat rkF)), .val (.int (Int32.ofNat n)), .unset, .unset, .unset] [(.ref rel), (.int (Int32.ofNat n))])) rfl rfl (hb hby d5_73)
      refine OwnR.of (st6) ?_
      show OwnR _ _ _ _ _ _ _ (T6.setTop (mkF m 76 #[.val (.ref rel), .val (.ref b2), .val (.ref b5), .val (.int (Int32.ofNat rkF)), .val (.int (Int32.ofNat n)), .unset, .unset, .unset] [(.ref ro), (.int (Int32.ofNat n))]))
      refine OwnR.of (own_alen X6 hx hZ e6 (OwnF.keep RR.1 KF nin0) (z := (Int32.ofNat n)) (own_c4 hn4) (own_n4 hn4) (g := (mkF m 76 #[.val (.ref rel), .val (.ref b2), .val (.ref b5), .val (.int (Int32.ofNat rkF)), .val (.int (Int32.ofNat n)), .unset, .unset, .unset] [(.ref ro), (.int (Int32.ofNat n))])) rfl rfl (hb hby d5_76)) ?_
      show OwnR _ _ _ _ _ _ _ (T6.setTop (mkF m 77 #[.val (.ref rel), .val (.ref b2), .val (.ref b5), .val (.int (Int32.ofNat rkF)), .val (.int (Int32.ofNat n)), .unset, .unset, .unset] [(.int (Int32.ofNat n)), (.int (Int32.ofNat n))]))
      refine OwnR.of (fun _ hr => XS.icmpYes X6.here hx rfl (pc0 := 77) (pc' := 101) rfl (hb hby d5_77) rfl (flt (own_ge4 (Nat.le_refl n) hn4)).2.1 (by decide) (by decide) hr) ?_
      show OwnR _ _ _ _ _ _ _ (T6.setTop (mkF m 101 #[.val (.ref rel), .val (.ref b2), .val (.ref b5), .val (.int (Int32.ofNat rkF)), .val (.int (Int32.ofNat n)), .unset, .unset, .unset] []))
      refine OwnR.of (fun _ hr => XS.iconst X6.here hx rfl (hb hby d5_101) hr) ?_
      show OwnR _ _ _ _ _ _ _ (T6.setTop (mkF m 102 #[.val (.ref rel), .val (.ref b2), .val (.ref b5), .val (.int (Int32.ofNat rkF)), .val (.int (Int32.ofNat n)), .unset, .unset, .unset] [(.int (0 : Int32))]))
      refine OwnR.of (fun _ hr => XS.istore X6.here hx rfl (hb hby d5_102) rfl (l' := #[.val (.ref rel), .val (.ref b2), .val (.ref b5), .val (.int (Int32.ofNat rkF)), .val (.int (0 : Int32)), .unset, .unset, .unset]) rfl hr) ?_
      show OwnR _ _ _ _ _ _ _ (T6.setTop (mkF m 104 #[.val (.ref rel), .val (.ref b2), .val (.ref b5), .val (.int (Int32.ofNat rkF)), .val (.int (0 : Int32)), .unset, .unset, .unset] []))
      rw [← uF, ← wF] at t3
      suffices loop3 : ∀ (fu nx : Nat) (TC : State) (hC : Heap) (LC : List Loc) (z5 z6 z7 : Slot) (pc3 : List Int32) (or3 : List Nat) (rk3 : Nat), (z5 = .unset ∨ ∃ x, z5 = .val (.int x)) → (z6 = .unset ∨ ∃ x, z6 = .val (.int x)) → (z7 = .unset ∨ ∃ x, z7 = .val (.int x)) → nx + fu = 5 → pc3.length = n → or3.length = n → rk3 ≤ n → Stand p l e ({ frames := 0, cells := 2, slots := 6, locals := 0 } : Room) s m #[(.ref rel)] below meth c TC LC 2 6 → TC.heap = hC → Keep h0 hC [] → Fr n0 LC → OwnF Z hC b2 k2 .int n (fun j => .int (pc3.getD j 0)) → OwnF Z hC b5 k5 .int n (fun j => .int (own_at or3 j)) → own_out3 M fu nx pc3 or3 rk3 = some (P3, O3, r3) → OwnR p e below s (QTop Z n res h0 n0) ({ frames := 0, cells := 2, slots := 6, locals := 0 } : Room).cells ({ frames := 0, cells := 2, slots := 6, locals := 0 } : Room).slots (TC.setTop (mkF m 104 #[.val (.ref rel), .val (.ref b2), .val (.ref b5), .val (.int (Int32.ofNat rk3)), .val (.int (Int32.ofNat nx)), z5, z6, z7] [])) by
        exact loop3 5 0 _ _ _ _ _ _ _ _ _ (Or.inl rfl) (Or.inl rfl) (Or.inl rfl) rfl hP1 hlF hrF X6 e6 KF NF FPF FOF t3
      intro fu
      induction fu with
      | zero =>
        intro nx TC hC LC z5 z6 z7 pc3 or3 rk3 hz5 hz6 hz7 hd3 hlp3 hl3 hr3 XC eC KC NC FPC FOC hq3
        have hq' : (none : Option (List Int32 × List Nat × Nat)) = some (P3, O3, r3) := hq3
        cases hq'
      | succ fu ih3 =>
        intro nx TC hC LC z5 z6 z7 pc3 or3 rk3 hz5 hz6 hz7 hd3 hlp3 hl3 hr3 XC eC KC NC FPC FOC hq3
        by_cases hlt3 : nx < rk3
        · skip
          obtain ⟨hnl, hxl, P', O', r', hi3, ho3⟩ := own_out3Y hq3 hlt3
          rw [hl3] at hnl hxl
          obtain ⟨xo, hxo⟩ : ∃ z, z = or3.getD nx 0 := ⟨_, rfl⟩
          rw [← hxo] at hxl hi3
          obtain ⟨kb, Lb, FB, hLb⟩ := OwnRel.row RR hxl
          show OwnR _ _ _ _ _ _ _ (TC.setTop (mkF m 104 #[.val (.ref rel), .val (.ref b2), .val (.ref b5), .val (.int (Int32.ofNat rk3)), .val (.int (Int32.ofNat nx)), z5, z6, z7] []))
          refine OwnR.of (fun _ hr => XS.iload XC.here hx rfl (hb hby d5_104) rfl hr) ?_
          show OwnR _ _ _ _ _ _ _ (TC.setTop (mkF m 106 #[.val (.ref rel), .val (.ref b2), .val (.ref b5), .val (.int (Int32.ofNat rk3)), .val (.int (Int32.ofNat nx)), z5, z6, z7] [(.int (Int32.ofNat nx))]))
          refine OwnR.of (fun _ hr => XS.iloadN XC.here hx rfl (hb hby d5_106) rfl hr) ?_
          show OwnR _ _ _ _ _ _ _ (TC.setTop (mkF m 107 #[.val (.ref rel), .val (.ref b2), .val (.ref b5), .val (.int (Int32.ofNat rk3)), .val (.int (Int32.ofNat nx)), z5, z6, z7] [(.int (Int32.ofNat rk3)), (.int (Int32.ofNat nx))]))
          refine OwnR.of (fun _ hr => XS.icmpNo XC.here hx rfl (hb hby d5_107) rfl (tlt (own_lt4 hlt3 (own_le4 hr3 hn4))).2.1 hr) ?_
          show OwnR _ _ _ _ _ _ _ (TC.setTop (mkF m 110 #[.val (.ref rel), .val (.ref b2), .val (.ref b5), .val (.int (Int32.ofNat rk3)), .val (.int (Int32.ofNat nx)), z5, z6, z7] []))
          refine OwnR.of (fun _ hr => XS.aloadN XC.here hx rfl (hb hby d5_110) rfl rfl hr) ?_
          show OwnR _ _ _ _ _ _ _ (TC.setTop (mkF m 111 #[.val (.ref rel), .val (.ref b2), .val (.ref b5), .val (.int (Int32.ofNat rk3)), .val (.int (Int32.ofNat nx)), z5, z6, z7] [(.ref b5)]))
          refine OwnR.of (fun _ hr => XS.iload XC.here hx rfl (hb hby d5_111) rfl hr) ?_
          show OwnR _ _ _ _ _ _ _ (TC.setTop (mkF m 113 #[.val (.ref rel), .val (.ref b2), .val (.ref b5), .val (.int (Int32.ofNat rk3)), .val (.int (Int32.ofNat nx)), z5, z6, z7] [(.int (Int32.ofNat nx)), (.ref b5)]))
          refine OwnR.of (own_iaload XC hx hZ eC FOC (own_cN hnl hn4) (own_nN hnl hn4) hnl (v := (.int (Int32.ofNat xo))) (by rw [hxo]; rfl) (g := (mkF m 113 #[.val (.ref rel), .val (.ref b2), .val (.ref b5), .val (.int (Int32.ofNat rk3)), .val (.int (Int32.ofNat nx)), z5, z6, z7] [(.int (Int32.ofNat nx)), (.ref b5)])) rfl rfl (hb hby d5_113)) ?_
          show OwnR _ _ _ _ _ _ _ (TC.setTop (mkF m 114 #[.val (.ref rel), .val (.ref b2), .val (.ref b5), .val (.int (Int32.ofNat rk3)), .val (.int (Int32.ofNat nx)), z5, z6, z7] [(.int (Int32.ofNat xo))]))
          refine OwnR.of (fun _ hr => XS.istore XC.here hx rfl (hb hby d5_114) rfl (l' := #[.val (.ref rel), .val (.ref b2), .val (.ref b5), .val (.int (Int32.ofNat rk3)), .val (.int (Int32.ofNat nx)), .val (.int (Int32.ofNat xo)), z6, z7]) (by rcases hz5 with rfl | ⟨x, rfl⟩ <;> rfl) hr) ?_
          show OwnR _ _ _ _ _ _ _ (TC.setTop (mkF m 116 #[.val (.ref rel), .val (.ref b2), .val (.ref b5), .val (.int (Int32.ofNat rk3)), .val (.int (Int32.ofNat nx)), .val (.int (Int32.ofNat xo)), z6, z7] []))
          refine OwnR.of (fun _ hr => XS.iconst XC.here hx rfl (hb hby d5_116) hr) ?_
          show OwnR _ _ _ _ _ _ _ (TC.setTop (mkF m 117 #[.val (.ref rel), .val (.ref b2), .val (.ref b5), .val (.int (Int32.ofNat rk3)), .val (.int (Int32.ofNat nx)), .val (.int (Int32.ofNat xo)), z6, z7] [(.int (0 : Int32))]))
          refine OwnR.of (fun _ hr => XS.istore XC.here hx rfl (hb hby d5_117) rfl (l' := #[.val (.ref rel), .val (.ref b2), .val (.ref b5), .val (.int (Int32.ofNat rk3)), .val (.int (Int32.ofNat nx)), .val (.int (Int32.ofNat xo)), .val (.int (0 : Int32)), z7]) (by rcases hz6 with rfl | ⟨x, rfl⟩ <;> rfl) hr) ?_
          show OwnR _ _ _ _ _ _ _ (TC.setTop (mkF m 119 #[.val (.ref rel), .val (.ref b2), .val (.ref b5), .val (.int (Int32.ofNat rk3)), .val (.int (Int32.ofNat nx)), .val (.int (Int32.ofNat xo)), .val (.int (0 : Int32)), z7] []))
          suffices in3 : ∀ (d4 ji : Nat) (TD : State) (hD : Heap) (LD : List Loc) (y7 : Slot) (qd : List Int32) (od : List Nat) (rd : Nat), (y7 = .unset ∨ ∃ x, y7 = .val (.int x)) → ji + d4 = own_sz (M xo) → qd.length = n → od.length = n → rd ≤ n → Stand p l e ({ frames := 0, cells := 2, slots := 6, locals := 0 } : Room) s m #[(.ref rel)] below meth c TD LD 2 6 → TD.heap = hD → Keep h0 hD [] → Fr n0 LD → OwnF Z hD b2 k2 .int n (fun j => .int (qd.getD j 0)) → OwnF Z hD b5 k5 .int n (fun j => .int (own_at od j)) → own_in3 ((own_els (M xo)).drop ji) qd od rd = some (P', O', r') → OwnR p e below s (QTop Z n res h0 n0) ({ frames := 0, cells := 2, slots := 6, locals := 0 } : Room).cells ({ frames := 0, cells := 2, slots := 6, locals := 0 } : Room).slots (TD.setTop (mkF m 119 #[.val (.ref rel), .val (.ref b2), .val (.ref b5), .val (.int (Int32.ofNat rd)), .val (.int (Int32.ofNat nx)), .val (.int (Int32.ofNat xo)), .val (.int (Int32.ofNat ji)), y7] [])) by
            exact in3 (own_sz (M xo)) 0 _ _ _ _ _ _ _ hz7 (Nat.zero_add _) hlp3 hl3 hr3 XC eC KC NC FPC FOC hi3
          intro d4
          induction d4 with
          | zero =>
            intro ji TD hD LD y7 qd od rd hy7 hd4 hlp4 hl4 hr4 XD eD KD ND FPD FOD hq4
            rw [show ji = own_sz (M xo) from hd4] at hq4 ⊢
            have hz4 := own_in3E hq4
            obtain ⟨y1, y2⟩ := Prod.mk.inj hz4
            obtain ⟨y2, y3⟩ := Prod.mk.inj y2
            rw [y1, y2, y3] at ho3
            show OwnR _ _ _ _ _ _ _ (TD.setTop (mkF m 119 #[.val (.ref rel), .val (.ref b2), .val (.ref b5), .val (.int (Int32.ofNat rd)), .val (.int (Int32.ofNat nx)), .val (.int (Int32.ofNat xo)), .val (.int (Int32.ofNat (own_sz (M xo)))), y7] []))
            refine OwnR.of (fun _ hr => XS.iload XD.here hx rfl (hb hby d5_119) rfl hr) ?_
            show OwnR _ _ _ _ _ _ _ (TD.setTop (mkF m 121 #[.val (.ref rel), .val (.ref b2), .val (.ref b5), .val (.int (Int32.ofNat rd)), .val (.int (Int32.ofNat nx)), .val (.int (Int32.ofNat xo)), .val (.int (Int32.ofNat (own_sz (M xo)))), y7] [(.int (Int32.ofNat (own_sz (M xo))))]))
            refine OwnR.of (fun _ hr => XS.aloadN XD.here hx rfl (hb hby d5_121) rfl rfl hr) ?_
            show OwnR _ _ _ _ _ _ _ (TD.setTop (mkF m 122 #[.val (.ref rel), .val (.ref b2), .val (.ref b5), .val (.int (Int32.ofNat rd)), .val (.int (Int32.ofNat nx)), .val (.int (Int32.ofNat xo)), .val (.int (Int32.ofNat (own_sz (M xo)))), y7] [(.ref rel), (.int (Int32.ofNat (own_sz (M xo))))]))
            obtain ⟨T7, X7, e7, st7⟩ := getF XD hx hZ hown (host := "") (Or.inl (hw _ (List.mem_of_getElem? (i := 25) rfl))) Via.refl eD (Fld.keep F_rowSizes_rel KD nin0) (g := (mkF m 122 #[.val (.ref rel), .val (.ref b2), .val (.ref b5), .val (.int (Int32.ofNat rd)), .val (.int (Int32.ofNat nx)), .val (.int (Int32.ofNat xo)), .val (.int (Int32.ofNat (own_sz (M xo)))), y7] [(.ref rel), (.int (Int32.ofNat (own_sz (M xo))))])) rfl rfl (hb hby d5_122)
            refine OwnR.of (st7) ?_
            show OwnR _ _ _ _ _ _ _ (T7.setTop (mkF m 125 #[.val (.ref rel), .val (.ref b2), .val (.ref b5), .val (.int (Int32.ofNat rd)), .val (.int (Int32.ofNat nx)), .val (.int (Int32.ofNat xo)), .val (.int (Int32.ofNat (own_sz (M xo)))), y7] [(.ref rz), (.int (Int32.ofNat (own_sz (M xo))))]))
            refine OwnR.of (fun _ hr => XS.iload X7.here hx rfl (hb hby d5_125) rfl hr) ?_
            show OwnR _ _ _ _ _ _ _ (T7.setTop (mkF m 127 #[.val (.ref rel), .val (.ref b2), .val (.ref b5), .val (.int (Int32.ofNat rd)), .val (.int (Int32.ofNat nx)), .val (.int (Int32.ofNat xo)), .val (.int (Int32.ofNat (own_sz (M xo)))), y7] [(.int (Int32.ofNat xo)), (.ref rz), (.int (Int32.ofNat (own_sz (M xo))))]))
            refine OwnR.of (own_iaload X7 hx hZ e7 (OwnF.keep RR.2.1 KD nin0) (own_cN hxl hn4) (own_nN hxl hn4) hxl (v := (.int (Int32.ofNat (own_sz (M xo))))) rfl (g := (mkF m 127 #[.val (.ref rel), .val (.ref b2), .val (.ref b5), .val (.int (Int32.ofNat rd)), .val (.int (Int32.ofNat nx)), .val (.int (Int32.ofNat xo)), .val (.int (Int32.ofNat (own_sz (M xo)))), y7] [(.int (Int32.ofNat xo)), (.ref rz), (.int (Int32.ofNat (own_sz (M xo))))])) rfl rfl (hb hby d5_127)) ?_
            show OwnR _ _ _ _ _ _ _ (T7.setTop (mkF m 128 #[.val (.ref rel), .val (.ref b2), .val (.ref b5), .val (.int (Int32.ofNat rd)), .val (.int (Int32.ofNat nx)), .val (.int (Int32.ofNat xo)), .val (.int (Int32.ofNat (own_sz (M xo)))), y7] [(.int (Int32.ofNat (own_sz (M xo)))), (.int (Int32.ofNat (own_sz (M xo))))]))
            refine OwnR.of (fun _ hr => XS.icmpYes X7.here hx rfl (pc0 := 128) (pc' := 172) rfl (hb hby d5_128) rfl (flt (own_ge4 (Nat.le_refl _) (own_sz3 _ (own_p8 hn4 (hM xo))))).2.1 (by decide) (by decide) hr) ?_
            show OwnR _ _ _ _ _ _ _ (T7.setTop (mkF m 172 #[.val (.ref rel), .val (.ref b2), .val (.ref b5), .val (.int (Int32.ofNat rd)), .val (.int (Int32.ofNat nx)), .val (.int (Int32.ofNat xo)), .val (.int (Int32.ofNat (own_sz (M xo)))), y7] []))
            refine OwnR.of (fun _ hr => XS.iinc X7.here hx rfl (hb hby d5_172) rfl (l' := #[.val (.ref rel), .val (.ref b2), .val (.ref b5), .val (.int (Int32.ofNat rd)), .val (.int ((Int32.ofNat nx) + (1 : Int32))), .val (.int (Int32.ofNat xo)), .val (.int (Int32.ofNat (own_sz (M xo)))), y7]) rfl hr) ?_
            show OwnR _ _ _ _ _ _ _ (T7.setTop (mkF m 175 #[.val (.ref rel), .val (.ref b2), .val (.ref b5), .val (.int (Int32.ofNat rd)), .val (.int ((Int32.ofNat nx) + (1 : Int32))), .val (.int (Int32.ofNat xo)), .val (.int (Int32.ofNat (own_sz (M xo)))), y7] []))
            refine OwnR.of (fun _ hr => XS.goto X7.here hx rfl (pc0 := 175) (pc' := 104) rfl (hb hby d5_175) (by decide) (by decide) hr) ?_
            show OwnR _ _ _ _ _ _ _ (T7.setTop (mkF m 104 #[.val (.ref rel), .val (.ref b2), .val (.ref b5), .val (.int (Int32.ofNat rd)), .val (.int ((Int32.ofNat nx) + (1 : Int32))), .val (.int (Int32.ofNat xo)), .val (.int (Int32.ofNat (own_sz (M xo)))), y7] []))
            rw [own_succ nx]
            exact ih3 (nx + 1) _ _ _ _ _ _ _ _ _ (Or.inr ⟨_, rfl⟩) (Or.inr ⟨_, rfl⟩) hy7 (own_ds hd3) hlp4 hl4 hr4 X7 e7 KD ND FPD FOD ho3
          | succ d4 ih4 =>
            intro ji TD hD LD y7 qd od rd hy7 hd4 hlp4 hl4 hr4 XD eD KD ND FPD FOD hq4
            have hji := own_dl hd4
            obtain ⟨ye, hye⟩ : ∃ z, z = (own_els (M xo)).getD ji 0 := ⟨_, rfl⟩
            have hyn : ye < n := by rw [hye]; exact own_el_lt n hn4 _ (hM xo) ji hji
            show OwnR _ _ _ _ _ _ _ (TD.setTop (mkF m 119 #[.val (.ref rel), .val (.ref b2), .val (.ref b5), .val (.int (Int32.ofNat rd)), .val (.int (Int32.ofNat nx)), .val (.int (Int32.ofNat xo)), .val (.int (Int32.ofNat ji)), y7] []))
            refine OwnR.of (fun _ hr => XS.iload XD.here hx rfl (hb hby d5_119) rfl hr) ?_
            show OwnR _ _ _ _ _ _ _ (TD.setTop (mkF m 121 #[.val (.ref rel), .val (.ref b2), .val (.ref b5), .val (.int (Int32.ofNat rd)), .val (.int (Int32.ofNat nx)), .val (.int (Int32.ofNat xo)), .val (.int (Int32.ofNat ji)), y7] [(.int (Int32.ofNat ji))]))
            refine OwnR.of (fun _ hr => XS.aloadN XD.here hx rfl (hb hby d5_121) rfl rfl hr) ?_
            show OwnR _ _ _ _ _ _ _ (TD.setTop (mkF m 122 #[.val (.ref rel), .val (.ref b2), .val (.ref b5), .val (.int (Int32.ofNat rd)), .val (.int (Int32.ofNat nx)), .val (.int (Int32.ofNat xo)), .val (.int (Int32.ofNat ji)), y7] [(.ref rel), (.int (Int32.ofNat ji))]))
            obtain ⟨T8, X8, e8, st8⟩ := getF XD hx hZ hown (host := "") (Or.inl (hw _ (List.mem_of_getElem? (i := 25) rfl))) Via.refl eD (Fld.keep F_rowSizes_rel KD nin0) (g := (mkF m 122 #[.val (.ref rel), .val (.ref b2), .val (.ref b5), .val (.int (Int32.ofNat rd)), .val (.int (Int32.ofNat nx)), .val (.int (Int32.ofNat xo)), .val (.int (Int32.ofNat ji)), y7] [(.ref rel), (.int (Int32.ofNat ji))])) rfl rfl (hb hby d5_122)
            refine OwnR.of (st8) ?_
            show OwnR _ _ _ _ _ _ _ (T8.setTop (mkF m 125 #[.val (.ref rel), .val (.ref b2), .val (.ref b5), .val (.int (Int32.ofNat rd)), .val (.int (Int32.ofNat nx)), .val (.int (Int32.ofNat xo)), .val (.int (Int32.ofNat ji)), y7] [(.ref rz), (.int (Int32.ofNat ji))]))
            refine OwnR.of (fun _ hr => XS.iload X8.here hx rfl (hb hby d5_125) rfl hr) ?_
            show OwnR _ _ _ _ _ _ _ (T8.setTop (mkF m 127 #[.val (.ref rel), .val (.ref b2), .val (.ref b5), .val (.int (Int32.ofNat rd)), .val (.int (Int32.ofNat nx)), .val (.int (Int32.ofNat xo)), .val (.int (Int32.ofNat ji)), y7] [(.int (Int32.ofNat xo)), (.ref rz), (.int (Int32.ofNat ji))]))
            refine OwnR.of (own_iaload X8 hx hZ e8 (OwnF.keep RR.2.1 KD nin0) (own_cN hxl hn4) (own_nN hxl hn4) hxl (v := (.int (Int32.ofNat (own_sz (M xo))))) rfl (g := (mkF m 127 #[.val (.ref rel), .val (.ref b2), .val (.ref b5), .val (.int (Int32.ofNat rd)), .val (.int (Int32.ofNat nx)), .val (.int (Int32.ofNat xo)), .val (.int (Int32.ofNat ji)), y7] [(.int (Int32.ofNat xo)), (.ref rz), (.int (Int32.ofNat ji))])) rfl rfl (hb hby d5_127)) ?_
            show OwnR _ _ _ _ _ _ _ (T8.setTop (mkF m 128 #[.val (.ref rel), .val (.ref b2), .val (.ref b5), .val (.int (Int32.ofNat rd)), .val (.int (Int32.ofNat nx)), .val (.int (Int32.ofNat xo)), .val (.int (Int32.ofNat ji)), y7] [(.int (Int32.ofNat (own_sz (M xo)))), (.int (Int32.ofNat ji))]))
            refine OwnR.of (fun _ hr => XS.icmpNo X8.here hx rfl (hb hby d5_128) rfl (tlt (own_lt4 hji (own_sz3 _ (own_p8 hn4 (hM xo))))).2.1 hr) ?_
            show OwnR _ _ _ _ _ _ _ (T8.setTop (mkF m 131 #[.val (.ref rel), .val (.ref b2), .val (.ref b5), .val (.int (Int32.ofNat rd)), .val (.int (Int32.ofNat nx)), .val (.int (Int32.ofNat xo)), .val (.int (Int32.ofNat ji)), y7] []))
            refine OwnR.of (fun _ hr => XS.aloadN X8.here hx rfl (hb hby d5_131) rfl rfl hr) ?_
            show OwnR _ _ _ _ _ _ _ (T8.setTop (mkF m 132 #[.val (.ref rel), .val (.ref b2), .val (.ref b5), .val (.int (Int32.ofNat rd)), .val (.int (Int32.ofNat nx)), .val (.int (Int32.ofNat xo)), .val (.int (Int32.ofNat ji)), y7] [(.ref rel)]))
            obtain ⟨T9, X9, e9, st9⟩ := getF X8 hx hZ hown (host := "") (Or.inl (hw _ (List.mem_of_getElem? (i := 15) rfl))) Via.refl e8 (Fld.keep F_rows_rel KD nin0) (g := (mkF m 132 #[.val (.ref rel), .val (.ref b2), .val (.ref b5), .val (.int (Int32.ofNat rd)), .val (.int (Int32.ofNat nx)), .val (.int (Int32.ofNat xo)), .val (.int (Int32.ofNat ji)), y7] [(.ref rel)])) rfl rfl (hb hby d5_132)
            refine OwnR.of (st9) ?_
            show OwnR _ _ _ _ _ _ _ (T9.setTop (mkF m 135 #[.val (.ref rel), .val (.ref b2), .val (.ref b5), .val (.int (Int32.ofNat rd)), .val (.int (Int32.ofNat nx)), .val (.int (Int32.ofNat xo)), .val (.int (Int32.ofNat ji)), y7] [(.ref ro)]))
            refine OwnR.of (fun _ hr => XS.iload X9.here hx rfl (hb hby d5_135) rfl hr) ?_
            show OwnR _ _ _ _ _ _ _ (T9.setTop (mkF m 137 #[.val (.ref rel), .val (.ref b2), .val (.ref b5), .val (.int (Int32.ofNat rd)), .val (.int (Int32.ofNat nx)), .val (.int (Int32.ofNat xo)), .val (.int (Int32.ofNat ji)), y7] [(.int (Int32.ofNat xo)), (.ref ro)]))
            refine OwnR.of (own_aaload rfl X9 hx hZ e9 (OwnF.keep RR.1 KD nin0) (own_cN hxl hn4) (own_nN hxl hn4) hxl (v := (.ref (B xo))) rfl (g := (mkF m 137 #[.val (.ref rel), .val (.ref b2), .val (.ref b5), .val (.int (Int32.ofNat rd)), .val (.int (Int32.ofNat nx)), .val (.int (Int32.ofNat xo)), .val (.int (Int32.ofNat ji)), y7] [(.int (Int32.ofNat xo)), (.ref ro)])) rfl rfl (hb hby d5_137)) ?_
            show OwnR _ _ _ _ _ _ _ (T9.setTop (mkF m 138 #[.val (.ref rel), .val (.ref b2), .val (.ref b5), .val (.int (Int32.ofNat rd)), .val (.int (Int32.ofNat nx)), .val (.int (Int32.ofNat xo)), .val (.int (Int32.ofNat ji)), y7] [(.ref (B xo))]))
            refine OwnR.of (fun _ hr => XS.iload X9.here hx rfl (hb hby d5_138) rfl hr) ?_
            show OwnR _ _ _ _ _ _ _ (T9.setTop (mkF m 140 #[.val (.ref rel), .val (.ref b2), .val (.ref b5), .val (.int (Int32.ofNat rd)), .val (.int (Int32.ofNat nx)), .val (.int (Int32.ofNat xo)), .val (.int (Int32.ofNat ji)), y7] [(.int (Int32.ofNat ji)), (.ref (B xo))]))
            refine OwnR.of (own_iaload X9 hx hZ e9 (OwnF.keep FB KD nin0) (own_cN hji (own_sz3 _ (own_p8 hn4 (hM xo)))) (own_nN hji (own_sz3 _ (own_p8 hn4 (hM xo)))) (Nat.lt_of_lt_of_le hji hLb) (v := (.int (Int32.ofNat ye))) (by rw [hye]; rfl) (g := (mkF m 140 #[.val (.ref rel), .val (.ref b2), .val (.ref b5), .val (.int (Int32.ofNat rd)), .val (.int (Int32.ofNat nx)), .val (.int (Int32.ofNat xo)), .val (.int (Int32.ofNat ji)), y7] [(.int (Int32.ofNat ji)), (.ref (B xo))])) rfl rfl (hb hby d5_140)) ?_
            show OwnR _ _ _ _ _ _ _ (T9.setTop (mkF m 141 #[.val (.ref rel), .val (.ref b2), .val (.ref b5), .val (.int (Int32.ofNat rd)), .val (.int (Int32.ofNat nx)), .val (.int (Int32.ofNat xo)), .val (.int (Int32.ofNat ji)), y7] [(.int (Int32.ofNat ye))]))
            refine OwnR.of (fun _ hr => XS.istore X9.here hx rfl (hb hby d5_141) rfl (l' := #[.val (.ref rel), .val (.ref b2), .val (.ref b5), .val (.int (Int32.ofNat rd)), .val (.int (Int32.ofNat nx)), .val (.int (Int32.ofNat xo)), .val (.int (Int32.ofNat ji)), .val (.int (Int32.ofNat ye))]) (by rcases hy7 with rfl | ⟨x, rfl⟩ <;> rfl) hr) ?_
            show OwnR _ _ _ _ _ _ _ (T9.setTop (mkF m 143 #[.val (.ref rel), .val (.ref b2), .val (.ref b5), .val (.int (Int32.ofNat rd)), .val (.int (Int32.ofNat nx)), .val (.int (Int32.ofNat xo)), .val (.int (Int32.ofNat ji)), .val (.int (Int32.ofNat ye))] []))
            refine OwnR.of (fun _ hr => XS.aloadN X9.here hx rfl (hb hby d5_143) rfl rfl hr) ?_
            show OwnR _ _ _ _ _ _ _ (T9.setTop (mkF m 144 #[.val (.ref rel), .val (.ref b2), .val (.ref b5), .val (.int (Int32.ofNat rd)), .val (.int (Int32.ofNat nx)), .val (.int (Int32.ofNat xo)), .val (.int (Int32.ofNat ji)), .val (.int (Int32.ofNat ye))] [(.ref b2)]))
            refine OwnR.of (fun _ hr => XS.iload X9.here hx rfl (hb hby d5_144) rfl hr) ?_
            show OwnR _ _ _ _ _ _ _ (T9.setTop (mkF m 146 #[.val (.ref rel), .val (.ref b2), .val (.ref b5), .val (.int (Int32.ofNat rd)), .val (.int (Int32.ofNat nx)), .val (.int (Int32.ofNat xo)), .val (.int (Int32.ofNat ji)), .val (.int (Int32.ofNat ye))] [(.int (Int32.ofNat ye)), (.ref b2)]))
            refine OwnR.of (fun _ hr => XT.dup2 X9.here hx rfl (hb hby d5_146) rfl rfl rfl hr) ?_
            show OwnR _ _ _ _ _ _ _ (T9.setTop (mkF m 147 #[.val (.ref rel), .val (.ref b2), .val (.ref b5), .val (.int (Int32.ofNat rd)), .val (.int (Int32.ofNat nx)), .val (.int (Int32.ofNat xo)), .val (.int (Int32.ofNat ji)), .val (.int (Int32.ofNat ye))] [(.int (Int32.ofNat ye)), (.ref b2), (.int (Int32.ofNat ye)), (.ref b2)]))
            refine OwnR.of (own_iaload X9 hx hZ e9 FPD (own_cN hyn hn4) (own_nN hyn hn4) hyn (v := (.int (qd.getD ye 0))) rfl (g := (mkF m 147 #[.val (.ref rel), .val (.ref b2), .val (.ref b5), .val (.int (Int32.ofNat rd)), .val (.int (Int32.ofNat nx)), .val (.int (Int32.ofNat xo)), .val (.int (Int32.ofNat ji)), .val (.int (Int32.ofNat ye))] [(.int (Int32.ofNat ye)), (.ref b2), (.int (Int32.ofNat ye)), (.ref b2)])) rfl rfl (hb hby d5_147)) ?_
            show OwnR _ _ _ _ _ _ _ (T9.setTop (mkF m 148 #[.val (.ref rel), .val (.ref b2), .val (.ref b5), .val (.int (Int32.ofNat rd)), .val (.int (Int32.ofNat nx)), .val (.int (Int32.ofNat xo)), .val (.int (Int32.ofNat ji)), .val (.int (Int32.ofNat ye))] [(.int (qd.getD ye 0)), (.int (Int32.ofNat ye)), (.ref b2)]))
            refine OwnR.of (fun _ hr => XS.iconst X9.here hx rfl (hb hby d5_148) hr) ?_
            show OwnR _ _ _ _ _ _ _ (T9.setTop (mkF m 149 #[.val (.ref rel), .val (.ref b2), .val (.ref b5), .val (.int (Int32.ofNat rd)), .val (.int (Int32.ofNat nx)), .val (.int (Int32.ofNat xo)), .val (.int (Int32.ofNat ji)), .val (.int (Int32.ofNat ye))] [(.int (1 : Int32)), (.int (qd.getD ye 0)), (.int (Int32.ofNat ye)), (.ref b2)]))
            refine OwnR.of (fun _ hr => XS.isub X9.here hx rfl (hb hby d5_149) rfl hr) ?_
            show OwnR _ _ _ _ _ _ _ (T9.setTop (mkF m 150 #[.val (.ref rel), .val (.ref b2), .val (.ref b5), .val (.int (Int32.ofNat rd)), .val (.int (Int32.ofNat nx)), .val (.int (Int32.ofNat xo)), .val (.int (Int32.ofNat ji)), .val (.int (Int32.ofNat ye))] [(.int ((qd.getD ye 0) - (1 : Int32))), (.int (Int32.ofNat ye)), (.ref b2)]))
            obtain ⟨T10, h10, X10, e10, W10, st10⟩ := own_iastore X9 hx hZ e9 FPD (own_cN hyn hn4) (own_nN hyn hn4) hyn (g := (mkF m 150 #[.val (.ref rel), .val (.ref b2), .val (.ref b5), .val (.int (Int32.ofNat rd)), .val (.int (Int32.ofNat nx)), .val (.int (Int32.ofNat xo)), .val (.int (Int32.ofNat ji)), .val (.int (Int32.ofNat ye))] [(.int ((qd.getD ye 0) - (1 : Int32))), (.int (Int32.ofNat ye)), (.ref b2)])) rfl rfl (hb hby d5_150)
            refine OwnR.of (st10) ?_
            have G10 := OwnF.congr (OwnF.set FPD W10) fun j _ => own_decF hyn hlp4 j
            have K10 : Keep h0 h10 [] := Keep.wr KD W10 (Or.inr sz_b2)
            have N10 := Fr.snoc X10 ND gn_b2
            show OwnR _ _ _ _ _ _ _ (T10.setTop (mkF m 151 #[.val (.ref rel), .val (.ref b2), .val (.ref b5), .val (.int (Int32.ofNat rd)), .val (.int (Int32.ofNat nx)), .val (.int (Int32.ofNat xo)), .val (.int (Int32.ofNat ji)), .val (.int (Int32.ofNat ye))] []))
            refine OwnR.of (fun _ hr => XS.aloadN X10.here hx rfl (hb hby d5_151) rfl rfl hr) ?_
            show OwnR _ _ _ _ _ _ _ (T10.setTop (mkF m 152 #[.val (.ref rel), .val (.ref b2), .val (.ref b5), .val (.int (Int32.ofNat rd)), .val (.int (Int32.ofNat nx)), .val (.int (Int32.ofNat xo)), .val (.int (Int32.ofNat ji)), .val (.int (Int32.ofNat ye))] [(.ref b2)]))
            refine OwnR.of (fun _ hr => XS.iload X10.here hx rfl (hb hby d5_152) rfl hr) ?_
            show OwnR _ _ _ _ _ _ _ (T10.setTop (mkF m 154 #[.val (.ref rel), .val (.ref b2), .val (.ref b5), .val (.int (Int32.ofNat rd)), .val (.int (Int32.ofNat nx)), .val (.int (Int32.ofNat xo)), .val (.int (Int32.ofNat ji)), .val (.int (Int32.ofNat ye))] [(.int (Int32.ofNat ye)), (.ref b2)]))
            refine OwnR.of (own_iaload X10 hx hZ e10 G10 (own_cN hyn hn4) (own_nN hyn hn4) hyn (v := (.int ((own_dec qd ye).getD ye 0))) rfl (g := (mkF m 154 #[.val (.ref rel), .val (.ref b2), .val (.ref b5), .val (.int (Int32.ofNat rd)), .val (.int (Int32.ofNat nx)), .val (.int (Int32.ofNat xo)), .val (.int (Int32.ofNat ji)), .val (.int (Int32.ofNat ye))] [(.int (Int32.ofNat ye)), (.ref b2)])) rfl rfl (hb hby d5_154)) ?_
            show OwnR _ _ _ _ _ _ _ (T10.setTop (mkF m 155 #[.val (.ref rel), .val (.ref b2), .val (.ref b5), .val (.int (Int32.ofNat rd)), .val (.int (Int32.ofNat nx)), .val (.int (Int32.ofNat xo)), .val (.int (Int32.ofNat ji)), .val (.int (Int32.ofNat ye))] [(.int ((own_dec qd ye).getD ye 0))]))
            by_cases hc155_11 : ((own_dec qd ye).getD ye 0) = (0 : Int32)
            · skip
              refine OwnR.of (fun _ hr => XS.ifNo X10.here hx rfl (hb hby d5_155) rfl ((if0 _ _).trans (teq hc155_11).2) hr) ?_
              show OwnR _ _ _ _ _ _ _ (T10.setTop (mkF m 158 #[.val (.ref rel), .val (.ref b2), .val (.ref b5), .val (.int (Int32.ofNat rd)), .val (.int (Int32.ofNat nx)), .val (.int (Int32.ofNat xo)), .val (.int (Int32.ofNat ji)), .val (.int (Int32.ofNat ye))] []))
              refine OwnR.of (fun _ hr => XS.aloadN X10.here hx rfl (hb hby d5_158) rfl rfl hr) ?_
              show OwnR _ _ _ _ _ _ _ (T10.setTop (mkF m 159 #[.val (.ref rel), .val (.ref b2), .val (.ref b5), .val (.int (Int32.ofNat rd)), .val (.int (Int32.ofNat nx)), .val (.int (Int32.ofNat xo)), .val (.int (Int32.ofNat ji)), .val (.int (Int32.ofNat ye))] [(.ref b5)]))
              refine OwnR.of (fun _ hr => XS.iloadN X10.here hx rfl (hb hby d5_159) rfl hr) ?_
              show OwnR _ _ _ _ _ _ _ (T10.setTop (mkF m 160 #[.val (.ref rel), .val (.ref b2), .val (.ref b5), .val (.int (Int32.ofNat rd)), .val (.int (Int32.ofNat nx)), .val (.int (Int32.ofNat xo)), .val (.int (Int32.ofNat ji)), .val (.int (Int32.ofNat ye))] [(.int (Int32.ofNat rd)), (.ref b5)]))
              refine OwnR.of (fun _ hr => XS.iload X10.here hx rfl (hb hby d5_160) rfl hr) ?_
              show OwnR _ _ _ _ _ _ _ (T10.setTop (mkF m 162 #[.val (.ref rel), .val (.ref b2), .val (.ref b5), .val (.int (Int32.ofNat rd)), .val (.int (Int32.ofNat nx)), .val (.int (Int32.ofNat xo)), .val (.int (Int32.ofNat ji)), .val (.int (Int32.ofNat ye))] [(.int (Int32.ofNat ye)), (.int (Int32.ofNat rd)), (.ref b5)]))
              obtain ⟨hrd, hq5⟩ := own_in3Y hji hq4 (by rw [← hye]; exact hc155_11)
              rw [hl4] at hrd
              rw [← hye] at hq5
              obtain ⟨T12, h12, X12, e12, W12, st12⟩ := own_iastore X10 hx hZ e10 (OwnF.other FOD W10 (Ne.symm n_po)) (own_cN hrd hn4) (own_nN hrd hn4) hrd (g := (mkF m 162 #[.val (.ref rel), .val (.ref b2), .val (.ref b5), .val (.int (Int32.ofNat rd)), .val (.int (Int32.ofNat nx)), .val (.int (Int32.ofNat xo)), .val (.int (Int32.ofNat ji)), .val (.int (Int32.ofNat ye))] [(.int (Int32.ofNat ye)), (.int (Int32.ofNat rd)), (.ref b5)])) rfl rfl (hb hby d5_162)
              refine OwnR.of (st12) ?_
              have G12 := OwnF.congr (OwnF.set (OwnF.other FOD W10 (Ne.symm n_po)) W12) fun j _ => own_atF hrd hl4 j
              have K12 : Keep h0 h12 [] := Keep.wr K10 W12 (Or.inr sz_b5)
              have N12 := Fr.snoc X12 N10 gn_b5
              show OwnR _ _ _ _ _ _ _ (T12.setTop (mkF m 163 #[.val (.ref rel), .val (.ref b2), .val (.ref b5), .val (.int (Int32.ofNat rd)), .val (.int (Int32.ofNat nx)), .val (.int (Int32.ofNat xo)), .val (.int (Int32.ofNat ji)), .val (.int (Int32.ofNat ye))] []))
              refine OwnR.of (fun _ hr => XS.iinc X12.here hx rfl (hb hby d5_163) rfl (l' := #[.val (.ref rel), .val (.ref b2), .val (.ref b5), .val (.int ((Int32.ofNat rd) + (1 : Int32))), .val (.int (Int32.ofNat nx)), .val (.int (Int32.ofNat xo)), .val (.int (Int32.ofNat ji)), .val (.int (Int32.ofNat ye))]) rfl hr) ?_
              show OwnR _ _ _ _ _ _ _ (T12.setTop (mkF m 166 #[.val (.ref rel), .val (.ref b2), .val (.ref b5), .val (.int ((Int32.ofNat rd) + (1 : Int32))), .val (.int (Int32.ofNat nx)), .val (.int (Int32.ofNat xo)), .val (.int (Int32.ofNat ji)), .val (.int (Int32.ofNat ye))] []))
              refine OwnR.of (fun _ hr => XS.iinc X12.here hx rfl (hb hby d5_166) rfl (l' := #[.val (.ref rel), .val (.ref b2), .val (.ref b5), .val (.int ((Int32.ofNat rd) + (1 : Int32))), .val (.int (Int32.ofNat nx)), .val (.int (Int32.ofNat xo)), .val (.int ((Int32.ofNat ji) + (1 : Int32))), .val (.int (Int32.ofNat ye))]) rfl hr) ?_
              show OwnR _ _ _ _ _ _ _ (T12.setTop (mkF m 169 #[.val (.ref rel), .val (.ref b2), .val (.ref b5), .val (.int ((Int32.ofNat rd) + (1 : Int32))), .val (.int (Int32.ofNat nx)), .val (.int (Int32.ofNat xo)), .val (.int ((Int32.ofNat ji) + (1 : Int32))), .val (.int (Int32.ofNat ye))] []))
              refine OwnR.of (fun _ hr => XS.goto X12.here hx rfl (pc0 := 169) (pc' := 119) rfl (hb hby d5_169) (by decide) (by decide) hr) ?_
              show OwnR _ _ _ _ _ _ _ (T12.setTop (mkF m 119 #[.val (.ref rel), .val (.ref b2), .val (.ref b5), .val (.int ((Int32.ofNat rd) + (1 : Int32))), .val (.int (Int32.ofNat nx)), .val (.int (Int32.ofNat xo)), .val (.int ((Int32.ofNat ji) + (1 : Int32))), .val (.int (Int32.ofNat ye))] []))
              rw [own_succ rd, own_succ ji]
              exact ih4 (ji + 1) _ _ _ _ _ _ _ (Or.inr ⟨_, rfl⟩) (own_ds hd4) (by rw [own_decL]; exact hlp4) (by rw [List.length_set]; exact hl4) hrd X12 e12 K12 N12 (OwnF.other G10 W12 n_po) G12 hq5
            · skip
              refine OwnR.of (fun _ hr => XS.ifYes X10.here hx rfl (pc0 := 155) (pc' := 166) rfl (hb hby d5_155) rfl ((if0 _ _).trans (feq hc155_11).2) (by decide) (by decide) hr) ?_
              show OwnR _ _ _ _ _ _ _ (T10.setTop (mkF m 166 #[.val (.ref rel), .val (.ref b2), .val (.ref b5), .val (.int (Int32.ofNat rd)), .val (.int (Int32.ofNat nx)), .val (.int (Int32.ofNat xo)), .val (.int (Int32.ofNat ji)), .val (.int (Int32.ofNat ye))] []))
              refine OwnR.of (fun _ hr => XS.iinc X10.here hx rfl (hb hby d5_166) rfl (l' := #[.val (.ref rel), .val (.ref b2), .val (.ref b5), .val (.int (Int32.ofNat rd)), .val (.int (Int32.ofNat nx)), .val (.int (Int32.ofNat xo)), .val (.int ((Int32.ofNat ji) + (1 : Int32))), .val (.int (Int32.ofNat ye))]) rfl hr) ?_
              show OwnR _ _ _ _ _ _ _ (T10.setTop (mkF m 169 #[.val (.ref rel), .val (.ref b2), .val (.ref b5), .val (.int (Int32.ofNat rd)), .val (.int (Int32.ofNat nx)), .val (.int (Int32.ofNat xo)), .val (.int ((Int32.ofNat ji) + (1 : Int32))), .val (.int (Int32.ofNat ye))] []))
              refine OwnR.of (fun _ hr => XS.goto X10.here hx rfl (pc0 := 169) (pc' := 119) rfl (hb hby d5_169) (by decide) (by decide) hr) ?_
              show OwnR _ _ _ _ _ _ _ (T10.setTop (mkF m 119 #[.val (.ref rel), .val (.ref b2), .val (.ref b5), .val (.int (Int32.ofNat rd)), .val (.int (Int32.ofNat nx)), .val (.int (Int32.ofNat xo)), .val (.int ((Int32.ofNat ji) + (1 : Int32))), .val (.int (Int32.ofNat ye))] []))
              rw [own_succ ji]
              exact ih4 (ji + 1) _ _ _ _ _ _ _ (Or.inr ⟨_, rfl⟩) (own_ds hd4) (by rw [own_decL]; exact hlp4) hl4 hr4 X10 e10 K10 N10 G10 (OwnF.other FOD W10 (Ne.symm n_po)) (by rw [hye] at hc155_11 ⊢; exact own_in3N hji hq4 hc155_11)
        · skip
          have hz3' := own_out3N hq3 hlt3
          obtain ⟨y1, y2⟩ := Prod.mk.inj hz3'
          obtain ⟨y2, y3⟩ := Prod.mk.inj y2
          rw [y1, y2, y3] at t4
          show OwnR _ _ _ _ _ _ _ (TC.setTop (mkF m 104 #[.val (.ref rel), .val (.ref b2), .val (.ref b5), .val (.int (Int32.ofNat rk3)), .val (.int (Int32.ofNat nx)), z5, z6, z7] []))
          refine OwnR.of (fun _ hr => XS.iload XC.here hx rfl (hb hby d5_104) rfl hr) ?_
          show OwnR _ _ _ _ _ _ _ (TC.setTop (mkF m 106 #[.val (.ref rel), .val (.ref b2), .val (.ref b5), .val (.int (Int32.ofNat rk3)), .val (.int (Int32.ofNat nx)), z5, z6, z7] [(.int (Int32.ofNat nx))]))
          refine OwnR.of (fun _ hr => XS.iloadN XC.here hx rfl (hb hby d5_106) rfl hr) ?_
          show OwnR _ _ _ _ _ _ _ (TC.setTop (mkF m 107 #[.val (.ref rel), .val (.ref b2), .val (.ref b5), .val (.int (Int32.ofNat rk3)), .val (.int (Int32.ofNat nx)), z5, z6, z7] [(.int (Int32.ofNat rk3)), (.int (Int32.ofNat nx))]))
          refine OwnR.of (fun _ hr => XS.icmpYes XC.here hx rfl (pc0 := 107) (pc' := 178) rfl (hb hby d5_107) rfl (flt (own_nl5 hlt3 (own_f5 hd3) (own_le4 hr3 hn4))).2.1 (by decide) (by decide) hr) ?_
          show OwnR _ _ _ _ _ _ _ (TC.setTop (mkF m 178 #[.val (.ref rel), .val (.ref b2), .val (.ref b5), .val (.int (Int32.ofNat rk3)), .val (.int (Int32.ofNat nx)), z5, z6, z7] []))
          refine OwnR.of (fun _ hr => XS.iconst XC.here hx rfl (hb hby d5_178) hr) ?_
          show OwnR _ _ _ _ _ _ _ (TC.setTop (mkF m 179 #[.val (.ref rel), .val (.ref b2), .val (.ref b5), .val (.int (Int32.ofNat rk3)), .val (.int (Int32.ofNat nx)), z5, z6, z7] [(.int (0 : Int32))]))
          refine OwnR.of (fun _ hr => XS.istore XC.here hx rfl (hb hby d5_179) rfl (l' := #[.val (.ref rel), .val (.ref b2), .val (.ref b5), .val (.int (Int32.ofNat rk3)), .val (.int (0 : Int32)), z5, z6, z7]) rfl hr) ?_
          show OwnR _ _ _ _ _ _ _ (TC.setTop (mkF m 181 #[.val (.ref rel), .val (.ref b2), .val (.ref b5), .val (.int (Int32.ofNat rk3)), .val (.int (0 : Int32)), z5, z6, z7] []))
          suffices loopG : ∀ (dG eGi : Nat) (TG : State) (hG : Heap) (LG : List Loc) (orG : List Nat) (rkG : Nat), eGi + dG = n → orG.length = n → rkG ≤ n → Stand p l e ({ frames := 0, cells := 2, slots := 6, locals := 0 } : Room) s m #[(.ref rel)] below meth c TG LG 2 6 → TG.heap = hG → Keep h0 hG [] → Fr n0 LG → OwnF Z hG b2 k2 .int n (fun j => .int (pc3.getD j 0)) → OwnF Z hG b5 k5 .int n (fun j => .int (own_at orG j)) → own_f4 pc3 (List.range' eGi dG) orG rkG = some (res, r4) → OwnR p e below s (QTop Z n res h0 n0) ({ frames := 0, cells := 2, slots := 6, locals := 0 } : Room).cells ({ frames := 0, cells := 2, slots := 6, locals := 0 } : Room).slots (TG.setTop (mkF m 181 #[.val (.ref rel), .val (.ref b2), .val (.ref b5), .val (.int (Int32.ofNat rkG)), .val (.int (Int32.ofNat eGi)), z5, z6, z7] [])) by
            exact loopG n 0 _ _ _ _ _ (Nat.zero_add n) hl3 hr3 XC eC KC NC FPC FOC t4
          intro dG
          induction dG with
          | zero =>
            intro eGi TG hG LG orG rkG hdG hlG hrG XG eG KG NG FPG FOG hqG
            rw [show eGi = n from hdG]
            obtain ⟨uG, wG⟩ := own_f40 hqG
            show OwnR _ _ _ _ _ _ _ (TG.setTop (mkF m 181 #[.val (.ref rel), .val (.ref b2), .val (.ref b5), .val (.int (Int32.ofNat rkG)), .val (.int (Int32.ofNat n)), z5, z6, z7] []))
            refine OwnR.of (fun _ hr => XS.iload XG.here hx rfl (hb hby d5_181) rfl hr) ?_
            show OwnR _ _ _ _ _ _ _ (TG.setTop (mkF m 183 #[.val (.ref rel), .val (.ref b2), .val (.ref b5), .val (.int (Int32.ofNat rkG)), .val (.int (Int32.ofNat n)), z5, z6, z7] [(.int (Int32.ofNat n))]))
            refine OwnR.of (fun _ hr => XS.aloadN XG.here hx rfl (hb hby d5_183) rfl rfl hr) ?_
            show OwnR _ _ _ _ _ _ _ (TG.setTop (mkF m 184 #[.val (.ref rel), .val (.ref b2), .val (.ref b5), .val (.int (Int32.ofNat rkG)), .val (.int (Int32.ofNat n)), z5, z6, z7] [(.ref rel), (.int (Int32.ofNat n))]))
            obtain ⟨T13, X13, e13, st13⟩ := getF XG hx hZ hown (host := "") (Or.inl (hw _ (List.mem_of_getElem? (i := 15) rfl))) Via.refl eG (Fld.keep F_rows_rel KG nin0) (g := (mkF m 184 #[.val (.ref rel), .val (.ref b2), .val (.ref b5), .val (.int (Int32.ofNat rkG)), .val (.int (Int32.ofNat n)), z5, z6, z7] [(.ref rel), (.int (Int32.ofNat n))])) rfl rfl (hb hby d5_184)
            refine OwnR.of (st13) ?_
            show OwnR _ _ _ _ _ _ _ (T13.setTop (mkF m 187 #[.val (.ref rel), .val (.ref b2), .val (.ref b5), .val (.int (Int32.ofNat rkG)), .val (.int (Int32.ofNat n)), z5, z6, z7] [(.ref ro), (.int (Int32.ofNat n))]))
            refine OwnR.of (own_alen X13 hx hZ e13 (OwnF.keep RR.1 KG nin0) (z := (Int32.ofNat n)) (own_c4 hn4) (own_n4 hn4) (g := (mkF m 187 #[.val (.ref rel), .val (.ref b2), .val (.ref b5), .val (.int (Int32.ofNat rkG)), .val (.int (Int32.ofNat n)), z5, z6, z7] [(.ref ro), (.int (Int32.ofNat n))])) rfl rfl (hb hby d5_187)) ?_
            show OwnR _ _ _ _ _ _ _ (T13.setTop (mkF m 188 #[.val (.ref rel), .val (.ref b2), .val (.ref b5), .val (.int (Int32.ofNat rkG)), .val (.int (Int32.ofNat n)), z5, z6, z7] [(.int (Int32.ofNat n)), (.int (Int32.ofNat n))]))
            refine OwnR.of (fun _ hr => XS.icmpYes X13.here hx rfl (pc0 := 188) (pc' := 212) rfl (hb hby d5_188) rfl (flt (own_ge4 (Nat.le_refl n) hn4)).2.1 (by decide) (by decide) hr) ?_
            show OwnR _ _ _ _ _ _ _ (T13.setTop (mkF m 212 #[.val (.ref rel), .val (.ref b2), .val (.ref b5), .val (.int (Int32.ofNat rkG)), .val (.int (Int32.ofNat n)), z5, z6, z7] []))
            refine OwnR.of (fun _ hr => XS.aloadN X13.here hx rfl (hb hby d5_212) rfl rfl hr) ?_
            show OwnR _ _ _ _ _ _ _ (T13.setTop (mkF m 213 #[.val (.ref rel), .val (.ref b2), .val (.ref b5), .val (.int (Int32.ofNat rkG)), .val (.int (Int32.ofNat n)), z5, z6, z7] [(.ref b5)]))
            refine own_leafA X13 hx hlk Bd.returns rfl rfl (hb hby d5_213) (by decide) (by decide) ?_
            show QTop Z n res h0 n0 _ T13.heap _
            rw [show T13.heap = hG from e13]
            refine ⟨b5, k5, ?_, NG, ⟨KG, (by rw [← uG]; exact FOG), sz_b5, gn_b5⟩⟩
            show (some (.ref b5) : Option Value) = some (.ref b5)
            rfl
          | succ dG ihG =>
            intro eGi TG hG LG orG rkG hdG hlG hrG XG eG KG NG FPG FOG hqG
            have heG := own_dl hdG
            show OwnR _ _ _ _ _ _ _ (TG.setTop (mkF m 181 #[.val (.ref rel), .val (.ref b2), .val (.ref b5), .val (.int (Int32.ofNat rkG)), .val (.int (Int32.ofNat eGi)), z5, z6, z7] []))
            refine OwnR.of (fun _ hr => XS.iload XG.here hx rfl (hb hby d5_181) rfl hr) ?_
            show OwnR _ _ _ _ _ _ _ (TG.setTop (mkF m 183 #[.val (.ref rel), .val (.ref b2), .val (.ref b5), .val (.int (Int32.ofNat rkG)), .val (.int (Int32.ofNat eGi)), z5, z6, z7] [(.int (Int32.ofNat eGi))]))
            refine OwnR.of (fun _ hr => XS.aloadN XG.here hx rfl (hb hby d5_183) rfl rfl hr) ?_
            show OwnR _ _ _ _ _ _ _ (TG.setTop (mkF m 184 #[.val (.ref rel), .val (.ref b2), .val (.ref b5), .val (.int (Int32.ofNat rkG)), .val (.int (Int32.ofNat eGi)), z5, z6, z7] [(.ref rel), (.int (Int32.ofNat eGi))]))
            obtain ⟨T14, X14, e14, st14⟩ := getF XG hx hZ hown (host := "") (Or.inl (hw _ (List.mem_of_getElem? (i := 15) rfl))) Via.refl eG (Fld.keep F_rows_rel KG nin0) (g := (mkF m 184 #[.val (.ref rel), .val (.ref b2), .val (.ref b5), .val (.int (Int32.ofNat rkG)), .val (.int (Int32.ofNat eGi)), z5, z6, z7] [(.ref rel), (.int (Int32.ofNat eGi))])) rfl rfl (hb hby d5_184)
            refine OwnR.of (st14) ?_
            show OwnR _ _ _ _ _ _ _ (T14.setTop (mkF m 187 #[.val (.ref rel), .val (.ref b2), .val (.ref b5), .val (.int (Int32.ofNat rkG)), .val (.int (Int32.ofNat eGi)), z5, z6, z7] [(.ref ro), (.int (Int32.ofNat eGi))]))
            refine OwnR.of (own_alen X14 hx hZ e14 (OwnF.keep RR.1 KG nin0) (z := (Int32.ofNat n)) (own_c4 hn4) (own_n4 hn4) (g := (mkF m 187 #[.val (.ref rel), .val (.ref b2), .val (.ref b5), .val (.int (Int32.ofNat rkG)), .val (.int (Int32.ofNat eGi)), z5, z6, z7] [(.ref ro), (.int (Int32.ofNat eGi))])) rfl rfl (hb hby d5_187)) ?_
            show OwnR _ _ _ _ _ _ _ (T14.setTop (mkF m 188 #[.val (.ref rel), .val (.ref b2), .val (.ref b5), .val (.int (Int32.ofNat rkG)), .val (.int (Int32.ofNat eGi)), z5, z6, z7] [(.int (Int32.ofNat n)), (.int (Int32.ofNat eGi))]))
            refine OwnR.of (fun _ hr => XS.icmpNo X14.here hx rfl (hb hby d5_188) rfl (tlt (own_lt4 heG hn4)).2.1 hr) ?_
            show OwnR _ _ _ _ _ _ _ (T14.setTop (mkF m 191 #[.val (.ref rel), .val (.ref b2), .val (.ref b5), .val (.int (Int32.ofNat rkG)), .val (.int (Int32.ofNat eGi)), z5, z6, z7] []))
            refine OwnR.of (fun _ hr => XS.aloadN X14.here hx rfl (hb hby d5_191) rfl rfl hr) ?_
            show OwnR _ _ _ _ _ _ _ (T14.setTop (mkF m 192 #[.val (.ref rel), .val (.ref b2), .val (.ref b5), .val (.int (Int32.ofNat rkG)), .val (.int (Int32.ofNat eGi)), z5, z6, z7] [(.ref b2)]))
            refine OwnR.of (fun _ hr => XS.iload X14.here hx rfl (hb hby d5_192) rfl hr) ?_
            show OwnR _ _ _ _ _ _ _ (T14.setTop (mkF m 194 #[.val (.ref rel), .val (.ref b2), .val (.ref b5), .val (.int (Int32.ofNat rkG)), .val (.int (Int32.ofNat eGi)), z5, z6, z7] [(.int (Int32.ofNat eGi)), (.ref b2)]))
            refine OwnR.of (own_iaload X14 hx hZ e14 FPG (own_cN heG hn4) (own_nN heG hn4) heG (v := (.int (pc3.getD eGi 0))) rfl (g := (mkF m 194 #[.val (.ref rel), .val (.ref b2), .val (.ref b5), .val (.int (Int32.ofNat rkG)), .val (.int (Int32.ofNat eGi)), z5, z6, z7] [(.int (Int32.ofNat eGi)), (.ref b2)])) rfl rfl (hb hby d5_194)) ?_
            show OwnR _ _ _ _ _ _ _ (T14.setTop (mkF m 195 #[.val (.ref rel), .val (.ref b2), .val (.ref b5), .val (.int (Int32.ofNat rkG)), .val (.int (Int32.ofNat eGi)), z5, z6, z7] [(.int (pc3.getD eGi 0))]))
            by_cases hc195_15 : (0 : Int32) < (pc3.getD eGi 0)
            · skip
              refine OwnR.of (fun _ hr => XS.ifNo X14.here hx rfl (hb hby d5_195) rfl ((if0 _ _).trans (tlt hc195_15).2.2.2) hr) ?_
              show OwnR _ _ _ _ _ _ _ (T14.setTop (mkF m 198 #[.val (.ref rel), .val (.ref b2), .val (.ref b5), .val (.int (Int32.ofNat rkG)), .val (.int (Int32.ofNat eGi)), z5, z6, z7] []))
              refine OwnR.of (fun _ hr => XS.aloadN X14.here hx rfl (hb hby d5_198) rfl rfl hr) ?_
              show OwnR _ _ _ _ _ _ _ (T14.setTop (mkF m 199 #[.val (.ref rel), .val (.ref b2), .val (.ref b5), .val (.int (Int32.ofNat rkG)), .val (.int (Int32.ofNat eGi)), z5, z6, z7] [(.ref b5)]))
              refine OwnR.of (fun _ hr => XS.iloadN X14.here hx rfl (hb hby d5_199) rfl hr) ?_
              show OwnR _ _ _ _ _ _ _ (T14.setTop (mkF m 200 #[.val (.ref rel), .val (.ref b2), .val (.ref b5), .val (.int (Int32.ofNat rkG)), .val (.int (Int32.ofNat eGi)), z5, z6, z7] [(.int (Int32.ofNat rkG)), (.ref b5)]))
              refine OwnR.of (fun _ hr => XS.iload X14.here hx rfl (hb hby d5_200) rfl hr) ?_
              show OwnR _ _ _ _ _ _ _ (T14.setTop (mkF m 202 #[.val (.ref rel), .val (.ref b2), .val (.ref b5), .val (.int (Int32.ofNat rkG)), .val (.int (Int32.ofNat eGi)), z5, z6, z7] [(.int (Int32.ofNat eGi)), (.int (Int32.ofNat rkG)), (.ref b5)]))
              obtain ⟨hrGn, hnG⟩ := own_f4Y hqG hc195_15
              rw [hlG] at hrGn
              obtain ⟨T16, h16, X16, e16, W16, st16⟩ := own_iastore X14 hx hZ e14 FOG (own_cN hrGn hn4) (own_nN hrGn hn4) hrGn (g := (mkF m 202 #[.val (.ref rel), .val (.ref b2), .val (.ref b5), .val (.int (Int32.ofNat rkG)), .val (.int (Int32.ofNat eGi)), z5, z6, z7] [(.int (Int32.ofNat eGi)), (.int (Int32.ofNat rkG)), (.ref b5)])) rfl rfl (hb hby d5_202)
              refine OwnR.of (st16) ?_
              have G16 := OwnF.congr (OwnF.set FOG W16) fun j _ => own_atF hrGn hlG j
              have K16 : Keep h0 h16 [] := Keep.wr KG W16 (Or.inr sz_b5)
              have N16 := Fr.snoc X16 NG gn_b5
              show OwnR _ _ _ _ _ _ _ (T16.setTop (mkF m 203 #[.val (.ref rel), .val (.ref b2), .val (.ref b5), .val (.int (Int32.ofNat rkG)), .val (.int (Int32.ofNat eGi)), z5, z6, z7] []))
              refine OwnR.of (fun _ hr => XS.iinc X16.here hx rfl (hb hby d5_203) rfl (l' := #[.val (.ref rel), .val (.ref b2), .val (.ref b5), .val (.int ((Int32.ofNat rkG) + (1 : Int32))), .val (.int (Int32.ofNat eGi)), z5, z6, z7]) rfl hr) ?_
              show OwnR _ _ _ _ _ _ _ (T16.setTop (mkF m 206 #[.val (.ref rel), .val (.ref b2), .val (.ref b5), .val (.int ((Int32.ofNat rkG) + (1 : Int32))), .val (.int (Int32.ofNat eGi)), z5, z6, z7] []))
              refine OwnR.of (fun _ hr => XS.iinc X16.here hx rfl (hb hby d5_206) rfl (l' := #[.val (.ref rel), .val (.ref b2), .val (.ref b5), .val (.int ((Int32.ofNat rkG) + (1 : Int32))), .val (.int ((Int32.ofNat eGi) + (1 : Int32))), z5, z6, z7]) rfl hr) ?_
              show OwnR _ _ _ _ _ _ _ (T16.setTop (mkF m 209 #[.val (.ref rel), .val (.ref b2), .val (.ref b5), .val (.int ((Int32.ofNat rkG) + (1 : Int32))), .val (.int ((Int32.ofNat eGi) + (1 : Int32))), z5, z6, z7] []))
              refine OwnR.of (fun _ hr => XS.goto X16.here hx rfl (pc0 := 209) (pc' := 181) rfl (hb hby d5_209) (by decide) (by decide) hr) ?_
              show OwnR _ _ _ _ _ _ _ (T16.setTop (mkF m 181 #[.val (.ref rel), .val (.ref b2), .val (.ref b5), .val (.int ((Int32.ofNat rkG) + (1 : Int32))), .val (.int ((Int32.ofNat eGi) + (1 : Int32))), z5, z6, z7] []))
              rw [own_succ rkG, own_succ eGi]
              exact ihG (eGi + 1) _ _ _ _ _ (own_ds hdG) (by rw [List.length_set]; exact hlG) hrGn X16 e16 K16 N16 (OwnF.other FPG W16 n_po) G16 hnG
            · skip
              refine OwnR.of (fun _ hr => XS.ifYes X14.here hx rfl (pc0 := 195) (pc' := 206) rfl (hb hby d5_195) rfl ((if0 _ _).trans (flt hc195_15).2.2.2) (by decide) (by decide) hr) ?_
              show OwnR _ _ _ _ _ _ _ (T14.setTop (mkF m 206 #[.val (.ref rel), .val (.ref b2), .val (.ref b5), .val (.int (Int32.ofNat rkG)), .val (.int (Int32.ofNat eGi)), z5, z6, z7] []))
              refine OwnR.of (fun _ hr => XS.iinc X14.here hx rfl (hb hby d5_206) rfl (l' := #[.val (.ref rel), .val (.ref b2), .val (.ref b5), .val (.int (Int32.ofNat rkG)), .val (.int ((Int32.ofNat eGi) + (1 : Int32))), z5, z6, z7]) rfl hr) ?_
              show OwnR _ _ _ _ _ _ _ (T14.setTop (mkF m 209 #[.val (.ref rel), .val (.ref b2), .val (.ref b5), .val (.int (Int32.ofNat rkG)), .val (.int ((Int32.ofNat eGi) + (1 : Int32))), z5, z6, z7] []))
              refine OwnR.of (fun _ hr => XS.goto X14.here hx rfl (pc0 := 209) (pc' := 181) rfl (hb hby d5_209) (by decide) (by decide) hr) ?_
              show OwnR _ _ _ _ _ _ _ (T14.setTop (mkF m 181 #[.val (.ref rel), .val (.ref b2), .val (.ref b5), .val (.int (Int32.ofNat rkG)), .val (.int ((Int32.ofNat eGi) + (1 : Int32))), z5, z6, z7] []))
              rw [own_succ eGi]
              exact ihG (eGi + 1) _ _ _ _ _ (own_ds hdG) hlG hrG X14 e14 KG NG FPG FOG (own_f4N hqG hc195_15)
    | succ dF ihF =>
      intro eFi TF hF LF orF rkF hdF hlF hrF XF eF KF NF FPF FOF hqF
      have heF := own_dl hdF
      show OwnR _ _ _ _ _ _ _ (TF.setTop (mkF m 70 #[.val (.ref rel), .val (.ref b2), .val (.ref b5), .val (.int (Int32.ofNat rkF)), .val (.int (Int32.ofNat eFi)), .unset, .unset, .unset] []))
      refine OwnR.of (fun _ hr => XS.iload XF.here hx rfl (hb hby d5_70) rfl hr) ?_
      show OwnR _ _ _ _ _ _ _ (TF.setTop (mkF m 72 #[.val (.ref rel), .val (.ref b2), .val (.ref b5), .val (.int (Int32.ofNat rkF)), .val (.int (Int32.ofNat eFi)), .unset, .unset, .unset] [(.int (Int32.ofNat eFi))]))
      refine OwnR.of (fun _ hr => XS.aloadN XF.here hx rfl (hb hby d5_72) rfl rfl hr) ?_
      show OwnR _ _ _ _ _ _ _ (TF.setTop (mkF m 73 #[.val (.ref rel), .val (.ref b2), .val (.ref b5), .val (.int (Int32.ofNat rkF)), .val (.int (Int32.ofNat eFi)), .unset, .unset, .unset] [(.ref rel), (.int (Int32.ofNat eFi))]))
      obtain ⟨T17, X17, e17, st17⟩ := getF XF hx hZ hown (host := "") (Or.inl (hw _ (List.mem_of_getElem? (i := 15) rfl))) Via.refl eF (Fld.keep F_rows_rel KF nin0) (g := (mkF m 73 #[.val (.ref rel), .val (.ref b2), .val (.ref b5), .val (.int (Int32.ofNat rkF)), .val (.int (Int32.ofNat eFi)), .unset, .unset, .unset] [(.ref rel), (.int (Int32.ofNat eFi))])) rfl rfl (hb hby d5_73)
      refine OwnR.of (st17) ?_
      show OwnR _ _ _ _ _ _ _ (T17.setTop (mkF m 76 #[.val (.ref rel), .val (.ref b2), .val (.ref b5), .val (.int (Int32.ofNat rkF)), .val (.int (Int32.ofNat eFi)), .unset, .unset, .unset] [(.ref ro), (.int (Int32.ofNat eFi))]))
      refine OwnR.of (own_alen X17 hx hZ e17 (OwnF.keep RR.1 KF nin0) (z := (Int32.ofNat n)) (own_c4 hn4) (own_n4 hn4) (g := (mkF m 76 #[.val (.ref rel), .val (.ref b2), .val (.ref b5), .val (.int (Int32.ofNat rkF)), .val (.int (Int32.ofNat eFi)), .unset, .unset, .unset] [(.ref ro), (.int (Int32.ofNat eFi))])) rfl rfl (hb hby d5_76)) ?_
      show OwnR _ _ _ _ _ _ _ (T17.setTop (mkF m 77 #[.val (.ref rel), .val (.ref b2), .val (.ref b5), .val (.int (Int32.ofNat rkF)), .val (.int (Int32.ofNat eFi)), .unset, .unset, .unset] [(.int (Int32.ofNat n)), (.int (Int32.ofNat eFi))]))
      refine OwnR.of (fun _ hr => XS.icmpNo X17.here hx rfl (hb hby d5_77) rfl (tlt (own_lt4 heF hn4)).2.1 hr) ?_
      show OwnR _ _ _ _ _ _ _ (T17.setTop (mkF m 80 #[.val (.ref rel), .val (.ref b2), .val (.ref b5), .val (.int (Int32.ofNat rkF)), .val (.int (Int32.ofNat eFi)), .unset, .unset, .unset] []))
      refine OwnR.of (fun _ hr => XS.aloadN X17.here hx rfl (hb hby d5_80) rfl rfl hr) ?_
      show OwnR _ _ _ _ _ _ _ (T17.setTop (mkF m 81 #[.val (.ref rel), .val (.ref b2), .val (.ref b5), .val (.int (Int32.ofNat rkF)), .val (.int (Int32.ofNat eFi)), .unset, .unset, .unset] [(.ref b2)]))
      refine OwnR.of (fun _ hr => XS.iload X17.here hx rfl (hb hby d5_81) rfl hr) ?_
      show OwnR _ _ _ _ _ _ _ (T17.setTop (mkF m 83 #[.val (.ref rel), .val (.ref b2), .val (.ref b5), .val (.int (Int32.ofNat rkF)), .val (.int (Int32.ofNat eFi)), .unset, .unset, .unset] [(.int (Int32.ofNat eFi)), (.ref b2)]))
      refine OwnR.of (own_iaload X17 hx hZ e17 FPF (own_cN heF hn4) (own_nN heF hn4) heF (v := (.int (P1.getD eFi 0))) rfl (g := (mkF m 83 #[.val (.ref rel), .val (.ref b2), .val (.ref b5), .val (.int (Int32.ofNat rkF)), .val (.int (Int32.ofNat eFi)), .unset, .unset, .unset] [(.int (Int32.ofNat eFi)), (.ref b2)])) rfl rfl (hb hby d5_83)) ?_
      show OwnR _ _ _ _ _ _ _ (T17.setTop (mkF m 84 #[.val (.ref rel), .val (.ref b2), .val (.ref b5), .val (.int (Int32.ofNat rkF)), .val (.int (Int32.ofNat eFi)), .unset, .unset, .unset] [(.int (P1.getD eFi 0))]))
      by_cases hc84_18 : (P1.getD eFi 0) = (0 : Int32)
      · skip
        refine OwnR.of (fun _ hr => XS.ifNo X17.here hx rfl (hb hby d5_84) rfl ((if0 _ _).trans (teq hc84_18).2) hr) ?_
        show OwnR _ _ _ _ _ _ _ (T17.setTop (mkF m 87 #[.val (.ref rel), .val (.ref b2), .val (.ref b5), .val (.int (Int32.ofNat rkF)), .val (.int (Int32.ofNat eFi)), .unset, .unset, .unset] []))
        refine OwnR.of (fun _ hr => XS.aloadN X17.here hx rfl (hb hby d5_87) rfl rfl hr) ?_
        show OwnR _ _ _ _ _ _ _ (T17.setTop (mkF m 88 #[.val (.ref rel), .val (.ref b2), .val (.ref b5), .val (.int (Int32.ofNat rkF)), .val (.int (Int32.ofNat eFi)), .unset, .unset, .unset] [(.ref b5)]))
        refine OwnR.of (fun _ hr => XS.iloadN X17.here hx rfl (hb hby d5_88) rfl hr) ?_
        show OwnR _ _ _ _ _ _ _ (T17.setTop (mkF m 89 #[.val (.ref rel), .val (.ref b2), .val (.ref b5), .val (.int (Int32.ofNat rkF)), .val (.int (Int32.ofNat eFi)), .unset, .unset, .unset] [(.int (Int32.ofNat rkF)), (.ref b5)]))
        refine OwnR.of (fun _ hr => XS.iload X17.here hx rfl (hb hby d5_89) rfl hr) ?_
        show OwnR _ _ _ _ _ _ _ (T17.setTop (mkF m 91 #[.val (.ref rel), .val (.ref b2), .val (.ref b5), .val (.int (Int32.ofNat rkF)), .val (.int (Int32.ofNat eFi)), .unset, .unset, .unset] [(.int (Int32.ofNat eFi)), (.int (Int32.ofNat rkF)), (.ref b5)]))
        obtain ⟨hrFn, hnF⟩ := own_f2Y hqF hc84_18
        rw [hlF] at hrFn
        obtain ⟨T19, h19, X19, e19, W19, st19⟩ := own_iastore X17 hx hZ e17 FOF (own_cN hrFn hn4) (own_nN hrFn hn4) hrFn (g := (mkF m 91 #[.val (.ref rel), .val (.ref b2), .val (.ref b5), .val (.int (Int32.ofNat rkF)), .val (.int (Int32.ofNat eFi)), .unset, .unset, .unset] [(.int (Int32.ofNat eFi)), (.int (Int32.ofNat rkF)), (.ref b5)])) rfl rfl (hb hby d5_91)
        refine OwnR.of (st19) ?_
        have G19 := OwnF.congr (OwnF.set FOF W19) fun j _ => own_atF hrFn hlF j
        have K19 : Keep h0 h19 [] := Keep.wr KF W19 (Or.inr sz_b5)
        have N19 := Fr.snoc X19 NF gn_b5
        show OwnR _ _ _ _ _ _ _ (T19.setTop (mkF m 92 #[.val (.ref rel), .val (.ref b2), .val (.ref b5), .val (.int (Int32.ofNat rkF)), .val (.int (Int32.ofNat eFi)), .unset, .unset, .unset] []))
        refine OwnR.of (fun _ hr => XS.iinc X19.here hx rfl (hb hby d5_92) rfl (l' := #[.val (.ref rel), .val (.ref b2), .val (.ref b5), .val (.int ((Int32.ofNat rkF) + (1 : Int32))), .val (.int (Int32.ofNat eFi)), .unset, .unset, .unset]) rfl hr) ?_
        show OwnR _ _ _ _ _ _ _ (T19.setTop (mkF m 95 #[.val (.ref rel), .val (.ref b2), .val (.ref b5), .val (.int ((Int32.ofNat rkF) + (1 : Int32))), .val (.int (Int32.ofNat eFi)), .unset, .unset, .unset] []))
        refine OwnR.of (fun _ hr => XS.iinc X19.here hx rfl (hb hby d5_95) rfl (l' := #[.val (.ref rel), .val (.ref b2), .val (.ref b5), .val (.int ((Int32.ofNat rkF) + (1 : Int32))), .val (.int ((Int32.ofNat eFi) + (1 : Int32))), .unset, .unset, .unset]) rfl hr) ?_
        show OwnR _ _ _ _ _ _ _ (T19.setTop (mkF m 98 #[.val (.ref rel), .val (.ref b2), .val (.ref b5), .val (.int ((Int32.ofNat rkF) + (1 : Int32))), .val (.int ((Int32.ofNat eFi) + (1 : Int32))), .unset, .unset, .unset] []))
        refine OwnR.of (fun _ hr => XS.goto X19.here hx rfl (pc0 := 98) (pc' := 70) rfl (hb hby d5_98) (by decide) (by decide) hr) ?_
        show OwnR _ _ _ _ _ _ _ (T19.setTop (mkF m 70 #[.val (.ref rel), .val (.ref b2), .val (.ref b5), .val (.int ((Int32.ofNat rkF) + (1 : Int32))), .val (.int ((Int32.ofNat eFi) + (1 : Int32))), .unset, .unset, .unset] []))
        rw [own_succ rkF, own_succ eFi]
        exact ihF (eFi + 1) _ _ _ _ _ (own_ds hdF) (by rw [List.length_set]; exact hlF) hrFn X19 e19 K19 N19 (OwnF.other FPF W19 n_po) G19 hnF
      · skip
        refine OwnR.of (fun _ hr => XS.ifYes X17.here hx rfl (pc0 := 84) (pc' := 95) rfl (hb hby d5_84) rfl ((if0 _ _).trans (feq hc84_18).2) (by decide) (by decide) hr) ?_
        show OwnR _ _ _ _ _ _ _ (T17.setTop (mkF m 95 #[.val (.ref rel), .val (.ref b2), .val (.ref b5), .val (.int (Int32.ofNat rkF)), .val (.int (Int32.ofNat eFi)), .unset, .unset, .unset] []))
        refine OwnR.of (fun _ hr => XS.iinc X17.here hx rfl (hb hby d5_95) rfl (l' := #[.val (.ref rel), .val (.ref b2), .val (.ref b5), .val (.int (Int32.ofNat rkF)), .val (.int ((Int32.ofNat eFi) + (1 : Int32))), .unset, .unset, .unset]) rfl hr) ?_
        show OwnR _ _ _ _ _ _ _ (T17.setTop (mkF m 98 #[.val (.ref rel), .val (.ref b2), .val (.ref b5), .val (.int (Int32.ofNat rkF)), .val (.int ((Int32.ofNat eFi) + (1 : Int32))), .unset, .unset, .unset] []))
        refine OwnR.of (fun _ hr => XS.goto X17.here hx rfl (pc0 := 98) (pc' := 70) rfl (hb hby d5_98) (by decide) (by decide) hr) ?_
        show OwnR _ _ _ _ _ _ _ (T17.setTop (mkF m 70 #[.val (.ref rel), .val (.ref b2), .val (.ref b5), .val (.int (Int32.ofNat rkF)), .val (.int ((Int32.ofNat eFi) + (1 : Int32))), .unset, .unset, .unset] []))
        rw [own_succ eFi]
        exact ihF (eFi + 1) _ _ _ _ _ (own_ds hdF) hlF hrF X17 e17 KF NF FPF FOF (own_f2N hqF hc84_18)
  | succ d ih =>
    intro ei TA hA LA z3 pl hz3 hd hl XA eA KA NA FA hP
    have hei := own_dl hd
    obtain ⟨kb, Lb, FB, hLb⟩ := OwnRel.row RR hei
    show OwnR _ _ _ _ _ _ _ (TA.setTop (mkF m 10 #[.val (.ref rel), .val (.ref b2), .val (.int (Int32.ofNat ei)), z3, .unset, .unset, .unset, .unset] []))
    refine OwnR.of (fun _ hr => XS.iloadN XA.here hx rfl (hb hby d5_10) rfl hr) ?_
    show OwnR _ _ _ _ _ _ _ (TA.setTop (mkF m 11 #[.val (.ref rel), .val (.ref b2), .val (.int (Int32.ofNat ei)), z3, .unset, .unset, .unset, .unset] [(.int (Int32.ofNat ei))]))
    refine OwnR.of (fun _ hr => XS.aloadN XA.here hx rfl (hb hby d5_11) rfl rfl hr) ?_
    show OwnR _ _ _ _ _ _ _ (TA.setTop (mkF m 12 #[.val (.ref rel), .val (.ref b2), .val (.int (Int32.ofNat ei)), z3, .unset, .unset, .unset, .unset] [(.ref rel), (.int (Int32.ofNat ei))]))
    obtain ⟨T20, X20, e20, st20⟩ := getF XA hx hZ hown (host := "") (Or.inl (hw _ (List.mem_of_getElem? (i := 15) rfl))) Via.refl eA (Fld.keep F_rows_rel KA nin0) (g := (mkF m 12 #[.val (.ref rel), .val (.ref b2), .val (.int (Int32.ofNat ei)), z3, .unset, .unset, .unset, .unset] [(.ref rel), (.int (Int32.ofNat ei))])) rfl rfl (hb hby d5_12)
    refine OwnR.of (st20) ?_
    show OwnR _ _ _ _ _ _ _ (T20.setTop (mkF m 15 #[.val (.ref rel), .val (.ref b2), .val (.int (Int32.ofNat ei)), z3, .unset, .unset, .unset, .unset] [(.ref ro), (.int (Int32.ofNat ei))]))
    refine OwnR.of (own_alen X20 hx hZ e20 (OwnF.keep RR.1 KA nin0) (z := (Int32.ofNat n)) (own_c4 hn4) (own_n4 hn4) (g := (mkF m 15 #[.val (.ref rel), .val (.ref b2), .val (.int (Int32.ofNat ei)), z3, .unset, .unset, .unset, .unset] [(.ref ro), (.int (Int32.ofNat ei))])) rfl rfl (hb hby d5_15)) ?_
    show OwnR _ _ _ _ _ _ _ (T20.setTop (mkF m 16 #[.val (.ref rel), .val (.ref b2), .val (.int (Int32.ofNat ei)), z3, .unset, .unset, .unset, .unset] [(.int (Int32.ofNat n)), (.int (Int32.ofNat ei))]))
    refine OwnR.of (fun _ hr => XS.icmpNo X20.here hx rfl (hb hby d5_16) rfl (tlt (own_lt4 hei hn4)).2.1 hr) ?_
    show OwnR _ _ _ _ _ _ _ (T20.setTop (mkF m 19 #[.val (.ref rel), .val (.ref b2), .val (.int (Int32.ofNat ei)), z3, .unset, .unset, .unset, .unset] []))
    refine OwnR.of (fun _ hr => XS.iconst X20.here hx rfl (hb hby d5_19) hr) ?_
    show OwnR _ _ _ _ _ _ _ (T20.setTop (mkF m 20 #[.val (.ref rel), .val (.ref b2), .val (.int (Int32.ofNat ei)), z3, .unset, .unset, .unset, .unset] [(.int (0 : Int32))]))
    refine OwnR.of (fun _ hr => XS.istoreN X20.here hx rfl (hb hby d5_20) rfl (l' := #[.val (.ref rel), .val (.ref b2), .val (.int (Int32.ofNat ei)), .val (.int (0 : Int32)), .unset, .unset, .unset, .unset]) (by rcases hz3 with rfl | ⟨x, rfl⟩ <;> rfl) hr) ?_
    show OwnR _ _ _ _ _ _ _ (T20.setTop (mkF m 21 #[.val (.ref rel), .val (.ref b2), .val (.int (Int32.ofNat ei)), .val (.int (0 : Int32)), .unset, .unset, .unset, .unset] []))
    suffices in1 : ∀ (d2 ji : Nat) (TB : State) (hB : Heap) (LB : List Loc) (qa : List Int32), ji + d2 = own_sz (M ei) → qa.length = n → Stand p l e ({ frames := 0, cells := 2, slots := 6, locals := 0 } : Room) s m #[(.ref rel)] below meth c TB LB 1 3 → TB.heap = hB → Keep h0 hB [] → Fr n0 LB → OwnF Z hB b2 k2 .int n (fun j => .int (qa.getD j 0)) → ((own_els (M ei)).drop ji).foldl own_inc qa = (own_els (M ei)).foldl own_inc pl → OwnR p e below s (QTop Z n res h0 n0) ({ frames := 0, cells := 2, slots := 6, locals := 0 } : Room).cells ({ frames := 0, cells := 2, slots := 6, locals := 0 } : Room).slots (TB.setTop (mkF m 21 #[.val (.ref rel), .val (.ref b2), .val (.int (Int32.ofNat ei)), .val (.int (Int32.ofNat ji)), .unset, .unset, .unset, .unset] [])) by
      exact in1 (own_sz (M ei)) 0 _ _ _ _ (Nat.zero_add _) hl X20 e20 KA NA FA rfl
    intro d2
    induction d2 with
    | zero =>
      intro ji TB hB LB qa hd2 hl2 XB eB KB NB FQ hq
      rw [show ji = own_sz (M ei) from hd2]
      have hq' : qa = (own_els (M ei)).foldl own_inc pl := own_foldE (by rw [show ji = own_sz (M ei) from hd2] at hq; exact hq)
      show OwnR _ _ _ _ _ _ _ (TB.setTop (mkF m 21 #[.val (.ref rel), .val (.ref b2), .val (.int (Int32.ofNat ei)), .val (.int (Int32.ofNat (own_sz (M ei)))), .unset, .unset, .unset, .unset] []))
      refine OwnR.of (fun _ hr => XS.iloadN XB.here hx rfl (hb hby d5_21) rfl hr) ?_
      show OwnR _ _ _ _ _ _ _ (TB.setTop (mkF m 22 #[.val (.ref rel), .val (.ref b2), .val (.int (Int32.ofNat ei)), .val (.int (Int32.ofNat (own_sz (M ei)))), .unset, .unset, .unset, .unset] [(.int (Int32.ofNat (own_sz (M ei))))]))
      refine OwnR.of (fun _ hr => XS.aloadN XB.here hx rfl (hb hby d5_22) rfl rfl hr) ?_
      show OwnR _ _ _ _ _ _ _ (TB.setTop (mkF m 23 #[.val (.ref rel), .val (.ref b2), .val (.int (Int32.ofNat ei)), .val (.int (Int32.ofNat (own_sz (M ei)))), .unset, .unset, .unset, .unset] [(.ref rel), (.int (Int32.ofNat (own_sz (M ei))))]))
      obtain ⟨T21, X21, e21, st21⟩ := getF XB hx hZ hown (host := "") (Or.inl (hw _ (List.mem_of_getElem? (i := 25) rfl))) Via.refl eB (Fld.keep F_rowSizes_rel KB nin0) (g := (mkF m 23 #[.val (.ref rel), .val (.ref b2), .val (.int (Int32.ofNat ei)), .val (.int (Int32.ofNat (own_sz (M ei)))), .unset, .unset, .unset, .unset] [(.ref rel), (.int (Int32.ofNat (own_sz (M ei))))])) rfl rfl (hb hby d5_23)
      refine OwnR.of (st21) ?_
      show OwnR _ _ _ _ _ _ _ (T21.setTop (mkF m 26 #[.val (.ref rel), .val (.ref b2), .val (.int (Int32.ofNat ei)), .val (.int (Int32.ofNat (own_sz (M ei)))), .unset, .unset, .unset, .unset] [(.ref rz), (.int (Int32.ofNat (own_sz (M ei))))]))
      refine OwnR.of (fun _ hr => XS.iloadN X21.here hx rfl (hb hby d5_26) rfl hr) ?_
      show OwnR _ _ _ _ _ _ _ (T21.setTop (mkF m 27 #[.val (.ref rel), .val (.ref b2), .val (.int (Int32.ofNat ei)), .val (.int (Int32.ofNat (own_sz (M ei)))), .unset, .unset, .unset, .unset] [(.int (Int32.ofNat ei)), (.ref rz), (.int (Int32.ofNat (own_sz (M ei))))]))
      refine OwnR.of (own_iaload X21 hx hZ e21 (OwnF.keep RR.2.1 KB nin0) (own_cN hei hn4) (own_nN hei hn4) hei (v := (.int (Int32.ofNat (own_sz (M ei))))) rfl (g := (mkF m 27 #[.val (.ref rel), .val (.ref b2), .val (.int (Int32.ofNat ei)), .val (.int (Int32.ofNat (own_sz (M ei)))), .unset, .unset, .unset, .unset] [(.int (Int32.ofNat ei)), (.ref rz), (.int (Int32.ofNat (own_sz (M ei))))])) rfl rfl (hb hby d5_27)) ?_
      show OwnR _ _ _ _ _ _ _ (T21.setTop (mkF m 28 #[.val (.ref rel), .val (.ref b2), .val (.int (Int32.ofNat ei)), .val (.int (Int32.ofNat (own_sz (M ei)))), .unset, .unset, .unset, .unset] [(.int (Int32.ofNat (own_sz (M ei)))), (.int (Int32.ofNat (own_sz (M ei))))]))
      refine OwnR.of (fun _ hr => XS.icmpYes X21.here hx rfl (pc0 := 28) (pc' := 51) rfl (hb hby d5_28) rfl (flt (own_ge4 (Nat.le_refl _) (own_sz3 _ (own_p8 hn4 (hM ei))))).2.1 (by decide) (by decide) hr) ?_
      show OwnR _ _ _ _ _ _ _ (T21.setTop (mkF m 51 #[.val (.ref rel), .val (.ref b2), .val (.int (Int32.ofNat ei)), .val (.int (Int32.ofNat (own_sz (M ei)))), .unset, .unset, .unset, .unset] []))
      refine OwnR.of (fun _ hr => XS.iinc X21.here hx rfl (hb hby d5_51) rfl (l' := #[.val (.ref rel), .val (.ref b2), .val (.int ((Int32.ofNat ei) + (1 : Int32))), .val (.int (Int32.ofNat (own_sz (M ei)))), .unset, .unset, .unset, .unset]) rfl hr) ?_
      show OwnR _ _ _ _ _ _ _ (T21.setTop (mkF m 54 #[.val (.ref rel), .val (.ref b2), .val (.int ((Int32.ofNat ei) + (1 : Int32))), .val (.int (Int32.ofNat (own_sz (M ei)))), .unset, .unset, .unset, .unset] []))
      refine OwnR.of (fun _ hr => XS.goto X21.here hx rfl (pc0 := 54) (pc' := 10) rfl (hb hby d5_54) (by decide) (by decide) hr) ?_
      show OwnR _ _ _ _ _ _ _ (T21.setTop (mkF m 10 #[.val (.ref rel), .val (.ref b2), .val (.int ((Int32.ofNat ei) + (1 : Int32))), .val (.int (Int32.ofNat (own_sz (M ei)))), .unset, .unset, .unset, .unset] []))
      rw [own_succ ei]
      exact ih (ei + 1) _ _ _ _ _ (Or.inr ⟨_, rfl⟩) (own_ds hd) hl2 X21 e21 KB NB FQ (by rw [hq']; exact own_f1S hP)
    | succ d2 ih2 =>
      intro ji TB hB LB qa hd2 hl2 XB eB KB NB FQ hq
      have hji := own_dl hd2
      obtain ⟨xe, hxe⟩ : ∃ z, z = (own_els (M ei)).getD ji 0 := ⟨_, rfl⟩
      have hxn : xe < n := by rw [hxe]; exact own_el_lt n hn4 _ (hM ei) ji hji
      show OwnR _ _ _ _ _ _ _ (TB.setTop (mkF m 21 #[.val (.ref rel), .val (.ref b2), .val (.int (Int32.ofNat ei)), .val (.int (Int32.ofNat ji)), .unset, .unset, .unset, .unset] []))
      refine OwnR.of (fun _ hr => XS.iloadN XB.here hx rfl (hb hby d5_21) rfl hr) ?_
      show OwnR _ _ _ _ _ _ _ (TB.setTop (mkF m 22 #[.val (.ref rel), .val (.ref b2), .val (.int (Int32.ofNat ei)), .val (.int (Int32.ofNat ji)), .unset, .unset, .unset, .unset] [(.int (Int32.ofNat ji))]))
      refine OwnR.of (fun _ hr => XS.aloadN XB.here hx rfl (hb hby d5_22) rfl rfl hr) ?_
      show OwnR _ _ _ _ _ _ _ (TB.setTop (mkF m 23 #[.val (.ref rel), .val (.ref b2), .val (.int (Int32.ofNat ei)), .val (.int (Int32.ofNat ji)), .unset, .unset, .unset, .unset] [(.ref rel), (.int (Int32.ofNat ji))]))
      obtain ⟨T22, X22, e22, st22⟩ := getF XB hx hZ hown (host := "") (Or.inl (hw _ (List.mem_of_getElem? (i := 25) rfl))) Via.refl eB (Fld.keep F_rowSizes_rel KB nin0) (g := (mkF m 23 #[.val (.ref rel), .val (.ref b2), .val (.int (Int32.ofNat ei)), .val (.int (Int32.ofNat ji)), .unset, .unset, .unset, .unset] [(.ref rel), (.int (Int32.ofNat ji))])) rfl rfl (hb hby d5_23)
      refine OwnR.of (st22) ?_
      show OwnR _ _ _ _ _ _ _ (T22.setTop (mkF m 26 #[.val (.ref rel), .val (.ref b2), .val (.int (Int32.ofNat ei)), .val (.int (Int32.ofNat ji)), .unset, .unset, .unset, .unset] [(.ref rz), (.int (Int32.ofNat ji))]))
      refine OwnR.of (fun _ hr => XS.iloadN X22.here hx rfl (hb hby d5_26) rfl hr) ?_
      show OwnR _ _ _ _ _ _ _ (T22.setTop (mkF m 27 #[.val (.ref rel), .val (.ref b2), .val (.int (Int32.ofNat ei)), .val (.int (Int32.ofNat ji)), .unset, .unset, .unset, .unset] [(.int (Int32.ofNat ei)), (.ref rz), (.int (Int32.ofNat ji))]))
      refine OwnR.of (own_iaload X22 hx hZ e22 (OwnF.keep RR.2.1 KB nin0) (own_cN hei hn4) (own_nN hei hn4) hei (v := (.int (Int32.ofNat (own_sz (M ei))))) rfl (g := (mkF m 27 #[.val (.ref rel), .val (.ref b2), .val (.int (Int32.ofNat ei)), .val (.int (Int32.ofNat ji)), .unset, .unset, .unset, .unset] [(.int (Int32.ofNat ei)), (.ref rz), (.int (Int32.ofNat ji))])) rfl rfl (hb hby d5_27)) ?_
      show OwnR _ _ _ _ _ _ _ (T22.setTop (mkF m 28 #[.val (.ref rel), .val (.ref b2), .val (.int (Int32.ofNat ei)), .val (.int (Int32.ofNat ji)), .unset, .unset, .unset, .unset] [(.int (Int32.ofNat (own_sz (M ei)))), (.int (Int32.ofNat ji))]))
      refine OwnR.of (fun _ hr => XS.icmpNo X22.here hx rfl (hb hby d5_28) rfl (tlt (own_lt4 hji (own_sz3 _ (own_p8 hn4 (hM ei))))).2.1 hr) ?_
      show OwnR _ _ _ _ _ _ _ (T22.setTop (mkF m 31 #[.val (.ref rel), .val (.ref b2), .val (.int (Int32.ofNat ei)), .val (.int (Int32.ofNat ji)), .unset, .unset, .unset, .unset] []))
      refine OwnR.of (fun _ hr => XS.aloadN X22.here hx rfl (hb hby d5_31) rfl rfl hr) ?_
      show OwnR _ _ _ _ _ _ _ (T22.setTop (mkF m 32 #[.val (.ref rel), .val (.ref b2), .val (.int (Int32.ofNat ei)), .val (.int (Int32.ofNat ji)), .unset, .unset, .unset, .unset] [(.ref b2)]))
      refine OwnR.of (fun _ hr => XS.aloadN X22.here hx rfl (hb hby d5_32) rfl rfl hr) ?_
      show OwnR _ _ _ _ _ _ _ (T22.setTop (mkF m 33 #[.val (.ref rel), .val (.ref b2), .val (.int (Int32.ofNat ei)), .val (.int (Int32.ofNat ji)), .unset, .unset, .unset, .unset] [(.ref rel), (.ref b2)]))
      obtain ⟨T23, X23, e23, st23⟩ := getF X22 hx hZ hown (host := "") (Or.inl (hw _ (List.mem_of_getElem? (i := 15) rfl))) Via.refl e22 (Fld.keep F_rows_rel KB nin0) (g := (mkF m 33 #[.val (.ref rel), .val (.ref b2), .val (.int (Int32.ofNat ei)), .val (.int (Int32.ofNat ji)), .unset, .unset, .unset, .unset] [(.ref rel), (.ref b2)])) rfl rfl (hb hby d5_33)
      refine OwnR.of (st23) ?_
      show OwnR _ _ _ _ _ _ _ (T23.setTop (mkF m 36 #[.val (.ref rel), .val (.ref b2), .val (.int (Int32.ofNat ei)), .val (.int (Int32.ofNat ji)), .unset, .unset, .unset, .unset] [(.ref ro), (.ref b2)]))
      refine OwnR.of (fun _ hr => XS.iloadN X23.here hx rfl (hb hby d5_36) rfl hr) ?_
      show OwnR _ _ _ _ _ _ _ (T23.setTop (mkF m 37 #[.val (.ref rel), .val (.ref b2), .val (.int (Int32.ofNat ei)), .val (.int (Int32.ofNat ji)), .unset, .unset, .unset, .unset] [(.int (Int32.ofNat ei)), (.ref ro), (.ref b2)]))
      refine OwnR.of (own_aaload rfl X23 hx hZ e23 (OwnF.keep RR.1 KB nin0) (own_cN hei hn4) (own_nN hei hn4) hei (v := (.ref (B ei))) rfl (g := (mkF m 37 #[.val (.ref rel), .val (.ref b2), .val (.int (Int32.ofNat ei)), .val (.int (Int32.ofNat ji)), .unset, .unset, .unset, .unset] [(.int (Int32.ofNat ei)), (.ref ro), (.ref b2)])) rfl rfl (hb hby d5_37)) ?_
      show OwnR _ _ _ _ _ _ _ (T23.setTop (mkF m 38 #[.val (.ref rel), .val (.ref b2), .val (.int (Int32.ofNat ei)), .val (.int (Int32.ofNat ji)), .unset, .unset, .unset, .unset] [(.ref (B ei)), (.ref b2)]))
      refine OwnR.of (fun _ hr => XS.iloadN X23.here hx rfl (hb hby d5_38) rfl hr) ?_
      show OwnR _ _ _ _ _ _ _ (T23.setTop (mkF m 39 #[.val (.ref rel), .val (.ref b2), .val (.int (Int32.ofNat ei)), .val (.int (Int32.ofNat ji)), .unset, .unset, .unset, .unset] [(.int (Int32.ofNat ji)), (.ref (B ei)), (.ref b2)]))
      refine OwnR.of (own_iaload X23 hx hZ e23 (OwnF.keep FB KB nin0) (own_cN hji (own_sz3 _ (own_p8 hn4 (hM ei)))) (own_nN hji (own_sz3 _ (own_p8 hn4 (hM ei)))) (Nat.lt_of_lt_of_le hji hLb) (v := (.int (Int32.ofNat xe))) (by rw [hxe]; rfl) (g := (mkF m 39 #[.val (.ref rel), .val (.ref b2), .val (.int (Int32.ofNat ei)), .val (.int (Int32.ofNat ji)), .unset, .unset, .unset, .unset] [(.int (Int32.ofNat ji)), (.ref (B ei)), (.ref b2)])) rfl rfl (hb hby d5_39)) ?_
      show OwnR _ _ _ _ _ _ _ (T23.setTop (mkF m 40 #[.val (.ref rel), .val (.ref b2), .val (.int (Int32.ofNat ei)), .val (.int (Int32.ofNat ji)), .unset, .unset, .unset, .unset] [(.int (Int32.ofNat xe)), (.ref b2)]))
      refine OwnR.of (fun _ hr => XT.dup2 X23.here hx rfl (hb hby d5_40) rfl rfl rfl hr) ?_
      show OwnR _ _ _ _ _ _ _ (T23.setTop (mkF m 41 #[.val (.ref rel), .val (.ref b2), .val (.int (Int32.ofNat ei)), .val (.int (Int32.ofNat ji)), .unset, .unset, .unset, .unset] [(.int (Int32.ofNat xe)), (.ref b2), (.int (Int32.ofNat xe)), (.ref b2)]))
      refine OwnR.of (own_iaload X23 hx hZ e23 FQ (own_cN hxn hn4) (own_nN hxn hn4) hxn (v := (.int (qa.getD xe 0))) rfl (g := (mkF m 41 #[.val (.ref rel), .val (.ref b2), .val (.int (Int32.ofNat ei)), .val (.int (Int32.ofNat ji)), .unset, .unset, .unset, .unset] [(.int (Int32.ofNat xe)), (.ref b2), (.int (Int32.ofNat xe)), (.ref b2)])) rfl rfl (hb hby d5_41)) ?_
      show OwnR _ _ _ _ _ _ _ (T23.setTop (mkF m 42 #[.val (.ref rel), .val (.ref b2), .val (.int (Int32.ofNat ei)), .val (.int (Int32.ofNat ji)), .unset, .unset, .unset, .unset] [(.int (qa.getD xe 0)), (.int (Int32.ofNat xe)), (.ref b2)]))
      refine OwnR.of (fun _ hr => XS.iconst X23.here hx rfl (hb hby d5_42) hr) ?_
      show OwnR _ _ _ _ _ _ _ (T23.setTop (mkF m 43 #[.val (.ref rel), .val (.ref b2), .val (.int (Int32.ofNat ei)), .val (.int (Int32.ofNat ji)), .unset, .unset, .unset, .unset] [(.int (1 : Int32)), (.int (qa.getD xe 0)), (.int (Int32.ofNat xe)), (.ref b2)]))
      refine OwnR.of (fun _ hr => XS.iadd X23.here hx rfl (hb hby d5_43) rfl hr) ?_
      show OwnR _ _ _ _ _ _ _ (T23.setTop (mkF m 44 #[.val (.ref rel), .val (.ref b2), .val (.int (Int32.ofNat ei)), .val (.int (Int32.ofNat ji)), .unset, .unset, .unset, .unset] [(.int ((qa.getD xe 0) + (1 : Int32))), (.int (Int32.ofNat xe)), (.ref b2)]))
      obtain ⟨T24, h24, X24, e24, W24, st24⟩ := own_iastore X23 hx hZ e23 FQ (own_cN hxn hn4) (own_nN hxn hn4) hxn (g := (mkF m 44 #[.val (.ref rel), .val (.ref b2), .val (.int (Int32.ofNat ei)), .val (.int (Int32.ofNat ji)), .unset, .unset, .unset, .unset] [(.int ((qa.getD xe 0) + (1 : Int32))), (.int (Int32.ofNat xe)), (.ref b2)])) rfl rfl (hb hby d5_44)
      refine OwnR.of (st24) ?_
      have G24 := OwnF.congr (OwnF.set FQ W24) fun j _ => own_incF hxn hl2 j
      have K24 : Keep h0 h24 [] := Keep.wr KB W24 (Or.inr sz_b2)
      have N24 := Fr.snoc X24 NB gn_b2
      show OwnR _ _ _ _ _ _ _ (T24.setTop (mkF m 45 #[.val (.ref rel), .val (.ref b2), .val (.int (Int32.ofNat ei)), .val (.int (Int32.ofNat ji)), .unset, .unset, .unset, .unset] []))
      refine OwnR.of (fun _ hr => XS.iinc X24.here hx rfl (hb hby d5_45) rfl (l' := #[.val (.ref rel), .val (.ref b2), .val (.int (Int32.ofNat ei)), .val (.int ((Int32.ofNat ji) + (1 : Int32))), .unset, .unset, .unset, .unset]) rfl hr) ?_
      show OwnR _ _ _ _ _ _ _ (T24.setTop (mkF m 48 #[.val (.ref rel), .val (.ref b2), .val (.int (Int32.ofNat ei)), .val (.int ((Int32.ofNat ji) + (1 : Int32))), .unset, .unset, .unset, .unset] []))
      refine OwnR.of (fun _ hr => XS.goto X24.here hx rfl (pc0 := 48) (pc' := 21) rfl (hb hby d5_48) (by decide) (by decide) hr) ?_
      show OwnR _ _ _ _ _ _ _ (T24.setTop (mkF m 21 #[.val (.ref rel), .val (.ref b2), .val (.int (Int32.ofNat ei)), .val (.int ((Int32.ofNat ji) + (1 : Int32))), .unset, .unset, .unset, .unset] []))
      rw [own_succ ji]
      exact ih2 (ji + 1) _ _ _ _ (own_ds hd2) (by rw [own_incL]; exact hl2) X24 e24 K24 N24 G24 (by rw [hxe]; exact own_foldS hji hq)
theorem own_nn (x : Int32) : ∃ n : Nat, 0 < n ∧ n < 4 ∧ ((1 : Int32) + ((x &&& (2147483647 : Int32)) % (3 : Int32))) = Int32.ofNat n := by
  rcases own_three x with h | h | h
  · exact ⟨1, by decide, by decide, h⟩
  · exact ⟨2, by decide, by decide, h⟩
  · exact ⟨3, by decide, by decide, h⟩
theorem own_okn {n : Nat} (hn : 0 < n) (hn4 : n < 4) {M : Nat → Nat} (h : ∀ i, M i < 2 ^ n) (z : ∀ i, n ≤ i → M i = 0) : own_check n M = true := by
  rcases own_n3' hn hn4 with rfl | rfl | rfl
  · exact own_ok1 h z
  · exact own_ok2 h z
  · exact own_ok3 h z
theorem OwnE.ext {Z : State} {h h' : Heap} {ea : Addr} {kE : ClassId} {D : Nat → Addr} {kD : Nat → ClassId} {M : Nat → Nat} (E : OwnE Z h ea kE D kD M) (X : Ext h h') : OwnE Z h' ea kE D kD M := ⟨E.1.ext X, fun i hi => (E.2 i hi).ext X⟩
theorem own_mkO {n0 em ea rel ro rz : Nat} {D : Nat → Nat} (h1 : em < n0) (h2 : n0 ≤ ea) (hD : D = fun j => ea + 1 + j) (hr : ∀ i, i < 3 → D i < rel) (h3 : rel < ro) (h4 : ro < rz) : OwnO n0 em ea D rel ro rz := by
  have d0 := hr 0 (by decide)
  have e0 : D 0 = ea + 1 + 0 := by rw [hD]
  refine ⟨h1, h2, by omega, fun i hi => ⟨?_, hr i hi⟩, fun i j _ _ q => ?_, h3, h4⟩
  · rw [hD]; show ea < ea + 1 + i; omega
  · rw [hD] at q; have q' : ea + 1 + i = ea + 1 + j := q; omega
theorem own_nre {n0 em rel ro rz : Nat} (h1 : em < n0) (h2 : n0 ≤ rel) (h3 : rel < ro) (h4 : ro < rz) : ¬ rz < em := by omega
theorem own_12 {n : Nat} (hn : n < 4) (h : (2 : Int32) < Int32.ofNat n) : (1 : Int32) < Int32.ofNat n := by
  rw [own_2n hn] at h; rw [own_1n hn]; omega
theorem ef_rm0 (m : MethodId) (x0 : Int32) (x1 : Int32) (x2 : Int32) (x3 : Int32) (x4 : Int32) (x5 : Int32) : entryFrame m #[(.int x0), (.int x1), (.int x2), (.int x3), (.int x4), (.int x5)] maxLocals = mkF m 0 #[.val (.int x0), .val (.int x1), .val (.int x2), .val (.int x3), .val (.int x4), .val (.int x5), .unset, .unset, .unset, .unset] [] := by first | (simp [entryFrame, mkF, argsToLocals, Value.category, maxLocals]; done) | rfl
theorem pd__Lcom_example_fast_taxonomy_fasttaxonomy_taxonomy_Relation___ZII_V : parseMethodDescriptor "(Lcom/example/fast_taxonomy/fasttaxonomy/taxonomy/Relation;[[ZII)V" = some ⟨[(.object "com/example/fast_taxonomy/fasttaxonomy/taxonomy/Relation"), (.array (.array .boolean)), .int, .int], none⟩ := by decide +kernel
theorem pd____I : parseMethodDescriptor "()[I" = some ⟨[], some (.array .int)⟩ := by decide +kernel
theorem pd____Z_IIII_Z : parseMethodDescriptor "([[Z[IIII)Z" = some ⟨[(.array (.array .boolean)), (.array .int), .int, .int, .int], some .boolean⟩ := by decide +kernel
def Q0 (Z : State)  (h0 : Heap) (n0 : Nat) (v : Option Value) (h : Heap) (L : List Loc) : Prop := v = some (.int (1 : Int32)) ∧ Fr n0 L
set_option maxRecDepth 65536 in
set_option maxHeartbeats 40000000 in
theorem rm0 (l : Launch) (Z : State) (a0 : Array Value) (hw : ∀ d ∈ tables_1, d.before a0 Z = true) (ws : List Jvm.Cond) (p1 : Int32) (p2 : Int32) (p3 : Int32) (p4 : Int32) (p5 : Int32) (p6 : Int32) (em : Addr) (kem : ClassId) (fe : Nat → Value) (h0 : Heap) (n0 : Nat) (Z0 : n0 ≤ h0.size) (S_em : Sta Z h0 "com/example/fast_taxonomy/fasttaxonomy/taxonomy/Relation" "EMPTY_ROW" "[I" (.ref em)) (E_em : Exa Z h0 em "[I") (FE : OwnF Z h0 em kem .int 0 fe) (hem : em < n0) :
    MetFree l x (head1 (Jvm.Cond.code x code maxLocals ret :: ws) room_1) (fun a U => a = #[(.int p1), (.int p2), (.int p3), (.int p4), (.int p5), (.int p6)] ∧ Z.Warmed39 U.vm ∧ U.heap = h0) (fun _ _ _ _ _ => True) (fun _ U o U' => ∃ v L, o = .returned v ∧ Q0 Z  h0 n0 v U'.heap L ∧ FrameEnd U o U' L 32 192) := by
  refine MetFree.of_bodySF (plainFor_of_name pn_com_example_fast_taxonomy_fasttaxonomy_taxonomy_RelationTopologicalOrderPinLaw) hisR ?_
  intro p e s m args below meth c s₁ Bd hml0 hP hK
  obtain ⟨rfl, hZ, hh⟩ := hP
  have hx := Bd.exec
  have hby := Bd.bytes
  have hlk := BodyLoose.notSynchronized Bd
  have hml : c.maxLocals = 10 := hml0
  have hown : s.vm.findClass "com/example/fast_taxonomy/fasttaxonomy/taxonomy/RelationTopologicalOrderPinLaw" = some m.cls := findClass_of_methodNamed Bd.named
  have hnm := (name_of_methodNamed Bd.named Bd.method).1
  have X0 : Stand p l e room_1 s m #[(.int p1), (.int p2), (.int p3), (.int p4), (.int p5), (.int p6)] below meth c s₁ [] 0 0 := Stand.of_body Bd
  have e0 : s₁.heap = h0 := by rw [← hh, Bd.state]; rfl
  have N0 := Fr.nil n0
  refine OwnR.of (s := s) (Q := Q0 Z  h0 n0) (fun t k => castTop (ef_rm0 m p1 p2 p3 p4 p5 p6) k) ?_
  show OwnR _ _ _ _ _ _ _ (s₁.setTop (mkF m 0 #[.val (.int p1), .val (.int p2), .val (.int p3), .val (.int p4), .val (.int p5), .val (.int p6), .unset, .unset, .unset, .unset] []))
  refine OwnR.of (fun _ hr => XS.iconst X0.here hx rfl (hb hby at_0) hr) ?_
  show OwnR _ _ _ _ _ _ _ (s₁.setTop (mkF m 1 #[.val (.int p1), .val (.int p2), .val (.int p3), .val (.int p4), .val (.int p5), .val (.int p6), .unset, .unset, .unset, .unset] [(.int (1 : Int32))]))
  refine OwnR.of (fun _ hr => XS.iload X0.here hx rfl (hb hby at_1) rfl hr) ?_
  show OwnR _ _ _ _ _ _ _ (s₁.setTop (mkF m 3 #[.val (.int p1), .val (.int p2), .val (.int p3), .val (.int p4), .val (.int p5), .val (.int p6), .unset, .unset, .unset, .unset] [(.int p6), (.int (1 : Int32))]))
  refine OwnR.of (X0.ldcInt hx hown (mvT hZ (hw _ (List.mem_of_getElem? (i := 0) rfl))) (g := (mkF m 3 #[.val (.int p1), .val (.int p2), .val (.int p3), .val (.int p4), .val (.int p5), .val (.int p6), .unset, .unset, .unset, .unset] [(.int p6), (.int (1 : Int32))])) rfl (hb hby at_3)) ?_
  show OwnR _ _ _ _ _ _ _ (s₁.setTop (mkF m 5 #[.val (.int p1), .val (.int p2), .val (.int p3), .val (.int p4), .val (.int p5), .val (.int p6), .unset, .unset, .unset, .unset] [(.int (2147483647 : Int32)), (.int p6), (.int (1 : Int32))]))
  refine OwnR.of (fun _ hr => XS.iand X0.here hx rfl (hb hby at_5) rfl hr) ?_
  show OwnR _ _ _ _ _ _ _ (s₁.setTop (mkF m 6 #[.val (.int p1), .val (.int p2), .val (.int p3), .val (.int p4), .val (.int p5), .val (.int p6), .unset, .unset, .unset, .unset] [(.int (p6 &&& (2147483647 : Int32))), (.int (1 : Int32))]))
  refine OwnR.of (fun _ hr => XS.iconst X0.here hx rfl (hb hby at_6) hr) ?_
  show OwnR _ _ _ _ _ _ _ (s₁.setTop (mkF m 7 #[.val (.int p1), .val (.int p2), .val (.int p3), .val (.int p4), .val (.int p5), .val (.int p6), .unset, .unset, .unset, .unset] [(.int (3 : Int32)), (.int (p6 &&& (2147483647 : Int32))), (.int (1 : Int32))]))
  refine OwnR.of (fun _ hr => iremM X0 hx rfl (hb hby at_7) rfl (by decide) hr) ?_
  show OwnR _ _ _ _ _ _ _ (s₁.setTop (mkF m 8 #[.val (.int p1), .val (.int p2), .val (.int p3), .val (.int p4), .val (.int p5), .val (.int p6), .unset, .unset, .unset, .unset] [(.int ((p6 &&& (2147483647 : Int32)) % (3 : Int32))), (.int (1 : Int32))]))
  refine OwnR.of (fun _ hr => XS.iadd X0.here hx rfl (hb hby at_8) rfl hr) ?_
  show OwnR _ _ _ _ _ _ _ (s₁.setTop (mkF m 9 #[.val (.int p1), .val (.int p2), .val (.int p3), .val (.int p4), .val (.int p5), .val (.int p6), .unset, .unset, .unset, .unset] [(.int ((1 : Int32) + ((p6 &&& (2147483647 : Int32)) % (3 : Int32))))]))
  obtain ⟨n, hn, hn4, hnq⟩ := own_nn p6
  rw [hnq]
  show OwnR _ _ _ _ _ _ _ (s₁.setTop (mkF m 9 #[.val (.int p1), .val (.int p2), .val (.int p3), .val (.int p4), .val (.int p5), .val (.int p6), .unset, .unset, .unset, .unset] [(.int (Int32.ofNat n))]))
  refine OwnR.of (fun _ hr => XS.istore X0.here hx rfl (hb hby at_9) rfl (l' := #[.val (.int p1), .val (.int p2), .val (.int p3), .val (.int p4), .val (.int p5), .val (.int p6), .val (.int (Int32.ofNat n)), .unset, .unset, .unset]) rfl hr) ?_
  show OwnR _ _ _ _ _ _ _ (s₁.setTop (mkF m 11 #[.val (.int p1), .val (.int p2), .val (.int p3), .val (.int p4), .val (.int p5), .val (.int p6), .val (.int (Int32.ofNat n)), .unset, .unset, .unset] []))
  refine OwnR.of (fun _ hr => XS.iconst X0.here hx rfl (hb hby at_11) hr) ?_
  show OwnR _ _ _ _ _ _ _ (s₁.setTop (mkF m 12 #[.val (.int p1), .val (.int p2), .val (.int p3), .val (.int p4), .val (.int p5), .val (.int p6), .val (.int (Int32.ofNat n)), .unset, .unset, .unset] [(.int (3 : Int32))]))
  refine OwnR.of (fun _ hr => XS.iconst X0.here hx rfl (hb hby at_12) hr) ?_
  show OwnR _ _ _ _ _ _ _ (s₁.setTop (mkF m 13 #[.val (.int p1), .val (.int p2), .val (.int p3), .val (.int p4), .val (.int p5), .val (.int p6), .val (.int (Int32.ofNat n)), .unset, .unset, .unset] [(.int (3 : Int32)), (.int (3 : Int32))]))
  obtain ⟨T1, h1, kE, kc, X1, e1, E1, A1, O1, AE1, I1, st1⟩ := gridM X0 hx hZ (C := "[Z") (ad := "[[Z") (ty := .boolean) hown rfl rfl (hw _ (List.mem_of_getElem? (i := 1) rfl)) (hw _ (List.mem_of_getElem? (i := 2) rfl)) (hw _ (List.mem_of_getElem? (i := 3) rfl)) e0 (g := (mkF m 13 #[.val (.int p1), .val (.int p2), .val (.int p3), .val (.int p4), .val (.int p5), .val (.int p6), .val (.int (Int32.ofNat n)), .unset, .unset, .unset] [(.int (3 : Int32)), (.int (3 : Int32))])) rfl (hb hby at_13) rfl (by decide) (by decide) (N := 3) rfl rfl (cap := 3) (by decide) (by decide) (by decide) rfl rfl (by decide) (by decide)
  obtain ⟨b1, g1⟩ : ∃ z, z = h0.size := ⟨_, rfl⟩
  rw [← g1] at A1 AE1 I1 st1
  refine OwnR.of (st1) ?_
  have gn_b1 : n0 ≤ b1 := Nat.le_trans (Nat.le_trans Z0 (Keep.refl h0 []).1) (Nat.le_of_eq g1.symm)
  have sz_b1 : h0.size ≤ b1 := Nat.le_trans (Keep.refl h0 []).1 (Nat.le_of_eq g1.symm)
  have K1 : h0.size ≤ h1.size ∧ True := ⟨Nat.le_trans (Keep.refl h0 []).1 E1.1, trivial⟩
  have EE0 := OwnE.start rfl A1 I1
  obtain ⟨D, hD⟩ : ∃ f : Nat → Addr, f = fun j => b1 + 1 + j := ⟨_, rfl⟩
  rw [← hD] at EE0
  show OwnR _ _ _ _ _ _ _ (T1.setTop (mkF m 17 #[.val (.int p1), .val (.int p2), .val (.int p3), .val (.int p4), .val (.int p5), .val (.int p6), .val (.int (Int32.ofNat n)), .unset, .unset, .unset] [(.ref b1)]))
  refine OwnR.of (fun _ hr => XS.astore X1.here hx rfl (hb hby at_17) rfl rfl (l' := #[.val (.int p1), .val (.int p2), .val (.int p3), .val (.int p4), .val (.int p5), .val (.int p6), .val (.int (Int32.ofNat n)), .val (.ref b1), .unset, .unset]) rfl hr) ?_
  show OwnR _ _ _ _ _ _ _ (T1.setTop (mkF m 19 #[.val (.int p1), .val (.int p2), .val (.int p3), .val (.int p4), .val (.int p5), .val (.int p6), .val (.int (Int32.ofNat n)), .val (.ref b1), .unset, .unset] []))
  obtain ⟨T2, h2, X2, e2, E2, A2, D2, -, st2⟩ := newO X1 hx hZ hown (hw _ (List.mem_of_getElem? (i := 4) rfl)) (hw _ (List.mem_of_getElem? (i := 5) rfl)) (hw _ (List.mem_of_getElem? (i := 6) rfl)) e1 (g := (mkF m 19 #[.val (.int p1), .val (.int p2), .val (.int p3), .val (.int p4), .val (.int p5), .val (.int p6), .val (.int (Int32.ofNat n)), .val (.ref b1), .unset, .unset] [])) rfl (hb hby at_19) (by decide) (by decide)
  obtain ⟨b2, g2⟩ : ∃ z, z = h1.size := ⟨_, rfl⟩
  rw [← g2] at A2 D2 st2
  refine OwnR.of (st2) ?_
  have gn_b2 : n0 ≤ b2 := Nat.le_trans (Nat.le_trans Z0 K1.1) (Nat.le_of_eq g2.symm)
  have sz_b2 : h0.size ≤ b2 := Nat.le_trans K1.1 (Nat.le_of_eq g2.symm)
  have K2 : h0.size ≤ h2.size ∧ True := ⟨Nat.le_trans K1.1 E2.1, trivial⟩
  have F_rows_b2 : Fld Z h2 b2 "com/example/fast_taxonomy/fasttaxonomy/taxonomy/Relation" "rows" "[[I" .null := D2 (Or.inr (hw _ (List.mem_of_getElem? (i := 16) rfl))) (ty := (.array (.array .int))) (by decide)
  have F_rowSizes_b2 : Fld Z h2 b2 "com/example/fast_taxonomy/fasttaxonomy/taxonomy/Relation" "rowSizes" "[I" .null := D2 (Or.inr (hw _ (List.mem_of_getElem? (i := 26) rfl))) (ty := (.array .int)) (by decide)
  have F_pairCount_b2 : Fld Z h2 b2 "com/example/fast_taxonomy/fasttaxonomy/taxonomy/Relation" "pairCount" "J" (.long (0 : Int64)) := D2 (Or.inl (hw _ (List.mem_of_getElem? (i := 109) rfl))) (ty := .long) (by decide)
  show OwnR _ _ _ _ _ _ _ (T2.setTop (mkF m 22 #[.val (.int p1), .val (.int p2), .val (.int p3), .val (.int p4), .val (.int p5), .val (.int p6), .val (.int (Int32.ofNat n)), .val (.ref b1), .unset, .unset] [(.ref b2)]))
  have hDr : ∀ i, i < 3 → D i < b2 := fun i hi => by rw [g2]; exact OwnF.lt (EE0.2 i hi)
  have EE1 := OwnE.ext EE0 E2
  have lt_rel := Exa.lt A2
  refine OwnR.of (fun _ hr => XS.dup X2.here hx rfl (hb hby at_22) rfl rfl hr) ?_
  show OwnR _ _ _ _ _ _ _ (T2.setTop (mkF m 23 #[.val (.int p1), .val (.int p2), .val (.int p3), .val (.int p4), .val (.int p5), .val (.int p6), .val (.int (Int32.ofNat n)), .val (.ref b1), .unset, .unset] [(.ref b2), (.ref b2)]))
  refine OwnR.of (fun _ hr => XS.iload X2.here hx rfl (hb hby at_23) rfl hr) ?_
  show OwnR _ _ _ _ _ _ _ (T2.setTop (mkF m 25 #[.val (.int p1), .val (.int p2), .val (.int p3), .val (.int p4), .val (.int p5), .val (.int p6), .val (.int (Int32.ofNat n)), .val (.ref b1), .unset, .unset] [(.int (Int32.ofNat n)), (.ref b2), (.ref b2)]))
  obtain ⟨_, _, ⟨T3, L3, kc3, ns3⟩, -, X3, ⟨Lc3, hQ3, l3, y3, z3⟩, st3⟩ := X2.specialBack hx (y := (⟨"com/example/fast_taxonomy/fasttaxonomy/taxonomy/Relation", "<init>", "(I)V"⟩ : MethodName)) rfl hown (mvT hZ (hw _ (List.mem_of_getElem? (i := 7) rfl))) (mvT hZ (hw _ (List.mem_of_getElem? (i := 8) rfl))) (mvT hZ (hw _ (List.mem_of_getElem? (i := 9) rfl))) (by decide) (backOf (W := 1) (rmNew l Z a0 hw [] b2 em n h2 n0 (Nat.le_trans Z0 K2.1) A2 F_rows_b2 F_rowSizes_b2 F_pairCount_b2 (Exa.ext E2 (Exa.ext E1 E_em)) ((S_em.ext E1).ext E2) hn4 gn_b2) hZ (hw _ (List.mem_of_getElem? (i := 9) rfl)) (hw _ (List.mem_of_getElem? (i := 6) rfl)) (by decide) (by decide)) (g := (mkF m 25 #[.val (.int p1), .val (.int p2), .val (.int p3), .val (.int p4), .val (.int p5), .val (.int p6), .val (.int (Int32.ofNat n)), .val (.ref b1), .unset, .unset] [(.int (Int32.ofNat n)), (.ref b2), (.ref b2)])) rfl (by rw [hml]; rfl) (Steps.refl _) (a := b2) (argsL := [(.int (Int32.ofNat n))]) (rest := [(.ref b2)]) (lenOf pd__I_V rfl) rfl (by show 2 * 0 + _ ≤ _; exact Nat.le_of_eq rfl) (hb hby at_25) (fun _ _ => ⟨rfl, e2, (by decide : 5 + 2 ≤ _), (by decide : 17 + 6 ≤ _)⟩)
  dsimp only [Pt.U, Pt.locs, Pt.cells, Pt.slots] at X3 l3 y3 z3 st3 hQ3
  rw [l3, y3, z3] at X3
  obtain ⟨ro_3, rz_3, kW_3, kS_3, rfl, N3q, P3_0, P3_1, P3_2, P3_3, P3_4, P3_5, P3_6, P3_7, P3_8, P3_9, P3_10⟩ := hQ3
  have K3 : h0.size ≤ T3.heap.size ∧ True := ⟨Nat.le_trans K2.1 P3_0.1, trivial⟩
  have sz_ro_3 : h0.size ≤ ro_3 := Nat.le_trans K2.1 P3_9
  have N3 := Fr.app N0 N3q
  refine OwnR.of (fun _ hr => st3.trans hr) ?_
  show OwnR _ _ _ _ _ _ _ (T3.setTop (mkF m 28 #[.val (.int p1), .val (.int p2), .val (.int p3), .val (.int p4), .val (.int p5), .val (.int p6), .val (.int (Int32.ofNat n)), .val (.ref b1), .unset, .unset] [(.ref b2)]))
  have lt_ro : b2 < ro_3 := Nat.lt_of_lt_of_le lt_rel P3_9
  have OO := own_mkO hem gn_b1 hD hDr lt_ro P3_8
  have EE2 := OwnE.keep EE1 P3_0 (ninS (Nat.ne_of_lt OO.2.2.1) nin0) fun i hi => ninS (Nat.ne_of_lt (hDr i hi)) nin0
  have RR0 := OwnRel.start P3_5 P3_6 (OwnF.keep (OwnF.ext (OwnF.ext FE E1) E2) P3_0 (ninS (Nat.ne_of_lt (Nat.lt_of_lt_of_le (Exa.ext E1 E_em).lt (Nat.le_of_eq g2.symm))) nin0)) (own_nre hem gn_b2 lt_ro P3_8)
  refine OwnR.of (fun _ hr => XS.astore X3.here hx rfl (hb hby at_28) rfl rfl (l' := #[.val (.int p1), .val (.int p2), .val (.int p3), .val (.int p4), .val (.int p5), .val (.int p6), .val (.int (Int32.ofNat n)), .val (.ref b1), .val (.ref b2), .unset]) rfl hr) ?_
  show OwnR _ _ _ _ _ _ _ (T3.setTop (mkF m 30 #[.val (.int p1), .val (.int p2), .val (.int p3), .val (.int p4), .val (.int p5), .val (.int p6), .val (.int (Int32.ofNat n)), .val (.ref b1), .val (.ref b2), .unset] []))
  refine OwnR.of (fun _ hr => XS.aload X3.here hx rfl (hb hby at_30) rfl rfl hr) ?_
  show OwnR _ _ _ _ _ _ _ (T3.setTop (mkF m 32 #[.val (.int p1), .val (.int p2), .val (.int p3), .val (.int p4), .val (.int p5), .val (.int p6), .val (.int (Int32.ofNat n)), .val (.ref b1), .val (.ref b2), .unset] [(.ref b2)]))
  refine OwnR.of (fun _ hr => XS.aload X3.here hx rfl (hb hby at_32) rfl rfl hr) ?_
  show OwnR _ _ _ _ _ _ _ (T3.setTop (mkF m 34 #[.val (.int p1), .val (.int p2), .val (.int p3), .val (.int p4), .val (.int p5), .val (.int p6), .val (.int (Int32.ofNat n)), .val (.ref b1), .val (.ref b2), .unset] [(.ref b1), (.ref b2)]))
  refine OwnR.of (fun _ hr => XS.iload X3.here hx rfl (hb hby at_34) rfl hr) ?_
  show OwnR _ _ _ _ _ _ _ (T3.setTop (mkF m 36 #[.val (.int p1), .val (.int p2), .val (.int p3), .val (.int p4), .val (.int p5), .val (.int p6), .val (.int (Int32.ofNat n)), .val (.ref b1), .val (.ref b2), .unset] [(.int (Int32.ofNat n)), (.ref b1), (.ref b2)]))
  refine OwnR.of (fun _ hr => XS.iloadN X3.here hx rfl (hb hby at_36) rfl hr) ?_
  show OwnR _ _ _ _ _ _ _ (T3.setTop (mkF m 37 #[.val (.int p1), .val (.int p2), .val (.int p3), .val (.int p4), .val (.int p5), .val (.int p6), .val (.int (Int32.ofNat n)), .val (.ref b1), .val (.ref b2), .unset] [(.int p1), (.int (Int32.ofNat n)), (.ref b1), (.ref b2)]))
  obtain ⟨_, _, ⟨T4, L4, kc4, ns4⟩, -, X4, ⟨Lc4, hQ4, l4, y4, z4⟩, st4⟩ := Jvm.LawKit.callS X3 hx (y := (⟨"com/example/fast_taxonomy/fasttaxonomy/taxonomy/RelationTopologicalOrderPinLaw", "addEdge", "(Lcom/example/fast_taxonomy/fasttaxonomy/taxonomy/Relation;[[ZII)V"⟩ : MethodName)) hown (mvT hZ (hw _ (List.mem_of_getElem? (i := 27) rfl))) (mvT hZ (hw _ (List.mem_of_getElem? (i := 28) rfl))) (mvT hZ (hw _ (List.mem_of_getElem? (i := 29) rfl))) (mvT hZ (hw _ (List.mem_of_getElem? (i := 30) rfl))) (by decide) (backOf (W := 0) (rmEdge l Z a0 hw [] b2 b1 p1 em ro_3 rz_3 kW_3 kS_3 n (fun _ => 0) (fun _ => em) (0 : Int64) kE D (fun _ => kc) (T3.heap) n0 (Nat.le_trans Z0 K3.1) P3_1 P3_2 P3_3 P3_4 RR0 hn4 (fun _ => Nat.two_pow_pos n) (fun _ _ => rfl) hn OO P3_7 EE2) hZ (hw _ (List.mem_of_getElem? (i := 30) rfl)) (hw _ (List.mem_of_getElem? (i := 29) rfl)) (by decide) (by decide)) (g := (mkF m 37 #[.val (.int p1), .val (.int p2), .val (.int p3), .val (.int p4), .val (.int p5), .val (.int p6), .val (.int (Int32.ofNat n)), .val (.ref b1), .val (.ref b2), .unset] [(.int p1), (.int (Int32.ofNat n)), (.ref b1), (.ref b2)])) rfl (by rw [hml]; rfl) (argsL := [(.ref b2), (.ref b1), (.int (Int32.ofNat n)), (.int p1)]) (rest := []) (lenOf pd__Lcom_example_fast_taxonomy_fasttaxonomy_taxonomy_Relation___ZII_V rfl) rfl (by show 2 * 0 + _ ≤ _; exact Nat.le_of_eq rfl) (hb hby at_37) (fun _ _ => ⟨rfl, rfl, (by decide : 7 + 1 ≤ _), (by decide : 23 + 3 ≤ _)⟩)
  dsimp only [Pt.U, Pt.locs, Pt.cells, Pt.slots] at X4 l4 y4 z4 st4 hQ4
  rw [l4, y4, z4] at X4
  obtain ⟨M2_4, B2_4, pq2_4, rfl, N4q, P4_0, P4_1, P4_2, P4_3, P4_4, P4_5, P4_6, P4_7, P4_8⟩ := hQ4
  have K4 : h0.size ≤ T4.heap.size ∧ True := ⟨Nat.le_trans K3.1 P4_8, trivial⟩
  have N4 := Fr.app N3 N4q
  refine OwnR.of (st4) ?_
  show OwnR _ _ _ _ _ _ _ (T4.setTop (mkF m 40 #[.val (.int p1), .val (.int p2), .val (.int p3), .val (.int p4), .val (.int p5), .val (.int p6), .val (.int (Int32.ofNat n)), .val (.ref b1), .val (.ref b2), .unset] []))
  refine OwnR.of (fun _ hr => XS.aload X4.here hx rfl (hb hby at_40) rfl rfl hr) ?_
  show OwnR _ _ _ _ _ _ _ (T4.setTop (mkF m 42 #[.val (.int p1), .val (.int p2), .val (.int p3), .val (.int p4), .val (.int p5), .val (.int p6), .val (.int (Int32.ofNat n)), .val (.ref b1), .val (.ref b2), .unset] [(.ref b2)]))
  refine OwnR.of (fun _ hr => XS.aload X4.here hx rfl (hb hby at_42) rfl rfl hr) ?_
  show OwnR _ _ _ _ _ _ _ (T4.setTop (mkF m 44 #[.val (.int p1), .val (.int p2), .val (.int p3), .val (.int p4), .val (.int p5), .val (.int p6), .val (.int (Int32.ofNat n)), .val (.ref b1), .val (.ref b2), .unset] [(.ref b1), (.ref b2)]))
  refine OwnR.of (fun _ hr => XS.iload X4.here hx rfl (hb hby at_44) rfl hr) ?_
  show OwnR _ _ _ _ _ _ _ (T4.setTop (mkF m 46 #[.val (.int p1), .val (.int p2), .val (.int p3), .val (.int p4), .val (.int p5), .val (.int p6), .val (.int (Int32.ofNat n)), .val (.ref b1), .val (.ref b2), .unset] [(.int (Int32.ofNat n)), (.ref b1), (.ref b2)]))
  refine OwnR.of (fun _ hr => XS.iloadN X4.here hx rfl (hb hby at_46) rfl hr) ?_
  show OwnR _ _ _ _ _ _ _ (T4.setTop (mkF m 47 #[.val (.int p1), .val (.int p2), .val (.int p3), .val (.int p4), .val (.int p5), .val (.int p6), .val (.int (Int32.ofNat n)), .val (.ref b1), .val (.ref b2), .unset] [(.int p2), (.int (Int32.ofNat n)), (.ref b1), (.ref b2)]))
  obtain ⟨_, _, ⟨T5, L5, kc5, ns5⟩, -, X5, ⟨Lc5, hQ5, l5, y5, z5⟩, st5⟩ := Jvm.LawKit.callS X4 hx (y := (⟨"com/example/fast_taxonomy/fasttaxonomy/taxonomy/RelationTopologicalOrderPinLaw", "addEdge", "(Lcom/example/fast_taxonomy/fasttaxonomy/taxonomy/Relation;[[ZII)V"⟩ : MethodName)) hown (mvT hZ (hw _ (List.mem_of_getElem? (i := 27) rfl))) (mvT hZ (hw _ (List.mem_of_getElem? (i := 28) rfl))) (mvT hZ (hw _ (List.mem_of_getElem? (i := 29) rfl))) (mvT hZ (hw _ (List.mem_of_getElem? (i := 30) rfl))) (by decide) (backOf (W := 0) (rmEdge l Z a0 hw [] b2 b1 p2 em ro_3 rz_3 kW_3 kS_3 n M2_4 B2_4 pq2_4 kE D (fun _ => kc) (T4.heap) n0 (Nat.le_trans Z0 K4.1) P4_0 P4_1 P4_2 P4_3 P4_4 hn4 P4_6 P4_7 hn OO P3_7 P4_5) hZ (hw _ (List.mem_of_getElem? (i := 30) rfl)) (hw _ (List.mem_of_getElem? (i := 29) rfl)) (by decide) (by decide)) (g := (mkF m 47 #[.val (.int p1), .val (.int p2), .val (.int p3), .val (.int p4), .val (.int p5), .val (.int p6), .val (.int (Int32.ofNat n)), .val (.ref b1), .val (.ref b2), .unset] [(.int p2), (.int (Int32.ofNat n)), (.ref b1), (.ref b2)])) rfl (by rw [hml]; rfl) (argsL := [(.ref b2), (.ref b1), (.int (Int32.ofNat n)), (.int p2)]) (rest := []) (lenOf pd__Lcom_example_fast_taxonomy_fasttaxonomy_taxonomy_Relation___ZII_V rfl) rfl (by show 2 * 0 + _ ≤ _; exact Nat.le_of_eq rfl) (hb hby at_47) (fun _ _ => ⟨rfl, rfl, (by decide : 8 + 1 ≤ _), (by decide : 26 + 3 ≤ _)⟩)
  dsimp only [Pt.U, Pt.locs, Pt.cells, Pt.slots] at X5 l5 y5 z5 st5 hQ5
  rw [l5, y5, z5] at X5
  obtain ⟨M2_5, B2_5, pq2_5, rfl, N5q, P5_0, P5_1, P5_2, P5_3, P5_4, P5_5, P5_6, P5_7, P5_8⟩ := hQ5
  have K5 : h0.size ≤ T5.heap.size ∧ True := ⟨Nat.le_trans K4.1 P5_8, trivial⟩
  have N5 := Fr.app N4 N5q
  refine OwnR.of (st5) ?_
  show OwnR _ _ _ _ _ _ _ (T5.setTop (mkF m 50 #[.val (.int p1), .val (.int p2), .val (.int p3), .val (.int p4), .val (.int p5), .val (.int p6), .val (.int (Int32.ofNat n)), .val (.ref b1), .val (.ref b2), .unset] []))
  refine OwnR.of (fun _ hr => XS.aload X5.here hx rfl (hb hby at_50) rfl rfl hr) ?_
  show OwnR _ _ _ _ _ _ _ (T5.setTop (mkF m 52 #[.val (.int p1), .val (.int p2), .val (.int p3), .val (.int p4), .val (.int p5), .val (.int p6), .val (.int (Int32.ofNat n)), .val (.ref b1), .val (.ref b2), .unset] [(.ref b2)]))
  refine OwnR.of (fun _ hr => XS.aload X5.here hx rfl (hb hby at_52) rfl rfl hr) ?_
  show OwnR _ _ _ _ _ _ _ (T5.setTop (mkF m 54 #[.val (.int p1), .val (.int p2), .val (.int p3), .val (.int p4), .val (.int p5), .val (.int p6), .val (.int (Int32.ofNat n)), .val (.ref b1), .val (.ref b2), .unset] [(.ref b1), (.ref b2)]))
  refine OwnR.of (fun _ hr => XS.iload X5.here hx rfl (hb hby at_54) rfl hr) ?_
  show OwnR _ _ _ _ _ _ _ (T5.setTop (mkF m 56 #[.val (.int p1), .val (.int p2), .val (.int p3), .val (.int p4), .val (.int p5), .val (.int p6), .val (.int (Int32.ofNat n)), .val (.ref b1), .val (.ref b2), .unset] [(.int (Int32.ofNat n)), (.ref b1), (.ref b2)]))
  refine OwnR.of (fun _ hr => XS.iloadN X5.here hx rfl (hb hby at_56) rfl hr) ?_
  show OwnR _ _ _ _ _ _ _ (T5.setTop (mkF m 57 #[.val (.int p1), .val (.int p2), .val (.int p3), .val (.int p4), .val (.int p5), .val (.int p6), .val (.int (Int32.ofNat n)), .val (.ref b1), .val (.ref b2), .unset] [(.int p3), (.int (Int32.ofNat n)), (.ref b1), (.ref b2)]))
  obtain ⟨_, _, ⟨T6, L6, kc6, ns6⟩, -, X6, ⟨Lc6, hQ6, l6, y6, z6⟩, st6⟩ := Jvm.LawKit.callS X5 hx (y := (⟨"com/example/fast_taxonomy/fasttaxonomy/taxonomy/RelationTopologicalOrderPinLaw", "addEdge", "(Lcom/example/fast_taxonomy/fasttaxonomy/taxonomy/Relation;[[ZII)V"⟩ : MethodName)) hown (mvT hZ (hw _ (List.mem_of_getElem? (i := 27) rfl))) (mvT hZ (hw _ (List.mem_of_getElem? (i := 28) rfl))) (mvT hZ (hw _ (List.mem_of_getElem? (i := 29) rfl))) (mvT hZ (hw _ (List.mem_of_getElem? (i := 30) rfl))) (by decide) (backOf (W := 0) (rmEdge l Z a0 hw [] b2 b1 p3 em ro_3 rz_3 kW_3 kS_3 n M2_5 B2_5 pq2_5 kE D (fun _ => kc) (T5.heap) n0 (Nat.le_trans Z0 K5.1) P5_0 P5_1 P5_2 P5_3 P5_4 hn4 P5_6 P5_7 hn OO P3_7 P5_5) hZ (hw _ (List.mem_of_getElem? (i := 30) rfl)) (hw _ (List.mem_of_getElem? (i := 29) rfl)) (by decide) (by decide)) (g := (mkF m 57 #[.val (.int p1), .val (.int p2), .val (.int p3), .val (.int p4), .val (.int p5), .val (.int p6), .val (.int (Int32.ofNat n)), .val (.ref b1), .val (.ref b2), .unset] [(.int p3), (.int (Int32.ofNat n)), (.ref b1), (.ref b2)])) rfl (by rw [hml]; rfl) (argsL := [(.ref b2), (.ref b1), (.int (Int32.ofNat n)), (.int p3)]) (rest := []) (lenOf pd__Lcom_example_fast_taxonomy_fasttaxonomy_taxonomy_Relation___ZII_V rfl) rfl (by show 2 * 0 + _ ≤ _; exact Nat.le_of_eq rfl) (hb hby at_57) (fun _ _ => ⟨rfl, rfl, (by decide : 9 + 1 ≤ _), (by decide : 29 + 3 ≤ _)⟩)
  dsimp only [Pt.U, Pt.locs, Pt.cells, Pt.slots] at X6 l6 y6 z6 st6 hQ6
  rw [l6, y6, z6] at X6
  obtain ⟨M2_6, B2_6, pq2_6, rfl, N6q, P6_0, P6_1, P6_2, P6_3, P6_4, P6_5, P6_6, P6_7, P6_8⟩ := hQ6
  have K6 : h0.size ≤ T6.heap.size ∧ True := ⟨Nat.le_trans K5.1 P6_8, trivial⟩
  have N6 := Fr.app N5 N6q
  refine OwnR.of (st6) ?_
  show OwnR _ _ _ _ _ _ _ (T6.setTop (mkF m 60 #[.val (.int p1), .val (.int p2), .val (.int p3), .val (.int p4), .val (.int p5), .val (.int p6), .val (.int (Int32.ofNat n)), .val (.ref b1), .val (.ref b2), .unset] []))
  refine OwnR.of (fun _ hr => XS.aload X6.here hx rfl (hb hby at_60) rfl rfl hr) ?_
  show OwnR _ _ _ _ _ _ _ (T6.setTop (mkF m 62 #[.val (.int p1), .val (.int p2), .val (.int p3), .val (.int p4), .val (.int p5), .val (.int p6), .val (.int (Int32.ofNat n)), .val (.ref b1), .val (.ref b2), .unset] [(.ref b2)]))
  refine OwnR.of (fun _ hr => XS.aload X6.here hx rfl (hb hby at_62) rfl rfl hr) ?_
  show OwnR _ _ _ _ _ _ _ (T6.setTop (mkF m 64 #[.val (.int p1), .val (.int p2), .val (.int p3), .val (.int p4), .val (.int p5), .val (.int p6), .val (.int (Int32.ofNat n)), .val (.ref b1), .val (.ref b2), .unset] [(.ref b1), (.ref b2)]))
  refine OwnR.of (fun _ hr => XS.iload X6.here hx rfl (hb hby at_64) rfl hr) ?_
  show OwnR _ _ _ _ _ _ _ (T6.setTop (mkF m 66 #[.val (.int p1), .val (.int p2), .val (.int p3), .val (.int p4), .val (.int p5), .val (.int p6), .val (.int (Int32.ofNat n)), .val (.ref b1), .val (.ref b2), .unset] [(.int (Int32.ofNat n)), (.ref b1), (.ref b2)]))
  refine OwnR.of (fun _ hr => XS.iloadN X6.here hx rfl (hb hby at_66) rfl hr) ?_
  show OwnR _ _ _ _ _ _ _ (T6.setTop (mkF m 67 #[.val (.int p1), .val (.int p2), .val (.int p3), .val (.int p4), .val (.int p5), .val (.int p6), .val (.int (Int32.ofNat n)), .val (.ref b1), .val (.ref b2), .unset] [(.int p4), (.int (Int32.ofNat n)), (.ref b1), (.ref b2)]))
  obtain ⟨_, _, ⟨T7, L7, kc7, ns7⟩, -, X7, ⟨Lc7, hQ7, l7, y7, z7⟩, st7⟩ := Jvm.LawKit.callS X6 hx (y := (⟨"com/example/fast_taxonomy/fasttaxonomy/taxonomy/RelationTopologicalOrderPinLaw", "addEdge", "(Lcom/example/fast_taxonomy/fasttaxonomy/taxonomy/Relation;[[ZII)V"⟩ : MethodName)) hown (mvT hZ (hw _ (List.mem_of_getElem? (i := 27) rfl))) (mvT hZ (hw _ (List.mem_of_getElem? (i := 28) rfl))) (mvT hZ (hw _ (List.mem_of_getElem? (i := 29) rfl))) (mvT hZ (hw _ (List.mem_of_getElem? (i := 30) rfl))) (by decide) (backOf (W := 0) (rmEdge l Z a0 hw [] b2 b1 p4 em ro_3 rz_3 kW_3 kS_3 n M2_6 B2_6 pq2_6 kE D (fun _ => kc) (T6.heap) n0 (Nat.le_trans Z0 K6.1) P6_0 P6_1 P6_2 P6_3 P6_4 hn4 P6_6 P6_7 hn OO P3_7 P6_5) hZ (hw _ (List.mem_of_getElem? (i := 30) rfl)) (hw _ (List.mem_of_getElem? (i := 29) rfl)) (by decide) (by decide)) (g := (mkF m 67 #[.val (.int p1), .val (.int p2), .val (.int p3), .val (.int p4), .val (.int p5), .val (.int p6), .val (.int (Int32.ofNat n)), .val (.ref b1), .val (.ref b2), .unset] [(.int p4), (.int (Int32.ofNat n)), (.ref b1), (.ref b2)])) rfl (by rw [hml]; rfl) (argsL := [(.ref b2), (.ref b1), (.int (Int32.ofNat n)), (.int p4)]) (rest := []) (lenOf pd__Lcom_example_fast_taxonomy_fasttaxonomy_taxonomy_Relation___ZII_V rfl) rfl (by show 2 * 0 + _ ≤ _; exact Nat.le_of_eq rfl) (hb hby at_67) (fun _ _ => ⟨rfl, rfl, (by decide : 10 + 1 ≤ _), (by decide : 32 + 3 ≤ _)⟩)
  dsimp only [Pt.U, Pt.locs, Pt.cells, Pt.slots] at X7 l7 y7 z7 st7 hQ7
  rw [l7, y7, z7] at X7
  obtain ⟨M2_7, B2_7, pq2_7, rfl, N7q, P7_0, P7_1, P7_2, P7_3, P7_4, P7_5, P7_6, P7_7, P7_8⟩ := hQ7
  have K7 : h0.size ≤ T7.heap.size ∧ True := ⟨Nat.le_trans K6.1 P7_8, trivial⟩
  have N7 := Fr.app N6 N7q
  refine OwnR.of (st7) ?_
  show OwnR _ _ _ _ _ _ _ (T7.setTop (mkF m 70 #[.val (.int p1), .val (.int p2), .val (.int p3), .val (.int p4), .val (.int p5), .val (.int p6), .val (.int (Int32.ofNat n)), .val (.ref b1), .val (.ref b2), .unset] []))
  refine OwnR.of (fun _ hr => XS.aload X7.here hx rfl (hb hby at_70) rfl rfl hr) ?_
  show OwnR _ _ _ _ _ _ _ (T7.setTop (mkF m 72 #[.val (.int p1), .val (.int p2), .val (.int p3), .val (.int p4), .val (.int p5), .val (.int p6), .val (.int (Int32.ofNat n)), .val (.ref b1), .val (.ref b2), .unset] [(.ref b2)]))
  refine OwnR.of (fun _ hr => XS.aload X7.here hx rfl (hb hby at_72) rfl rfl hr) ?_
  show OwnR _ _ _ _ _ _ _ (T7.setTop (mkF m 74 #[.val (.int p1), .val (.int p2), .val (.int p3), .val (.int p4), .val (.int p5), .val (.int p6), .val (.int (Int32.ofNat n)), .val (.ref b1), .val (.ref b2), .unset] [(.ref b1), (.ref b2)]))
  refine OwnR.of (fun _ hr => XS.iload X7.here hx rfl (hb hby at_74) rfl hr) ?_
  show OwnR _ _ _ _ _ _ _ (T7.setTop (mkF m 76 #[.val (.int p1), .val (.int p2), .val (.int p3), .val (.int p4), .val (.int p5), .val (.int p6), .val (.int (Int32.ofNat n)), .val (.ref b1), .val (.ref b2), .unset] [(.int (Int32.ofNat n)), (.ref b1), (.ref b2)]))
  refine OwnR.of (fun _ hr => XS.iload X7.here hx rfl (hb hby at_76) rfl hr) ?_
  show OwnR _ _ _ _ _ _ _ (T7.setTop (mkF m 78 #[.val (.int p1), .val (.int p2), .val (.int p3), .val (.int p4), .val (.int p5), .val (.int p6), .val (.int (Int32.ofNat n)), .val (.ref b1), .val (.ref b2), .unset] [(.int p5), (.int (Int32.ofNat n)), (.ref b1), (.ref b2)]))
  obtain ⟨_, _, ⟨T8, L8, kc8, ns8⟩, -, X8, ⟨Lc8, hQ8, l8, y8, z8⟩, st8⟩ := Jvm.LawKit.callS X7 hx (y := (⟨"com/example/fast_taxonomy/fasttaxonomy/taxonomy/RelationTopologicalOrderPinLaw", "addEdge", "(Lcom/example/fast_taxonomy/fasttaxonomy/taxonomy/Relation;[[ZII)V"⟩ : MethodName)) hown (mvT hZ (hw _ (List.mem_of_getElem? (i := 27) rfl))) (mvT hZ (hw _ (List.mem_of_getElem? (i := 28) rfl))) (mvT hZ (hw _ (List.mem_of_getElem? (i := 29) rfl))) (mvT hZ (hw _ (List.mem_of_getElem? (i := 30) rfl))) (by decide) (backOf (W := 0) (rmEdge l Z a0 hw [] b2 b1 p5 em ro_3 rz_3 kW_3 kS_3 n M2_7 B2_7 pq2_7 kE D (fun _ => kc) (T7.heap) n0 (Nat.le_trans Z0 K7.1) P7_0 P7_1 P7_2 P7_3 P7_4 hn4 P7_6 P7_7 hn OO P3_7 P7_5) hZ (hw _ (List.mem_of_getElem? (i := 30) rfl)) (hw _ (List.mem_of_getElem? (i := 29) rfl)) (by decide) (by decide)) (g := (mkF m 78 #[.val (.int p1), .val (.int p2), .val (.int p3), .val (.int p4), .val (.int p5), .val (.int p6), .val (.int (Int32.ofNat n)), .val (.ref b1), .val (.ref b2), .unset] [(.int p5), (.int (Int32.ofNat n)), (.ref b1), (.ref b2)])) rfl (by rw [hml]; rfl) (argsL := [(.ref b2), (.ref b1), (.int (Int32.ofNat n)), (.int p5)]) (rest := []) (lenOf pd__Lcom_example_fast_taxonomy_fasttaxonomy_taxonomy_Relation___ZII_V rfl) rfl (by show 2 * 0 + _ ≤ _; exact Nat.le_of_eq rfl) (hb hby at_78) (fun _ _ => ⟨rfl, rfl, (by decide : 11 + 1 ≤ _), (by decide : 35 + 3 ≤ _)⟩)
  dsimp only [Pt.U, Pt.locs, Pt.cells, Pt.slots] at X8 l8 y8 z8 st8 hQ8
  rw [l8, y8, z8] at X8
  obtain ⟨M2_8, B2_8, pq2_8, rfl, N8q, P8_0, P8_1, P8_2, P8_3, P8_4, P8_5, P8_6, P8_7, P8_8⟩ := hQ8
  have K8 : h0.size ≤ T8.heap.size ∧ True := ⟨Nat.le_trans K7.1 P8_8, trivial⟩
  have N8 := Fr.app N7 N8q
  refine OwnR.of (st8) ?_
  show OwnR _ _ _ _ _ _ _ (T8.setTop (mkF m 81 #[.val (.int p1), .val (.int p2), .val (.int p3), .val (.int p4), .val (.int p5), .val (.int p6), .val (.int (Int32.ofNat n)), .val (.ref b1), .val (.ref b2), .unset] []))
  refine OwnR.of (fun _ hr => XS.aload X8.here hx rfl (hb hby at_81) rfl rfl hr) ?_
  show OwnR _ _ _ _ _ _ _ (T8.setTop (mkF m 83 #[.val (.int p1), .val (.int p2), .val (.int p3), .val (.int p4), .val (.int p5), .val (.int p6), .val (.int (Int32.ofNat n)), .val (.ref b1), .val (.ref b2), .unset] [(.ref b2)]))
  obtain ⟨res, c0, c1, c2, c3, d1, d2, d3, d4, d5, d6⟩ := own_checkS (own_okn hn hn4 P8_6 P8_7)
  obtain ⟨cq9, kq9, q9a, q9b, q9c⟩ := isOf hZ rfl P8_0
  obtain ⟨_, _, ⟨T9, L9, kc9, ns9⟩, -, X9, ⟨Lc9, hQ9, l9, y9, z9⟩, st9⟩ := X8.virtualBack hx (y := (⟨"com/example/fast_taxonomy/fasttaxonomy/taxonomy/Relation", "topologicalOrder", "()[I"⟩ : MethodName)) (z := (⟨"com/example/fast_taxonomy/fasttaxonomy/taxonomy/Relation", "topologicalOrder", "()[I"⟩ : MethodName)) hown (mvT hZ (hw _ (List.mem_of_getElem? (i := 32) rfl))) (mvT hZ (hw _ (List.mem_of_getElem? (i := 33) rfl))) (notFace_of_selects (args := #[]) (mvT hZ (hw _ (List.mem_of_getElem? (i := 35) rfl)))) (mvT hZ (hw _ (List.mem_of_getElem? (i := 35) rfl))) (mvT hZ (hw _ (List.mem_of_getElem? (i := 34) rfl))) (by decide) (backOf (W := 0) (rmTop l Z a0 hw [] b2 em ro_3 rz_3 kW_3 kS_3 n M2_8 B2_8 res (T8.heap) n0 (Nat.le_trans Z0 K8.1) P8_0 P8_1 P8_2 P8_4 hn4 P8_6 c0) hZ (hw _ (List.mem_of_getElem? (i := 36) rfl)) (hw _ (List.mem_of_getElem? (i := 6) rfl)) (by decide) (by decide)) q9a q9c (g := (mkF m 83 #[.val (.int p1), .val (.int p2), .val (.int p3), .val (.int p4), .val (.int p5), .val (.int p6), .val (.int (Int32.ofNat n)), .val (.ref b1), .val (.ref b2), .unset] [(.ref b2)])) rfl (by rw [hml]; rfl) (Steps.refl _) (argsL := []) (rest := []) (lenOf pd____I rfl) rfl (by show 2 * 0 + _ ≤ _; exact Nat.le_of_eq rfl) (hb hby at_83) (fun _ _ => ⟨rfl, rfl, (by decide : 12 + 2 ≤ _), (by decide : 38 + 6 ≤ _)⟩)
  dsimp only [Pt.U, Pt.locs, Pt.cells, Pt.slots] at X9 l9 y9 z9 st9 hQ9
  rw [l9, y9, z9] at X9
  obtain ⟨ra_9, kR_9, rfl, N9q, P9_0, P9_1, P9_2, P9_3⟩ := hQ9
  have K9 : h0.size ≤ T9.heap.size ∧ True := ⟨Nat.le_trans K8.1 P9_0.1, trivial⟩
  have sz_ra_9 : h0.size ≤ ra_9 := Nat.le_trans K8.1 P9_2
  have N9 := Fr.app N8 N9q
  refine OwnR.of (fun _ hr => st9.trans hr) ?_
  show OwnR _ _ _ _ _ _ _ (T9.setTop (mkF m 86 #[.val (.int p1), .val (.int p2), .val (.int p3), .val (.int p4), .val (.int p5), .val (.int p6), .val (.int (Int32.ofNat n)), .val (.ref b1), .val (.ref b2), .unset] [(.ref ra_9)]))
  have EE9 := OwnE.keep P8_5 P9_0 nin0 fun _ _ => nin0
  refine OwnR.of (fun _ hr => XS.astore X9.here hx rfl (hb hby at_86) rfl rfl (l' := #[.val (.int p1), .val (.int p2), .val (.int p3), .val (.int p4), .val (.int p5), .val (.int p6), .val (.int (Int32.ofNat n)), .val (.ref b1), .val (.ref b2), .val (.ref ra_9)]) rfl hr) ?_
  show OwnR _ _ _ _ _ _ _ (T9.setTop (mkF m 88 #[.val (.int p1), .val (.int p2), .val (.int p3), .val (.int p4), .val (.int p5), .val (.int p6), .val (.int (Int32.ofNat n)), .val (.ref b1), .val (.ref b2), .val (.ref ra_9)] []))
  refine OwnR.of (fun _ hr => XS.aload X9.here hx rfl (hb hby at_88) rfl rfl hr) ?_
  show OwnR _ _ _ _ _ _ _ (T9.setTop (mkF m 90 #[.val (.int p1), .val (.int p2), .val (.int p3), .val (.int p4), .val (.int p5), .val (.int p6), .val (.int (Int32.ofNat n)), .val (.ref b1), .val (.ref b2), .val (.ref ra_9)] [(.ref ra_9)]))
  refine OwnR.of (fun _ hr => XS.ifnullNo X9.here hx rfl (hb hby at_90) rfl hr) ?_
  show OwnR _ _ _ _ _ _ _ (T9.setTop (mkF m 93 #[.val (.int p1), .val (.int p2), .val (.int p3), .val (.int p4), .val (.int p5), .val (.int p6), .val (.int (Int32.ofNat n)), .val (.ref b1), .val (.ref b2), .val (.ref ra_9)] []))
  refine OwnR.of (fun _ hr => XS.aload X9.here hx rfl (hb hby at_93) rfl rfl hr) ?_
  show OwnR _ _ _ _ _ _ _ (T9.setTop (mkF m 95 #[.val (.int p1), .val (.int p2), .val (.int p3), .val (.int p4), .val (.int p5), .val (.int p6), .val (.int (Int32.ofNat n)), .val (.ref b1), .val (.ref b2), .val (.ref ra_9)] [(.ref ra_9)]))
  refine OwnR.of (own_alen X9 hx hZ rfl P9_1 (z := (Int32.ofNat n)) (own_c4 hn4) (own_n4 hn4) (g := (mkF m 95 #[.val (.int p1), .val (.int p2), .val (.int p3), .val (.int p4), .val (.int p5), .val (.int p6), .val (.int (Int32.ofNat n)), .val (.ref b1), .val (.ref b2), .val (.ref ra_9)] [(.ref ra_9)])) rfl rfl (hb hby at_95)) ?_
  show OwnR _ _ _ _ _ _ _ (T9.setTop (mkF m 96 #[.val (.int p1), .val (.int p2), .val (.int p3), .val (.int p4), .val (.int p5), .val (.int p6), .val (.int (Int32.ofNat n)), .val (.ref b1), .val (.ref b2), .val (.ref ra_9)] [(.int (Int32.ofNat n))]))
  refine OwnR.of (fun _ hr => XS.iload X9.here hx rfl (hb hby at_96) rfl hr) ?_
  show OwnR _ _ _ _ _ _ _ (T9.setTop (mkF m 98 #[.val (.int p1), .val (.int p2), .val (.int p3), .val (.int p4), .val (.int p5), .val (.int p6), .val (.int (Int32.ofNat n)), .val (.ref b1), .val (.ref b2), .val (.ref ra_9)] [(.int (Int32.ofNat n)), (.int (Int32.ofNat n))]))
  refine OwnR.of (fun _ hr => XS.icmpYes X9.here hx rfl (pc0 := 98) (pc' := 103) rfl (hb hby at_98) rfl (teq rfl).1 (by decide) (by decide) hr) ?_
  show OwnR _ _ _ _ _ _ _ (T9.setTop (mkF m 103 #[.val (.int p1), .val (.int p2), .val (.int p3), .val (.int p4), .val (.int p5), .val (.int p6), .val (.int (Int32.ofNat n)), .val (.ref b1), .val (.ref b2), .val (.ref ra_9)] []))
  refine OwnR.of (fun _ hr => XS.aload X9.here hx rfl (hb hby at_103) rfl rfl hr) ?_
  show OwnR _ _ _ _ _ _ _ (T9.setTop (mkF m 105 #[.val (.int p1), .val (.int p2), .val (.int p3), .val (.int p4), .val (.int p5), .val (.int p6), .val (.int (Int32.ofNat n)), .val (.ref b1), .val (.ref b2), .val (.ref ra_9)] [(.ref ra_9)]))
  refine OwnR.of (fun _ hr => XS.iconst X9.here hx rfl (hb hby at_105) hr) ?_
  show OwnR _ _ _ _ _ _ _ (T9.setTop (mkF m 106 #[.val (.int p1), .val (.int p2), .val (.int p3), .val (.int p4), .val (.int p5), .val (.int p6), .val (.int (Int32.ofNat n)), .val (.ref b1), .val (.ref b2), .val (.ref ra_9)] [(.int (0 : Int32)), (.ref ra_9)]))
  obtain ⟨_, _, ⟨T10, L10, kc10, ns10⟩, -, X10, ⟨Lc10, hQ10, l10, y10, z10⟩, st10⟩ := Jvm.LawKit.callS X9 hx (y := (⟨"com/example/fast_taxonomy/fasttaxonomy/taxonomy/RelationTopologicalOrderPinLaw", "pos", "([II)I"⟩ : MethodName)) hown (mvT hZ (hw _ (List.mem_of_getElem? (i := 37) rfl))) (mvT hZ (hw _ (List.mem_of_getElem? (i := 38) rfl))) (mvT hZ (hw _ (List.mem_of_getElem? (i := 29) rfl))) (mvT hZ (hw _ (List.mem_of_getElem? (i := 39) rfl))) (by decide) (backOf (W := 0) (rmPos l Z a0 hw [] ra_9 kR_9 res n 0 (T9.heap) n0 (Nat.le_trans Z0 K9.1) P9_1 hn4) hZ (hw _ (List.mem_of_getElem? (i := 39) rfl)) (hw _ (List.mem_of_getElem? (i := 29) rfl)) (by decide) (by decide)) (g := (mkF m 106 #[.val (.int p1), .val (.int p2), .val (.int p3), .val (.int p4), .val (.int p5), .val (.int p6), .val (.int (Int32.ofNat n)), .val (.ref b1), .val (.ref b2), .val (.ref ra_9)] [(.int (0 : Int32)), (.ref ra_9)])) rfl (by rw [hml]; rfl) (argsL := [(.ref ra_9), (.int (0 : Int32))]) (rest := []) (lenOf pd___II_I rfl) rfl (by show 2 * 0 + _ ≤ _; exact Nat.le_of_eq rfl) (hb hby at_106) (fun _ _ => ⟨rfl, rfl, (by decide : 14 + 0 ≤ _), (by decide : 44 + 0 ≤ _)⟩)
  dsimp only [Pt.U, Pt.locs, Pt.cells, Pt.slots] at X10 l10 y10 z10 st10 hQ10
  rw [l10, y10, z10] at X10
  obtain ⟨rfl, N10q, e10⟩ := hQ10
  have N10 := Fr.app N9 N10q
  refine OwnR.of (st10) ?_
  show OwnR _ _ _ _ _ _ _ (T10.setTop (mkF m 109 #[.val (.int p1), .val (.int p2), .val (.int p3), .val (.int p4), .val (.int p5), .val (.int p6), .val (.int (Int32.ofNat n)), .val (.ref b1), .val (.ref b2), .val (.ref ra_9)] [(.int (own_pos n res 0))]))
  have hc109_11 : ¬ ((own_pos n res 0) < (0 : Int32)) := by
    intro hbad
    exact c1 hbad
  refine OwnR.of (fun _ hr => XS.ifYes X10.here hx rfl (pc0 := 109) (pc' := 114) rfl (hb hby at_109) rfl ((if0 _ _).trans (flt hc109_11).2.1) (by decide) (by decide) hr) ?_
  show OwnR _ _ _ _ _ _ _ (T10.setTop (mkF m 114 #[.val (.int p1), .val (.int p2), .val (.int p3), .val (.int p4), .val (.int p5), .val (.int p6), .val (.int (Int32.ofNat n)), .val (.ref b1), .val (.ref b2), .val (.ref ra_9)] []))
  refine OwnR.of (fun _ hr => XS.iload X10.here hx rfl (hb hby at_114) rfl hr) ?_
  show OwnR _ _ _ _ _ _ _ (T10.setTop (mkF m 116 #[.val (.int p1), .val (.int p2), .val (.int p3), .val (.int p4), .val (.int p5), .val (.int p6), .val (.int (Int32.ofNat n)), .val (.ref b1), .val (.ref b2), .val (.ref ra_9)] [(.int (Int32.ofNat n))]))
  refine OwnR.of (fun _ hr => XS.iconst X10.here hx rfl (hb hby at_116) hr) ?_
  show OwnR _ _ _ _ _ _ _ (T10.setTop (mkF m 117 #[.val (.int p1), .val (.int p2), .val (.int p3), .val (.int p4), .val (.int p5), .val (.int p6), .val (.int (Int32.ofNat n)), .val (.ref b1), .val (.ref b2), .val (.ref ra_9)] [(.int (1 : Int32)), (.int (Int32.ofNat n))]))
  by_cases hc117_12 : (1 : Int32) < (Int32.ofNat n)
  · skip
    refine OwnR.of (fun _ hr => XS.icmpNo X10.here hx rfl (hb hby at_117) rfl (tlt hc117_12).2.2.2 hr) ?_
    show OwnR _ _ _ _ _ _ _ (T10.setTop (mkF m 120 #[.val (.int p1), .val (.int p2), .val (.int p3), .val (.int p4), .val (.int p5), .val (.int p6), .val (.int (Int32.ofNat n)), .val (.ref b1), .val (.ref b2), .val (.ref ra_9)] []))
    refine OwnR.of (fun _ hr => XS.aload X10.here hx rfl (hb hby at_120) rfl rfl hr) ?_
    show OwnR _ _ _ _ _ _ _ (T10.setTop (mkF m 122 #[.val (.int p1), .val (.int p2), .val (.int p3), .val (.int p4), .val (.int p5), .val (.int p6), .val (.int (Int32.ofNat n)), .val (.ref b1), .val (.ref b2), .val (.ref ra_9)] [(.ref ra_9)]))
    refine OwnR.of (fun _ hr => XS.iconst X10.here hx rfl (hb hby at_122) hr) ?_
    show OwnR _ _ _ _ _ _ _ (T10.setTop (mkF m 123 #[.val (.int p1), .val (.int p2), .val (.int p3), .val (.int p4), .val (.int p5), .val (.int p6), .val (.int (Int32.ofNat n)), .val (.ref b1), .val (.ref b2), .val (.ref ra_9)] [(.int (1 : Int32)), (.ref ra_9)]))
    obtain ⟨_, _, ⟨T13, L13, kc13, ns13⟩, -, X13, ⟨Lc13, hQ13, l13, y13, z13⟩, st13⟩ := Jvm.LawKit.callS X10 hx (y := (⟨"com/example/fast_taxonomy/fasttaxonomy/taxonomy/RelationTopologicalOrderPinLaw", "pos", "([II)I"⟩ : MethodName)) hown (mvT hZ (hw _ (List.mem_of_getElem? (i := 37) rfl))) (mvT hZ (hw _ (List.mem_of_getElem? (i := 38) rfl))) (mvT hZ (hw _ (List.mem_of_getElem? (i := 29) rfl))) (mvT hZ (hw _ (List.mem_of_getElem? (i := 39) rfl))) (by decide) (backOf (W := 0) (rmPos l Z a0 hw [] ra_9 kR_9 res n 1 (T9.heap) n0 (Nat.le_trans Z0 K9.1) P9_1 hn4) hZ (hw _ (List.mem_of_getElem? (i := 39) rfl)) (hw _ (List.mem_of_getElem? (i := 29) rfl)) (by decide) (by decide)) (g := (mkF m 123 #[.val (.int p1), .val (.int p2), .val (.int p3), .val (.int p4), .val (.int p5), .val (.int p6), .val (.int (Int32.ofNat n)), .val (.ref b1), .val (.ref b2), .val (.ref ra_9)] [(.int (1 : Int32)), (.ref ra_9)])) rfl (by rw [hml]; rfl) (argsL := [(.ref ra_9), (.int (1 : Int32))]) (rest := []) (lenOf pd___II_I rfl) rfl (by show 2 * 0 + _ ≤ _; exact Nat.le_of_eq rfl) (hb hby at_123) (fun _ _ => ⟨rfl, e10, (by decide : 14 + 0 ≤ _), (by decide : 44 + 0 ≤ _)⟩)
    dsimp only [Pt.U, Pt.locs, Pt.cells, Pt.slots] at X13 l13 y13 z13 st13 hQ13
    rw [l13, y13, z13] at X13
    obtain ⟨rfl, N13q, e13⟩ := hQ13
    have N13 := Fr.app N10 N13q
    refine OwnR.of (st13) ?_
    show OwnR _ _ _ _ _ _ _ (T13.setTop (mkF m 126 #[.val (.int p1), .val (.int p2), .val (.int p3), .val (.int p4), .val (.int p5), .val (.int p6), .val (.int (Int32.ofNat n)), .val (.ref b1), .val (.ref b2), .val (.ref ra_9)] [(.int (own_pos n res 1))]))
    have hc126_14 : ¬ ((own_pos n res 1) < (0 : Int32)) := by
      intro hbad
      exact c2 (Eq.mp (own_1n hn4) hc117_12) hbad
    refine OwnR.of (fun _ hr => XS.ifYes X13.here hx rfl (pc0 := 126) (pc' := 131) rfl (hb hby at_126) rfl ((if0 _ _).trans (flt hc126_14).2.1) (by decide) (by decide) hr) ?_
    show OwnR _ _ _ _ _ _ _ (T13.setTop (mkF m 131 #[.val (.int p1), .val (.int p2), .val (.int p3), .val (.int p4), .val (.int p5), .val (.int p6), .val (.int (Int32.ofNat n)), .val (.ref b1), .val (.ref b2), .val (.ref ra_9)] []))
    refine OwnR.of (fun _ hr => XS.iload X13.here hx rfl (hb hby at_131) rfl hr) ?_
    show OwnR _ _ _ _ _ _ _ (T13.setTop (mkF m 133 #[.val (.int p1), .val (.int p2), .val (.int p3), .val (.int p4), .val (.int p5), .val (.int p6), .val (.int (Int32.ofNat n)), .val (.ref b1), .val (.ref b2), .val (.ref ra_9)] [(.int (Int32.ofNat n))]))
    refine OwnR.of (fun _ hr => XS.iconst X13.here hx rfl (hb hby at_133) hr) ?_
    show OwnR _ _ _ _ _ _ _ (T13.setTop (mkF m 134 #[.val (.int p1), .val (.int p2), .val (.int p3), .val (.int p4), .val (.int p5), .val (.int p6), .val (.int (Int32.ofNat n)), .val (.ref b1), .val (.ref b2), .val (.ref ra_9)] [(.int (2 : Int32)), (.int (Int32.ofNat n))]))
    by_cases hc134_15 : (2 : Int32) < (Int32.ofNat n)
    · skip
      refine OwnR.of (fun _ hr => XS.icmpNo X13.here hx rfl (hb hby at_134) rfl (tlt hc134_15).2.2.2 hr) ?_
      show OwnR _ _ _ _ _ _ _ (T13.setTop (mkF m 137 #[.val (.int p1), .val (.int p2), .val (.int p3), .val (.int p4), .val (.int p5), .val (.int p6), .val (.int (Int32.ofNat n)), .val (.ref b1), .val (.ref b2), .val (.ref ra_9)] []))
      refine OwnR.of (fun _ hr => XS.aload X13.here hx rfl (hb hby at_137) rfl rfl hr) ?_
      show OwnR _ _ _ _ _ _ _ (T13.setTop (mkF m 139 #[.val (.int p1), .val (.int p2), .val (.int p3), .val (.int p4), .val (.int p5), .val (.int p6), .val (.int (Int32.ofNat n)), .val (.ref b1), .val (.ref b2), .val (.ref ra_9)] [(.ref ra_9)]))
      refine OwnR.of (fun _ hr => XS.iconst X13.here hx rfl (hb hby at_139) hr) ?_
      show OwnR _ _ _ _ _ _ _ (T13.setTop (mkF m 140 #[.val (.int p1), .val (.int p2), .val (.int p3), .val (.int p4), .val (.int p5), .val (.int p6), .val (.int (Int32.ofNat n)), .val (.ref b1), .val (.ref b2), .val (.ref ra_9)] [(.int (2 : Int32)), (.ref ra_9)]))
      obtain ⟨_, _, ⟨T16, L16, kc16, ns16⟩, -, X16, ⟨Lc16, hQ16, l16, y16, z16⟩, st16⟩ := Jvm.LawKit.callS X13 hx (y := (⟨"com/example/fast_taxonomy/fasttaxonomy/taxonomy/RelationTopologicalOrderPinLaw", "pos", "([II)I"⟩ : MethodName)) hown (mvT hZ (hw _ (List.mem_of_getElem? (i := 37) rfl))) (mvT hZ (hw _ (List.mem_of_getElem? (i := 38) rfl))) (mvT hZ (hw _ (List.mem_of_getElem? (i := 29) rfl))) (mvT hZ (hw _ (List.mem_of_getElem? (i := 39) rfl))) (by decide) (backOf (W := 0) (rmPos l Z a0 hw [] ra_9 kR_9 res n 2 (T9.heap) n0 (Nat.le_trans Z0 K9.1) P9_1 hn4) hZ (hw _ (List.mem_of_getElem? (i := 39) rfl)) (hw _ (List.mem_of_getElem? (i := 29) rfl)) (by decide) (by decide)) (g := (mkF m 140 #[.val (.int p1), .val (.int p2), .val (.int p3), .val (.int p4), .val (.int p5), .val (.int p6), .val (.int (Int32.ofNat n)), .val (.ref b1), .val (.ref b2), .val (.ref ra_9)] [(.int (2 : Int32)), (.ref ra_9)])) rfl (by rw [hml]; rfl) (argsL := [(.ref ra_9), (.int (2 : Int32))]) (rest := []) (lenOf pd___II_I rfl) rfl (by show 2 * 0 + _ ≤ _; exact Nat.le_of_eq rfl) (hb hby at_140) (fun _ _ => ⟨rfl, e13, (by decide : 14 + 0 ≤ _), (by decide : 44 + 0 ≤ _)⟩)
      dsimp only [Pt.U, Pt.locs, Pt.cells, Pt.slots] at X16 l16 y16 z16 st16 hQ16
      rw [l16, y16, z16] at X16
      obtain ⟨rfl, N16q, e16⟩ := hQ16
      have N16 := Fr.app N13 N16q
      refine OwnR.of (st16) ?_
      show OwnR _ _ _ _ _ _ _ (T16.setTop (mkF m 143 #[.val (.int p1), .val (.int p2), .val (.int p3), .val (.int p4), .val (.int p5), .val (.int p6), .val (.int (Int32.ofNat n)), .val (.ref b1), .val (.ref b2), .val (.ref ra_9)] [(.int (own_pos n res 2))]))
      have hc143_17 : ¬ ((own_pos n res 2) < (0 : Int32)) := by
        intro hbad
        exact c3 (Eq.mp (own_2n hn4) hc134_15) hbad
      refine OwnR.of (fun _ hr => XS.ifYes X16.here hx rfl (pc0 := 143) (pc' := 148) rfl (hb hby at_143) rfl ((if0 _ _).trans (flt hc143_17).2.1) (by decide) (by decide) hr) ?_
      show OwnR _ _ _ _ _ _ _ (T16.setTop (mkF m 148 #[.val (.int p1), .val (.int p2), .val (.int p3), .val (.int p4), .val (.int p5), .val (.int p6), .val (.int (Int32.ofNat n)), .val (.ref b1), .val (.ref b2), .val (.ref ra_9)] []))
      refine OwnR.of (fun _ hr => XS.aload X16.here hx rfl (hb hby at_148) rfl rfl hr) ?_
      show OwnR _ _ _ _ _ _ _ (T16.setTop (mkF m 150 #[.val (.int p1), .val (.int p2), .val (.int p3), .val (.int p4), .val (.int p5), .val (.int p6), .val (.int (Int32.ofNat n)), .val (.ref b1), .val (.ref b2), .val (.ref ra_9)] [(.ref b1)]))
      refine OwnR.of (fun _ hr => XS.aload X16.here hx rfl (hb hby at_150) rfl rfl hr) ?_
      show OwnR _ _ _ _ _ _ _ (T16.setTop (mkF m 152 #[.val (.int p1), .val (.int p2), .val (.int p3), .val (.int p4), .val (.int p5), .val (.int p6), .val (.int (Int32.ofNat n)), .val (.ref b1), .val (.ref b2), .val (.ref ra_9)] [(.ref ra_9), (.ref b1)]))
      refine OwnR.of (fun _ hr => XS.iload X16.here hx rfl (hb hby at_152) rfl hr) ?_
      show OwnR _ _ _ _ _ _ _ (T16.setTop (mkF m 154 #[.val (.int p1), .val (.int p2), .val (.int p3), .val (.int p4), .val (.int p5), .val (.int p6), .val (.int (Int32.ofNat n)), .val (.ref b1), .val (.ref b2), .val (.ref ra_9)] [(.int (Int32.ofNat n)), (.ref ra_9), (.ref b1)]))
      refine OwnR.of (fun _ hr => XS.iconst X16.here hx rfl (hb hby at_154) hr) ?_
      show OwnR _ _ _ _ _ _ _ (T16.setTop (mkF m 155 #[.val (.int p1), .val (.int p2), .val (.int p3), .val (.int p4), .val (.int p5), .val (.int p6), .val (.int (Int32.ofNat n)), .val (.ref b1), .val (.ref b2), .val (.ref ra_9)] [(.int (0 : Int32)), (.int (Int32.ofNat n)), (.ref ra_9), (.ref b1)]))
      refine OwnR.of (fun _ hr => XS.iconst X16.here hx rfl (hb hby at_155) hr) ?_
      show OwnR _ _ _ _ _ _ _ (T16.setTop (mkF m 156 #[.val (.int p1), .val (.int p2), .val (.int p3), .val (.int p4), .val (.int p5), .val (.int p6), .val (.int (Int32.ofNat n)), .val (.ref b1), .val (.ref b2), .val (.ref ra_9)] [(.int (1 : Int32)), (.int (0 : Int32)), (.int (Int32.ofNat n)), (.ref ra_9), (.ref b1)]))
      obtain ⟨_, _, ⟨T18, L18, kc18, ns18⟩, -, X18, ⟨Lc18, hQ18, l18, y18, z18⟩, st18⟩ := Jvm.LawKit.callS X16 hx (y := (⟨"com/example/fast_taxonomy/fasttaxonomy/taxonomy/RelationTopologicalOrderPinLaw", "pairOk", "([[Z[IIII)Z"⟩ : MethodName)) hown (mvT hZ (hw _ (List.mem_of_getElem? (i := 40) rfl))) (mvT hZ (hw _ (List.mem_of_getElem? (i := 41) rfl))) (mvT hZ (hw _ (List.mem_of_getElem? (i := 29) rfl))) (mvT hZ (hw _ (List.mem_of_getElem? (i := 42) rfl))) (by decide) (backOf (W := 0) (rmPair l Z a0 hw [] b1 ra_9 kE D (fun _ => kc) M2_8 kR_9 res n 0 1 (T9.heap) n0 (Nat.le_trans Z0 K9.1) EE9 (by decide) (by decide) P9_1 hn4) hZ (hw _ (List.mem_of_getElem? (i := 42) rfl)) (hw _ (List.mem_of_getElem? (i := 29) rfl)) (by decide) (by decide)) (g := (mkF m 156 #[.val (.int p1), .val (.int p2), .val (.int p3), .val (.int p4), .val (.int p5), .val (.int p6), .val (.int (Int32.ofNat n)), .val (.ref b1), .val (.ref b2), .val (.ref ra_9)] [(.int (1 : Int32)), (.int (0 : Int32)), (.int (Int32.ofNat n)), (.ref ra_9), (.ref b1)])) rfl (by rw [hml]; rfl) (argsL := [(.ref b1), (.ref ra_9), (.int (Int32.ofNat n)), (.int (0 : Int32)), (.int (1 : Int32))]) (rest := []) (lenOf pd____Z_IIII_Z rfl) rfl (by show 2 * 0 + _ ≤ _; exact Nat.le_of_eq rfl) (hb hby at_156) (fun _ _ => ⟨rfl, e16, (by decide : 14 + 0 ≤ _), (by decide : 44 + 0 ≤ _)⟩)
      dsimp only [Pt.U, Pt.locs, Pt.cells, Pt.slots] at X18 l18 y18 z18 st18 hQ18
      rw [l18, y18, z18] at X18
      obtain ⟨rfl, N18q, e18⟩ := hQ18
      have N18 := Fr.app N16 N18q
      refine OwnR.of (st18) ?_
      show OwnR _ _ _ _ _ _ _ (T18.setTop (mkF m 159 #[.val (.int p1), .val (.int p2), .val (.int p3), .val (.int p4), .val (.int p5), .val (.int p6), .val (.int (Int32.ofNat n)), .val (.ref b1), .val (.ref b2), .val (.ref ra_9)] [(.int (own_bi (own_pairOk M2_8 res n 0 1)))]))
      have hc159_19 : ¬ ((own_bi (own_pairOk M2_8 res n 0 1)) = (0 : Int32)) := by
        intro hbad
        rw [d1] at hbad
        exact absurd hbad (by decide)
      refine OwnR.of (fun _ hr => XS.ifNo X18.here hx rfl (hb hby at_159) rfl ((if0 _ _).trans (feq hc159_19).1) hr) ?_
      show OwnR _ _ _ _ _ _ _ (T18.setTop (mkF m 162 #[.val (.int p1), .val (.int p2), .val (.int p3), .val (.int p4), .val (.int p5), .val (.int p6), .val (.int (Int32.ofNat n)), .val (.ref b1), .val (.ref b2), .val (.ref ra_9)] []))
      refine OwnR.of (fun _ hr => XS.aload X18.here hx rfl (hb hby at_162) rfl rfl hr) ?_
      show OwnR _ _ _ _ _ _ _ (T18.setTop (mkF m 164 #[.val (.int p1), .val (.int p2), .val (.int p3), .val (.int p4), .val (.int p5), .val (.int p6), .val (.int (Int32.ofNat n)), .val (.ref b1), .val (.ref b2), .val (.ref ra_9)] [(.ref b1)]))
      refine OwnR.of (fun _ hr => XS.aload X18.here hx rfl (hb hby at_164) rfl rfl hr) ?_
      show OwnR _ _ _ _ _ _ _ (T18.setTop (mkF m 166 #[.val (.int p1), .val (.int p2), .val (.int p3), .val (.int p4), .val (.int p5), .val (.int p6), .val (.int (Int32.ofNat n)), .val (.ref b1), .val (.ref b2), .val (.ref ra_9)] [(.ref ra_9), (.ref b1)]))
      refine OwnR.of (fun _ hr => XS.iload X18.here hx rfl (hb hby at_166) rfl hr) ?_
      show OwnR _ _ _ _ _ _ _ (T18.setTop (mkF m 168 #[.val (.int p1), .val (.int p2), .val (.int p3), .val (.int p4), .val (.int p5), .val (.int p6), .val (.int (Int32.ofNat n)), .val (.ref b1), .val (.ref b2), .val (.ref ra_9)] [(.int (Int32.ofNat n)), (.ref ra_9), (.ref b1)]))
      refine OwnR.of (fun _ hr => XS.iconst X18.here hx rfl (hb hby at_168) hr) ?_
      show OwnR _ _ _ _ _ _ _ (T18.setTop (mkF m 169 #[.val (.int p1), .val (.int p2), .val (.int p3), .val (.int p4), .val (.int p5), .val (.int p6), .val (.int (Int32.ofNat n)), .val (.ref b1), .val (.ref b2), .val (.ref ra_9)] [(.int (1 : Int32)), (.int (Int32.ofNat n)), (.ref ra_9), (.ref b1)]))
      refine OwnR.of (fun _ hr => XS.iconst X18.here hx rfl (hb hby at_169) hr) ?_
      show OwnR _ _ _ _ _ _ _ (T18.setTop (mkF m 170 #[.val (.int p1), .val (.int p2), .val (.int p3), .val (.int p4), .val (.int p5), .val (.int p6), .val (.int (Int32.ofNat n)), .val (.ref b1), .val (.ref b2), .val (.ref ra_9)] [(.int (0 : Int32)), (.int (1 : Int32)), (.int (Int32.ofNat n)), (.ref ra_9), (.ref b1)]))
      obtain ⟨_, _, ⟨T20, L20, kc20, ns20⟩, -, X20, ⟨Lc20, hQ20, l20, y20, z20⟩, st20⟩ := Jvm.LawKit.callS X18 hx (y := (⟨"com/example/fast_taxonomy/fasttaxonomy/taxonomy/RelationTopologicalOrderPinLaw", "pairOk", "([[Z[IIII)Z"⟩ : MethodName)) hown (mvT hZ (hw _ (List.mem_of_getElem? (i := 40) rfl))) (mvT hZ (hw _ (List.mem_of_getElem? (i := 41) rfl))) (mvT hZ (hw _ (List.mem_of_getElem? (i := 29) rfl))) (mvT hZ (hw _ (List.mem_of_getElem? (i := 42) rfl))) (by decide) (backOf (W := 0) (rmPair l Z a0 hw [] b1 ra_9 kE D (fun _ => kc) M2_8 kR_9 res n 1 0 (T9.heap) n0 (Nat.le_trans Z0 K9.1) EE9 (by decide) (by decide) P9_1 hn4) hZ (hw _ (List.mem_of_getElem? (i := 42) rfl)) (hw _ (List.mem_of_getElem? (i := 29) rfl)) (by decide) (by decide)) (g := (mkF m 170 #[.val (.int p1), .val (.int p2), .val (.int p3), .val (.int p4), .val (.int p5), .val (.int p6), .val (.int (Int32.ofNat n)), .val (.ref b1), .val (.ref b2), .val (.ref ra_9)] [(.int (0 : Int32)), (.int (1 : Int32)), (.int (Int32.ofNat n)), (.ref ra_9), (.ref b1)])) rfl (by rw [hml]; rfl) (argsL := [(.ref b1), (.ref ra_9), (.int (Int32.ofNat n)), (.int (1 : Int32)), (.int (0 : Int32))]) (rest := []) (lenOf pd____Z_IIII_Z rfl) rfl (by show 2 * 0 + _ ≤ _; exact Nat.le_of_eq rfl) (hb hby at_170) (fun _ _ => ⟨rfl, e18, (by decide : 14 + 0 ≤ _), (by decide : 44 + 0 ≤ _)⟩)
      dsimp only [Pt.U, Pt.locs, Pt.cells, Pt.slots] at X20 l20 y20 z20 st20 hQ20
      rw [l20, y20, z20] at X20
      obtain ⟨rfl, N20q, e20⟩ := hQ20
      have N20 := Fr.app N18 N20q
      refine OwnR.of (st20) ?_
      show OwnR _ _ _ _ _ _ _ (T20.setTop (mkF m 173 #[.val (.int p1), .val (.int p2), .val (.int p3), .val (.int p4), .val (.int p5), .val (.int p6), .val (.int (Int32.ofNat n)), .val (.ref b1), .val (.ref b2), .val (.ref ra_9)] [(.int (own_bi (own_pairOk M2_8 res n 1 0)))]))
      have hc173_21 : ¬ ((own_bi (own_pairOk M2_8 res n 1 0)) = (0 : Int32)) := by
        intro hbad
        rw [d2] at hbad
        exact absurd hbad (by decide)
      refine OwnR.of (fun _ hr => XS.ifNo X20.here hx rfl (hb hby at_173) rfl ((if0 _ _).trans (feq hc173_21).1) hr) ?_
      show OwnR _ _ _ _ _ _ _ (T20.setTop (mkF m 176 #[.val (.int p1), .val (.int p2), .val (.int p3), .val (.int p4), .val (.int p5), .val (.int p6), .val (.int (Int32.ofNat n)), .val (.ref b1), .val (.ref b2), .val (.ref ra_9)] []))
      refine OwnR.of (fun _ hr => XS.aload X20.here hx rfl (hb hby at_176) rfl rfl hr) ?_
      show OwnR _ _ _ _ _ _ _ (T20.setTop (mkF m 178 #[.val (.int p1), .val (.int p2), .val (.int p3), .val (.int p4), .val (.int p5), .val (.int p6), .val (.int (Int32.ofNat n)), .val (.ref b1), .val (.ref b2), .val (.ref ra_9)] [(.ref b1)]))
      refine OwnR.of (fun _ hr => XS.aload X20.here hx rfl (hb hby at_178) rfl rfl hr) ?_
      show OwnR _ _ _ _ _ _ _ (T20.setTop (mkF m 180 #[.val (.int p1), .val (.int p2), .val (.int p3), .val (.int p4), .val (.int p5), .val (.int p6), .val (.int (Int32.ofNat n)), .val (.ref b1), .val (.ref b2), .val (.ref ra_9)] [(.ref ra_9), (.ref b1)]))
      refine OwnR.of (fun _ hr => XS.iload X20.here hx rfl (hb hby at_180) rfl hr) ?_
      show OwnR _ _ _ _ _ _ _ (T20.setTop (mkF m 182 #[.val (.int p1), .val (.int p2), .val (.int p3), .val (.int p4), .val (.int p5), .val (.int p6), .val (.int (Int32.ofNat n)), .val (.ref b1), .val (.ref b2), .val (.ref ra_9)] [(.int (Int32.ofNat n)), (.ref ra_9), (.ref b1)]))
      refine OwnR.of (fun _ hr => XS.iconst X20.here hx rfl (hb hby at_182) hr) ?_
      show OwnR _ _ _ _ _ _ _ (T20.setTop (mkF m 183 #[.val (.int p1), .val (.int p2), .val (.int p3), .val (.int p4), .val (.int p5), .val (.int p6), .val (.int (Int32.ofNat n)), .val (.ref b1), .val (.ref b2), .val (.ref ra_9)] [(.int (0 : Int32)), (.int (Int32.ofNat n)), (.ref ra_9), (.ref b1)]))
      refine OwnR.of (fun _ hr => XS.iconst X20.here hx rfl (hb hby at_183) hr) ?_
      show OwnR _ _ _ _ _ _ _ (T20.setTop (mkF m 184 #[.val (.int p1), .val (.int p2), .val (.int p3), .val (.int p4), .val (.int p5), .val (.int p6), .val (.int (Int32.ofNat n)), .val (.ref b1), .val (.ref b2), .val (.ref ra_9)] [(.int (2 : Int32)), (.int (0 : Int32)), (.int (Int32.ofNat n)), (.ref ra_9), (.ref b1)]))
      obtain ⟨_, _, ⟨T22, L22, kc22, ns22⟩, -, X22, ⟨Lc22, hQ22, l22, y22, z22⟩, st22⟩ := Jvm.LawKit.callS X20 hx (y := (⟨"com/example/fast_taxonomy/fasttaxonomy/taxonomy/RelationTopologicalOrderPinLaw", "pairOk", "([[Z[IIII)Z"⟩ : MethodName)) hown (mvT hZ (hw _ (List.mem_of_getElem? (i := 40) rfl))) (mvT hZ (hw _ (List.mem_of_getElem? (i := 41) rfl))) (mvT hZ (hw _ (List.mem_of_getElem? (i := 29) rfl))) (mvT hZ (hw _ (List.mem_of_getElem? (i := 42) rfl))) (by decide) (backOf (W := 0) (rmPair l Z a0 hw [] b1 ra_9 kE D (fun _ => kc) M2_8 kR_9 res n 0 2 (T9.heap) n0 (Nat.le_trans Z0 K9.1) EE9 (by decide) (by decide) P9_1 hn4) hZ (hw _ (List.mem_of_getElem? (i := 42) rfl)) (hw _ (List.mem_of_getElem? (i := 29) rfl)) (by decide) (by decide)) (g := (mkF m 184 #[.val (.int p1), .val (.int p2), .val (.int p3), .val (.int p4), .val (.int p5), .val (.int p6), .val (.int (Int32.ofNat n)), .val (.ref b1), .val (.ref b2), .val (.ref ra_9)] [(.int (2 : Int32)), (.int (0 : Int32)), (.int (Int32.ofNat n)), (.ref ra_9), (.ref b1)])) rfl (by rw [hml]; rfl) (argsL := [(.ref b1), (.ref ra_9), (.int (Int32.ofNat n)), (.int (0 : Int32)), (.int (2 : Int32))]) (rest := []) (lenOf pd____Z_IIII_Z rfl) rfl (by show 2 * 0 + _ ≤ _; exact Nat.le_of_eq rfl) (hb hby at_184) (fun _ _ => ⟨rfl, e20, (by decide : 14 + 0 ≤ _), (by decide : 44 + 0 ≤ _)⟩)
      dsimp only [Pt.U, Pt.locs, Pt.cells, Pt.slots] at X22 l22 y22 z22 st22 hQ22
      rw [l22, y22, z22] at X22
      obtain ⟨rfl, N22q, e22⟩ := hQ22
      have N22 := Fr.app N20 N22q
      refine OwnR.of (st22) ?_
      show OwnR _ _ _ _ _ _ _ (T22.setTop (mkF m 187 #[.val (.int p1), .val (.int p2), .val (.int p3), .val (.int p4), .val (.int p5), .val (.int p6), .val (.int (Int32.ofNat n)), .val (.ref b1), .val (.ref b2), .val (.ref ra_9)] [(.int (own_bi (own_pairOk M2_8 res n 0 2)))]))
      have hc187_23 : ¬ ((own_bi (own_pairOk M2_8 res n 0 2)) = (0 : Int32)) := by
        intro hbad
        rw [d3] at hbad
        exact absurd hbad (by decide)
      refine OwnR.of (fun _ hr => XS.ifNo X22.here hx rfl (hb hby at_187) rfl ((if0 _ _).trans (feq hc187_23).1) hr) ?_
      show OwnR _ _ _ _ _ _ _ (T22.setTop (mkF m 190 #[.val (.int p1), .val (.int p2), .val (.int p3), .val (.int p4), .val (.int p5), .val (.int p6), .val (.int (Int32.ofNat n)), .val (.ref b1), .val (.ref b2), .val (.ref ra_9)] []))
      refine OwnR.of (fun _ hr => XS.aload X22.here hx rfl (hb hby at_190) rfl rfl hr) ?_
      show OwnR _ _ _ _ _ _ _ (T22.setTop (mkF m 192 #[.val (.int p1), .val (.int p2), .val (.int p3), .val (.int p4), .val (.int p5), .val (.int p6), .val (.int (Int32.ofNat n)), .val (.ref b1), .val (.ref b2), .val (.ref ra_9)] [(.ref b1)]))
      refine OwnR.of (fun _ hr => XS.aload X22.here hx rfl (hb hby at_192) rfl rfl hr) ?_
      show OwnR _ _ _ _ _ _ _ (T22.setTop (mkF m 194 #[.val (.int p1), .val (.int p2), .val (.int p3), .val (.int p4), .val (.int p5), .val (.int p6), .val (.int (Int32.ofNat n)), .val (.ref b1), .val (.ref b2), .val (.ref ra_9)] [(.ref ra_9), (.ref b1)]))
      refine OwnR.of (fun _ hr => XS.iload X22.here hx rfl (hb hby at_194) rfl hr) ?_
      show OwnR _ _ _ _ _ _ _ (T22.setTop (mkF m 196 #[.val (.int p1), .val (.int p2), .val (.int p3), .val (.int p4), .val (.int p5), .val (.int p6), .val (.int (Int32.ofNat n)), .val (.ref b1), .val (.ref b2), .val (.ref ra_9)] [(.int (Int32.ofNat n)), (.ref ra_9), (.ref b1)]))
      refine OwnR.of (fun _ hr => XS.iconst X22.here hx rfl (hb hby at_196) hr) ?_
      show OwnR _ _ _ _ _ _ _ (T22.setTop (mkF m 197 #[.val (.int p1), .val (.int p2), .val (.int p3), .val (.int p4), .val (.int p5), .val (.int p6), .val (.int (Int32.ofNat n)), .val (.ref b1), .val (.ref b2), .val (.ref ra_9)] [(.int (2 : Int32)), (.int (Int32.ofNat n)), (.ref ra_9), (.ref b1)]))
      refine OwnR.of (fun _ hr => XS.iconst X22.here hx rfl (hb hby at_197) hr) ?_
      show OwnR _ _ _ _ _ _ _ (T22.setTop (mkF m 198 #[.val (.int p1), .val (.int p2), .val (.int p3), .val (.int p4), .val (.int p5), .val (.int p6), .val (.int (Int32.ofNat n)), .val (.ref b1), .val (.ref b2), .val (.ref ra_9)] [(.int (0 : Int32)), (.int (2 : Int32)), (.int (Int32.ofNat n)), (.ref ra_9), (.ref b1)]))
      obtain ⟨_, _, ⟨T24, L24, kc24, ns24⟩, -, X24, ⟨Lc24, hQ24, l24, y24, z24⟩, st24⟩ := Jvm.LawKit.callS X22 hx (y := (⟨"com/example/fast_taxonomy/fasttaxonomy/taxonomy/RelationTopologicalOrderPinLaw", "pairOk", "([[Z[IIII)Z"⟩ : MethodName)) hown (mvT hZ (hw _ (List.mem_of_getElem? (i := 40) rfl))) (mvT hZ (hw _ (List.mem_of_getElem? (i := 41) rfl))) (mvT hZ (hw _ (List.mem_of_getElem? (i := 29) rfl))) (mvT hZ (hw _ (List.mem_of_getElem? (i := 42) rfl))) (by decide) (backOf (W := 0) (rmPair l Z a0 hw [] b1 ra_9 kE D (fun _ => kc) M2_8 kR_9 res n 2 0 (T9.heap) n0 (Nat.le_trans Z0 K9.1) EE9 (by decide) (by decide) P9_1 hn4) hZ (hw _ (List.mem_of_getElem? (i := 42) rfl)) (hw _ (List.mem_of_getElem? (i := 29) rfl)) (by decide) (by decide)) (g := (mkF m 198 #[.val (.int p1), .val (.int p2), .val (.int p3), .val (.int p4), .val (.int p5), .val (.int p6), .val (.int (Int32.ofNat n)), .val (.ref b1), .val (.ref b2), .val (.ref ra_9)] [(.int (0 : Int32)), (.int (2 : Int32)), (.int (Int32.ofNat n)), (.ref ra_9), (.ref b1)])) rfl (by rw [hml]; rfl) (argsL := [(.ref b1), (.ref ra_9), (.int (Int32.ofNat n)), (.int (2 : Int32)), (.int (0 : Int32))]) (rest := []) (lenOf pd____Z_IIII_Z rfl) rfl (by show 2 * 0 + _ ≤ _; exact Nat.le_of_eq rfl) (hb hby at_198) (fun _ _ => ⟨rfl, e22, (by decide : 14 + 0 ≤ _), (by decide : 44 + 0 ≤ _)⟩)
      dsimp only [Pt.U, Pt.locs, Pt.cells, Pt.slots] at X24 l24 y24 z24 st24 hQ24
      rw [l24, y24, z24] at X24
      obtain ⟨rfl, N24q, e24⟩ := hQ24
      have N24 := Fr.app N22 N24q
      refine OwnR.of (st24) ?_
      show OwnR _ _ _ _ _ _ _ (T24.setTop (mkF m 201 #[.val (.int p1), .val (.int p2), .val (.int p3), .val (.int p4), .val (.int p5), .val (.int p6), .val (.int (Int32.ofNat n)), .val (.ref b1), .val (.ref b2), .val (.ref ra_9)] [(.int (own_bi (own_pairOk M2_8 res n 2 0)))]))
      have hc201_25 : ¬ ((own_bi (own_pairOk M2_8 res n 2 0)) = (0 : Int32)) := by
        intro hbad
        rw [d4] at hbad
        exact absurd hbad (by decide)
      refine OwnR.of (fun _ hr => XS.ifNo X24.here hx rfl (hb hby at_201) rfl ((if0 _ _).trans (feq hc201_25).1) hr) ?_
      show OwnR _ _ _ _ _ _ _ (T24.setTop (mkF m 204 #[.val (.int p1), .val (.int p2), .val (.int p3), .val (.int p4), .val (.int p5), .val (.int p6), .val (.int (Int32.ofNat n)), .val (.ref b1), .val (.ref b2), .val (.ref ra_9)] []))
      refine OwnR.of (fun _ hr => XS.aload X24.here hx rfl (hb hby at_204) rfl rfl hr) ?_
      show OwnR _ _ _ _ _ _ _ (T24.setTop (mkF m 206 #[.val (.int p1), .val (.int p2), .val (.int p3), .val (.int p4), .val (.int p5), .val (.int p6), .val (.int (Int32.ofNat n)), .val (.ref b1), .val (.ref b2), .val (.ref ra_9)] [(.ref b1)]))
      refine OwnR.of (fun _ hr => XS.aload X24.here hx rfl (hb hby at_206) rfl rfl hr) ?_
      show OwnR _ _ _ _ _ _ _ (T24.setTop (mkF m 208 #[.val (.int p1), .val (.int p2), .val (.int p3), .val (.int p4), .val (.int p5), .val (.int p6), .val (.int (Int32.ofNat n)), .val (.ref b1), .val (.ref b2), .val (.ref ra_9)] [(.ref ra_9), (.ref b1)]))
      refine OwnR.of (fun _ hr => XS.iload X24.here hx rfl (hb hby at_208) rfl hr) ?_
      show OwnR _ _ _ _ _ _ _ (T24.setTop (mkF m 210 #[.val (.int p1), .val (.int p2), .val (.int p3), .val (.int p4), .val (.int p5), .val (.int p6), .val (.int (Int32.ofNat n)), .val (.ref b1), .val (.ref b2), .val (.ref ra_9)] [(.int (Int32.ofNat n)), (.ref ra_9), (.ref b1)]))
      refine OwnR.of (fun _ hr => XS.iconst X24.here hx rfl (hb hby at_210) hr) ?_
      show OwnR _ _ _ _ _ _ _ (T24.setTop (mkF m 211 #[.val (.int p1), .val (.int p2), .val (.int p3), .val (.int p4), .val (.int p5), .val (.int p6), .val (.int (Int32.ofNat n)), .val (.ref b1), .val (.ref b2), .val (.ref ra_9)] [(.int (1 : Int32)), (.int (Int32.ofNat n)), (.ref ra_9), (.ref b1)]))
      refine OwnR.of (fun _ hr => XS.iconst X24.here hx rfl (hb hby at_211) hr) ?_
      show OwnR _ _ _ _ _ _ _ (T24.setTop (mkF m 212 #[.val (.int p1), .val (.int p2), .val (.int p3), .val (.int p4), .val (.int p5), .val (.int p6), .val (.int (Int32.ofNat n)), .val (.ref b1), .val (.ref b2), .val (.ref ra_9)] [(.int (2 : Int32)), (.int (1 : Int32)), (.int (Int32.ofNat n)), (.ref ra_9), (.ref b1)]))
      obtain ⟨_, _, ⟨T26, L26, kc26, ns26⟩, -, X26, ⟨Lc26, hQ26, l26, y26, z26⟩, st26⟩ := Jvm.LawKit.callS X24 hx (y := (⟨"com/example/fast_taxonomy/fasttaxonomy/taxonomy/RelationTopologicalOrderPinLaw", "pairOk", "([[Z[IIII)Z"⟩ : MethodName)) hown (mvT hZ (hw _ (List.mem_of_getElem? (i := 40) rfl))) (mvT hZ (hw _ (List.mem_of_getElem? (i := 41) rfl))) (mvT hZ (hw _ (List.mem_of_getElem? (i := 29) rfl))) (mvT hZ (hw _ (List.mem_of_getElem? (i := 42) rfl))) (by decide) (backOf (W := 0) (rmPair l Z a0 hw [] b1 ra_9 kE D (fun _ => kc) M2_8 kR_9 res n 1 2 (T9.heap) n0 (Nat.le_trans Z0 K9.1) EE9 (by decide) (by decide) P9_1 hn4) hZ (hw _ (List.mem_of_getElem? (i := 42) rfl)) (hw _ (List.mem_of_getElem? (i := 29) rfl)) (by decide) (by decide)) (g := (mkF m 212 #[.val (.int p1), .val (.int p2), .val (.int p3), .val (.int p4), .val (.int p5), .val (.int p6), .val (.int (Int32.ofNat n)), .val (.ref b1), .val (.ref b2), .val (.ref ra_9)] [(.int (2 : Int32)), (.int (1 : Int32)), (.int (Int32.ofNat n)), (.ref ra_9), (.ref b1)])) rfl (by rw [hml]; rfl) (argsL := [(.ref b1), (.ref ra_9), (.int (Int32.ofNat n)), (.int (1 : Int32)), (.int (2 : Int32))]) (rest := []) (lenOf pd____Z_IIII_Z rfl) rfl (by show 2 * 0 + _ ≤ _; exact Nat.le_of_eq rfl) (hb hby at_212) (fun _ _ => ⟨rfl, e24, (by decide : 14 + 0 ≤ _), (by decide : 44 + 0 ≤ _)⟩)
      dsimp only [Pt.U, Pt.locs, Pt.cells, Pt.slots] at X26 l26 y26 z26 st26 hQ26
      rw [l26, y26, z26] at X26
      obtain ⟨rfl, N26q, e26⟩ := hQ26
      have N26 := Fr.app N24 N26q
      refine OwnR.of (st26) ?_
      show OwnR _ _ _ _ _ _ _ (T26.setTop (mkF m 215 #[.val (.int p1), .val (.int p2), .val (.int p3), .val (.int p4), .val (.int p5), .val (.int p6), .val (.int (Int32.ofNat n)), .val (.ref b1), .val (.ref b2), .val (.ref ra_9)] [(.int (own_bi (own_pairOk M2_8 res n 1 2)))]))
      have hc215_27 : ¬ ((own_bi (own_pairOk M2_8 res n 1 2)) = (0 : Int32)) := by
        intro hbad
        rw [d5] at hbad
        exact absurd hbad (by decide)
      refine OwnR.of (fun _ hr => XS.ifNo X26.here hx rfl (hb hby at_215) rfl ((if0 _ _).trans (feq hc215_27).1) hr) ?_
      show OwnR _ _ _ _ _ _ _ (T26.setTop (mkF m 218 #[.val (.int p1), .val (.int p2), .val (.int p3), .val (.int p4), .val (.int p5), .val (.int p6), .val (.int (Int32.ofNat n)), .val (.ref b1), .val (.ref b2), .val (.ref ra_9)] []))
      refine OwnR.of (fun _ hr => XS.aload X26.here hx rfl (hb hby at_218) rfl rfl hr) ?_
      show OwnR _ _ _ _ _ _ _ (T26.setTop (mkF m 220 #[.val (.int p1), .val (.int p2), .val (.int p3), .val (.int p4), .val (.int p5), .val (.int p6), .val (.int (Int32.ofNat n)), .val (.ref b1), .val (.ref b2), .val (.ref ra_9)] [(.ref b1)]))
      refine OwnR.of (fun _ hr => XS.aload X26.here hx rfl (hb hby at_220) rfl rfl hr) ?_
      show OwnR _ _ _ _ _ _ _ (T26.setTop (mkF m 222 #[.val (.int p1), .val (.int p2), .val (.int p3), .val (.int p4), .val (.int p5), .val (.int p6), .val (.int (Int32.ofNat n)), .val (.ref b1), .val (.ref b2), .val (.ref ra_9)] [(.ref ra_9), (.ref b1)]))
      refine OwnR.of (fun _ hr => XS.iload X26.here hx rfl (hb hby at_222) rfl hr) ?_
      show OwnR _ _ _ _ _ _ _ (T26.setTop (mkF m 224 #[.val (.int p1), .val (.int p2), .val (.int p3), .val (.int p4), .val (.int p5), .val (.int p6), .val (.int (Int32.ofNat n)), .val (.ref b1), .val (.ref b2), .val (.ref ra_9)] [(.int (Int32.ofNat n)), (.ref ra_9), (.ref b1)]))
      refine OwnR.of (fun _ hr => XS.iconst X26.here hx rfl (hb hby at_224) hr) ?_
      show OwnR _ _ _ _ _ _ _ (T26.setTop (mkF m 225 #[.val (.int p1), .val (.int p2), .val (.int p3), .val (.int p4), .val (.int p5), .val (.int p6), .val (.int (Int32.ofNat n)), .val (.ref b1), .val (.ref b2), .val (.ref ra_9)] [(.int (2 : Int32)), (.int (Int32.ofNat n)), (.ref ra_9), (.ref b1)]))
      refine OwnR.of (fun _ hr => XS.iconst X26.here hx rfl (hb hby at_225) hr) ?_
      show OwnR _ _ _ _ _ _ _ (T26.setTop (mkF m 226 #[.val (.int p1), .val (.int p2), .val (.int p3), .val (.int p4), .val (.int p5), .val (.int p6), .val (.int (Int32.ofNat n)), .val (.ref b1), .val (.ref b2), .val (.ref ra_9)] [(.int (1 : Int32)), (.int (2 : Int32)), (.int (Int32.ofNat n)), (.ref ra_9), (.ref b1)]))
      obtain ⟨_, _, ⟨T28, L28, kc28, ns28⟩, -, X28, ⟨Lc28, hQ28, l28, y28, z28⟩, st28⟩ := Jvm.LawKit.callS X26 hx (y := (⟨"com/example/fast_taxonomy/fasttaxonomy/taxonomy/RelationTopologicalOrderPinLaw", "pairOk", "([[Z[IIII)Z"⟩ : MethodName)) hown (mvT hZ (hw _ (List.mem_of_getElem? (i := 40) rfl))) (mvT hZ (hw _ (List.mem_of_getElem? (i := 41) rfl))) (mvT hZ (hw _ (List.mem_of_getElem? (i := 29) rfl))) (mvT hZ (hw _ (List.mem_of_getElem? (i := 42) rfl))) (by decide) (backOf (W := 0) (rmPair l Z a0 hw [] b1 ra_9 kE D (fun _ => kc) M2_8 kR_9 res n 2 1 (T9.heap) n0 (Nat.le_trans Z0 K9.1) EE9 (by decide) (by decide) P9_1 hn4) hZ (hw _ (List.mem_of_getElem? (i := 42) rfl)) (hw _ (List.mem_of_getElem? (i := 29) rfl)) (by decide) (by decide)) (g := (mkF m 226 #[.val (.int p1), .val (.int p2), .val (.int p3), .val (.int p4), .val (.int p5), .val (.int p6), .val (.int (Int32.ofNat n)), .val (.ref b1), .val (.ref b2), .val (.ref ra_9)] [(.int (1 : Int32)), (.int (2 : Int32)), (.int (Int32.ofNat n)), (.ref ra_9), (.ref b1)])) rfl (by rw [hml]; rfl) (argsL := [(.ref b1), (.ref ra_9), (.int (Int32.ofNat n)), (.int (2 : Int32)), (.int (1 : Int32))]) (rest := []) (lenOf pd____Z_IIII_Z rfl) rfl (by show 2 * 0 + _ ≤ _; exact Nat.le_of_eq rfl) (hb hby at_226) (fun _ _ => ⟨rfl, e26, (by decide : 14 + 0 ≤ _), (by decide : 44 + 0 ≤ _)⟩)
      dsimp only [Pt.U, Pt.locs, Pt.cells, Pt.slots] at X28 l28 y28 z28 st28 hQ28
      rw [l28, y28, z28] at X28
      obtain ⟨rfl, N28q, e28⟩ := hQ28
      have N28 := Fr.app N26 N28q
      refine OwnR.of (st28) ?_
      show OwnR _ _ _ _ _ _ _ (T28.setTop (mkF m 229 #[.val (.int p1), .val (.int p2), .val (.int p3), .val (.int p4), .val (.int p5), .val (.int p6), .val (.int (Int32.ofNat n)), .val (.ref b1), .val (.ref b2), .val (.ref ra_9)] [(.int (own_bi (own_pairOk M2_8 res n 2 1)))]))
      have hc229_29 : ¬ ((own_bi (own_pairOk M2_8 res n 2 1)) = (0 : Int32)) := by
        intro hbad
        rw [d6] at hbad
        exact absurd hbad (by decide)
      refine OwnR.of (fun _ hr => XS.ifNo X28.here hx rfl (hb hby at_229) rfl ((if0 _ _).trans (feq hc229_29).1) hr) ?_
      show OwnR _ _ _ _ _ _ _ (T28.setTop (mkF m 232 #[.val (.int p1), .val (.int p2), .val (.int p3), .val (.int p4), .val (.int p5), .val (.int p6), .val (.int (Int32.ofNat n)), .val (.ref b1), .val (.ref b2), .val (.ref ra_9)] []))
      refine OwnR.of (fun _ hr => XS.iconst X28.here hx rfl (hb hby at_232) hr) ?_
      show OwnR _ _ _ _ _ _ _ (T28.setTop (mkF m 233 #[.val (.int p1), .val (.int p2), .val (.int p3), .val (.int p4), .val (.int p5), .val (.int p6), .val (.int (Int32.ofNat n)), .val (.ref b1), .val (.ref b2), .val (.ref ra_9)] [(.int (1 : Int32))]))
      refine OwnR.of (fun _ hr => XS.goto X28.here hx rfl (pc0 := 233) (pc' := 237) rfl (hb hby at_233) (by decide) (by decide) hr) ?_
      show OwnR _ _ _ _ _ _ _ (T28.setTop (mkF m 237 #[.val (.int p1), .val (.int p2), .val (.int p3), .val (.int p4), .val (.int p5), .val (.int p6), .val (.int (Int32.ofNat n)), .val (.ref b1), .val (.ref b2), .val (.ref ra_9)] [(.int (1 : Int32))]))
      refine own_leafN X28 hx hlk (t := .boolean) Bd.returns (by simp) (hb hby at_237) (z' := (1 : Int32)) rfl (by decide) (by decide) ?_
      show Q0 Z  h0 n0 _ T28.heap _
      rw [show T28.heap = T9.heap from e28]
      refine ⟨?_, N28⟩
      show (some (.int (1 : Int32)) : Option Value) = some (.int (1 : Int32))
      rfl
    · skip
      refine OwnR.of (fun _ hr => XS.icmpYes X13.here hx rfl (pc0 := 134) (pc' := 148) rfl (hb hby at_134) rfl (flt hc134_15).2.2.2 (by decide) (by decide) hr) ?_
      show OwnR _ _ _ _ _ _ _ (T13.setTop (mkF m 148 #[.val (.int p1), .val (.int p2), .val (.int p3), .val (.int p4), .val (.int p5), .val (.int p6), .val (.int (Int32.ofNat n)), .val (.ref b1), .val (.ref b2), .val (.ref ra_9)] []))
      refine OwnR.of (fun _ hr => XS.aload X13.here hx rfl (hb hby at_148) rfl rfl hr) ?_
      show OwnR _ _ _ _ _ _ _ (T13.setTop (mkF m 150 #[.val (.int p1), .val (.int p2), .val (.int p3), .val (.int p4), .val (.int p5), .val (.int p6), .val (.int (Int32.ofNat n)), .val (.ref b1), .val (.ref b2), .val (.ref ra_9)] [(.ref b1)]))
      refine OwnR.of (fun _ hr => XS.aload X13.here hx rfl (hb hby at_150) rfl rfl hr) ?_
      show OwnR _ _ _ _ _ _ _ (T13.setTop (mkF m 152 #[.val (.int p1), .val (.int p2), .val (.int p3), .val (.int p4), .val (.int p5), .val (.int p6), .val (.int (Int32.ofNat n)), .val (.ref b1), .val (.ref b2), .val (.ref ra_9)] [(.ref ra_9), (.ref b1)]))
      refine OwnR.of (fun _ hr => XS.iload X13.here hx rfl (hb hby at_152) rfl hr) ?_
      show OwnR _ _ _ _ _ _ _ (T13.setTop (mkF m 154 #[.val (.int p1), .val (.int p2), .val (.int p3), .val (.int p4), .val (.int p5), .val (.int p6), .val (.int (Int32.ofNat n)), .val (.ref b1), .val (.ref b2), .val (.ref ra_9)] [(.int (Int32.ofNat n)), (.ref ra_9), (.ref b1)]))
      refine OwnR.of (fun _ hr => XS.iconst X13.here hx rfl (hb hby at_154) hr) ?_
      show OwnR _ _ _ _ _ _ _ (T13.setTop (mkF m 155 #[.val (.int p1), .val (.int p2), .val (.int p3), .val (.int p4), .val (.int p5), .val (.int p6), .val (.int (Int32.ofNat n)), .val (.ref b1), .val (.ref b2), .val (.ref ra_9)] [(.int (0 : Int32)), (.int (Int32.ofNat n)), (.ref ra_9), (.ref b1)]))
      refine OwnR.of (fun _ hr => XS.iconst X13.here hx rfl (hb hby at_155) hr) ?_
      show OwnR _ _ _ _ _ _ _ (T13.setTop (mkF m 156 #[.val (.int p1), .val (.int p2), .val (.int p3), .val (.int p4), .val (.int p5), .val (.int p6), .val (.int (Int32.ofNat n)), .val (.ref b1), .val (.ref b2), .val (.ref ra_9)] [(.int (1 : Int32)), (.int (0 : Int32)), (.int (Int32.ofNat n)), (.ref ra_9), (.ref b1)]))
      obtain ⟨_, _, ⟨T30, L30, kc30, ns30⟩, -, X30, ⟨Lc30, hQ30, l30, y30, z30⟩, st30⟩ := Jvm.LawKit.callS X13 hx (y := (⟨"com/example/fast_taxonomy/fasttaxonomy/taxonomy/RelationTopologicalOrderPinLaw", "pairOk", "([[Z[IIII)Z"⟩ : MethodName)) hown (mvT hZ (hw _ (List.mem_of_getElem? (i := 40) rfl))) (mvT hZ (hw _ (List.mem_of_getElem? (i := 41) rfl))) (mvT hZ (hw _ (List.mem_of_getElem? (i := 29) rfl))) (mvT hZ (hw _ (List.mem_of_getElem? (i := 42) rfl))) (by decide) (backOf (W := 0) (rmPair l Z a0 hw [] b1 ra_9 kE D (fun _ => kc) M2_8 kR_9 res n 0 1 (T9.heap) n0 (Nat.le_trans Z0 K9.1) EE9 (by decide) (by decide) P9_1 hn4) hZ (hw _ (List.mem_of_getElem? (i := 42) rfl)) (hw _ (List.mem_of_getElem? (i := 29) rfl)) (by decide) (by decide)) (g := (mkF m 156 #[.val (.int p1), .val (.int p2), .val (.int p3), .val (.int p4), .val (.int p5), .val (.int p6), .val (.int (Int32.ofNat n)), .val (.ref b1), .val (.ref b2), .val (.ref ra_9)] [(.int (1 : Int32)), (.int (0 : Int32)), (.int (Int32.ofNat n)), (.ref ra_9), (.ref b1)])) rfl (by rw [hml]; rfl) (argsL := [(.ref b1), (.ref ra_9), (.int (Int32.ofNat n)), (.int (0 : Int32)), (.int (1 : Int32))]) (rest := []) (lenOf pd____Z_IIII_Z rfl) rfl (by show 2 * 0 + _ ≤ _; exact Nat.le_of_eq rfl) (hb hby at_156) (fun _ _ => ⟨rfl, e13, (by decide : 14 + 0 ≤ _), (by decide : 44 + 0 ≤ _)⟩)
      dsimp only [Pt.U, Pt.locs, Pt.cells, Pt.slots] at X30 l30 y30 z30 st30 hQ30
      rw [l30, y30, z30] at X30
      obtain ⟨rfl, N30q, e30⟩ := hQ30
      have N30 := Fr.app N13 N30q
      refine OwnR.of (st30) ?_
      show OwnR _ _ _ _ _ _ _ (T30.setTop (mkF m 159 #[.val (.int p1), .val (.int p2), .val (.int p3), .val (.int p4), .val (.int p5), .val (.int p6), .val (.int (Int32.ofNat n)), .val (.ref b1), .val (.ref b2), .val (.ref ra_9)] [(.int (own_bi (own_pairOk M2_8 res n 0 1)))]))
      have hc159_31 : ¬ ((own_bi (own_pairOk M2_8 res n 0 1)) = (0 : Int32)) := by
        intro hbad
        rw [d1] at hbad
        exact absurd hbad (by decide)
      refine OwnR.of (fun _ hr => XS.ifNo X30.here hx rfl (hb hby at_159) rfl ((if0 _ _).trans (feq hc159_31).1) hr) ?_
      show OwnR _ _ _ _ _ _ _ (T30.setTop (mkF m 162 #[.val (.int p1), .val (.int p2), .val (.int p3), .val (.int p4), .val (.int p5), .val (.int p6), .val (.int (Int32.ofNat n)), .val (.ref b1), .val (.ref b2), .val (.ref ra_9)] []))
      refine OwnR.of (fun _ hr => XS.aload X30.here hx rfl (hb hby at_162) rfl rfl hr) ?_
      show OwnR _ _ _ _ _ _ _ (T30.setTop (mkF m 164 #[.val (.int p1), .val (.int p2), .val (.int p3), .val (.int p4), .val (.int p5), .val (.int p6), .val (.int (Int32.ofNat n)), .val (.ref b1), .val (.ref b2), .val (.ref ra_9)] [(.ref b1)]))
      refine OwnR.of (fun _ hr => XS.aload X30.here hx rfl (hb hby at_164) rfl rfl hr) ?_
      show OwnR _ _ _ _ _ _ _ (T30.setTop (mkF m 166 #[.val (.int p1), .val (.int p2), .val (.int p3), .val (.int p4), .val (.int p5), .val (.int p6), .val (.int (Int32.ofNat n)), .val (.ref b1), .val (.ref b2), .val (.ref ra_9)] [(.ref ra_9), (.ref b1)]))
      refine OwnR.of (fun _ hr => XS.iload X30.here hx rfl (hb hby at_166) rfl hr) ?_
      show OwnR _ _ _ _ _ _ _ (T30.setTop (mkF m 168 #[.val (.int p1), .val (.int p2), .val (.int p3), .val (.int p4), .val (.int p5), .val (.int p6), .val (.int (Int32.ofNat n)), .val (.ref b1), .val (.ref b2), .val (.ref ra_9)] [(.int (Int32.ofNat n)), (.ref ra_9), (.ref b1)]))
      refine OwnR.of (fun _ hr => XS.iconst X30.here hx rfl (hb hby at_168) hr) ?_
      show OwnR _ _ _ _ _ _ _ (T30.setTop (mkF m 169 #[.val (.int p1), .val (.int p2), .val (.int p3), .val (.int p4), .val (.int p5), .val (.int p6), .val (.int (Int32.ofNat n)), .val (.ref b1), .val (.ref b2), .val (.ref ra_9)] [(.int (1 : Int32)), (.int (Int32.ofNat n)), (.ref ra_9), (.ref b1)]))
      refine OwnR.of (fun _ hr => XS.iconst X30.here hx rfl (hb hby at_169) hr) ?_
      show OwnR _ _ _ _ _ _ _ (T30.setTop (mkF m 170 #[.val (.int p1), .val (.int p2), .val (.int p3), .val (.int p4), .val (.int p5), .val (.int p6), .val (.int (Int32.ofNat n)), .val (.ref b1), .val (.ref b2), .val (.ref ra_9)] [(.int (0 : Int32)), (.int (1 : Int32)), (.int (Int32.ofNat n)), (.ref ra_9), (.ref b1)]))
      obtain ⟨_, _, ⟨T32, L32, kc32, ns32⟩, -, X32, ⟨Lc32, hQ32, l32, y32, z32⟩, st32⟩ := Jvm.LawKit.callS X30 hx (y := (⟨"com/example/fast_taxonomy/fasttaxonomy/taxonomy/RelationTopologicalOrderPinLaw", "pairOk", "([[Z[IIII)Z"⟩ : MethodName)) hown (mvT hZ (hw _ (List.mem_of_getElem? (i := 40) rfl))) (mvT hZ (hw _ (List.mem_of_getElem? (i := 41) rfl))) (mvT hZ (hw _ (List.mem_of_getElem? (i := 29) rfl))) (mvT hZ (hw _ (List.mem_of_getElem? (i := 42) rfl))) (by decide) (backOf (W := 0) (rmPair l Z a0 hw [] b1 ra_9 kE D (fun _ => kc) M2_8 kR_9 res n 1 0 (T9.heap) n0 (Nat.le_trans Z0 K9.1) EE9 (by decide) (by decide) P9_1 hn4) hZ (hw _ (List.mem_of_getElem? (i := 42) rfl)) (hw _ (List.mem_of_getElem? (i := 29) rfl)) (by decide) (by decide)) (g := (mkF m 170 #[.val (.int p1), .val (.int p2), .val (.int p3), .val (.int p4), .val (.int p5), .val (.int p6), .val (.int (Int32.ofNat n)), .val (.ref b1), .val (.ref b2), .val (.ref ra_9)] [(.int (0 : Int32)), (.int (1 : Int32)), (.int (Int32.ofNat n)), (.ref ra_9), (.ref b1)])) rfl (by rw [hml]; rfl) (argsL := [(.ref b1), (.ref ra_9), (.int (Int32.ofNat n)), (.int (1 : Int32)), (.int (0 : Int32))]) (rest := []) (lenOf pd____Z_IIII_Z rfl) rfl (by show 2 * 0 + _ ≤ _; exact Nat.le_of_eq rfl) (hb hby at_170) (fun _ _ => ⟨rfl, e30, (by decide : 14 + 0 ≤ _), (by decide : 44 + 0 ≤ _)⟩)
      dsimp only [Pt.U, Pt.locs, Pt.cells, Pt.slots] at X32 l32 y32 z32 st32 hQ32
      rw [l32, y32, z32] at X32
      obtain ⟨rfl, N32q, e32⟩ := hQ32
      have N32 := Fr.app N30 N32q
      refine OwnR.of (st32) ?_
      show OwnR _ _ _ _ _ _ _ (T32.setTop (mkF m 173 #[.val (.int p1), .val (.int p2), .val (.int p3), .val (.int p4), .val (.int p5), .val (.int p6), .val (.int (Int32.ofNat n)), .val (.ref b1), .val (.ref b2), .val (.ref ra_9)] [(.int (own_bi (own_pairOk M2_8 res n 1 0)))]))
      have hc173_33 : ¬ ((own_bi (own_pairOk M2_8 res n 1 0)) = (0 : Int32)) := by
        intro hbad
        rw [d2] at hbad
        exact absurd hbad (by decide)
      refine OwnR.of (fun _ hr => XS.ifNo X32.here hx rfl (hb hby at_173) rfl ((if0 _ _).trans (feq hc173_33).1) hr) ?_
      show OwnR _ _ _ _ _ _ _ (T32.setTop (mkF m 176 #[.val (.int p1), .val (.int p2), .val (.int p3), .val (.int p4), .val (.int p5), .val (.int p6), .val (.int (Int32.ofNat n)), .val (.ref b1), .val (.ref b2), .val (.ref ra_9)] []))
      refine OwnR.of (fun _ hr => XS.aload X32.here hx rfl (hb hby at_176) rfl rfl hr) ?_
      show OwnR _ _ _ _ _ _ _ (T32.setTop (mkF m 178 #[.val (.int p1), .val (.int p2), .val (.int p3), .val (.int p4), .val (.int p5), .val (.int p6), .val (.int (Int32.ofNat n)), .val (.ref b1), .val (.ref b2), .val (.ref ra_9)] [(.ref b1)]))
      refine OwnR.of (fun _ hr => XS.aload X32.here hx rfl (hb hby at_178) rfl rfl hr) ?_
      show OwnR _ _ _ _ _ _ _ (T32.setTop (mkF m 180 #[.val (.int p1), .val (.int p2), .val (.int p3), .val (.int p4), .val (.int p5), .val (.int p6), .val (.int (Int32.ofNat n)), .val (.ref b1), .val (.ref b2), .val (.ref ra_9)] [(.ref ra_9), (.ref b1)]))
      refine OwnR.of (fun _ hr => XS.iload X32.here hx rfl (hb hby at_180) rfl hr) ?_
      show OwnR _ _ _ _ _ _ _ (T32.setTop (mkF m 182 #[.val (.int p1), .val (.int p2), .val (.int p3), .val (.int p4), .val (.int p5), .val (.int p6), .val (.int (Int32.ofNat n)), .val (.ref b1), .val (.ref b2), .val (.ref ra_9)] [(.int (Int32.ofNat n)), (.ref ra_9), (.ref b1)]))
      refine OwnR.of (fun _ hr => XS.iconst X32.here hx rfl (hb hby at_182) hr) ?_
      show OwnR _ _ _ _ _ _ _ (T32.setTop (mkF m 183 #[.val (.int p1), .val (.int p2), .val (.int p3), .val (.int p4), .val (.int p5), .val (.int p6), .val (.int (Int32.ofNat n)), .val (.ref b1), .val (.ref b2), .val (.ref ra_9)] [(.int (0 : Int32)), (.int (Int32.ofNat n)), (.ref ra_9), (.ref b1)]))
      refine OwnR.of (fun _ hr => XS.iconst X32.here hx rfl (hb hby at_183) hr) ?_
      show OwnR _ _ _ _ _ _ _ (T32.setTop (mkF m 184 #[.val (.int p1), .val (.int p2), .val (.int p3), .val (.int p4), .val (.int p5), .val (.int p6), .val (.int (Int32.ofNat n)), .val (.ref b1), .val (.ref b2), .val (.ref ra_9)] [(.int (2 : Int32)), (.int (0 : Int32)), (.int (Int32.ofNat n)), (.ref ra_9), (.ref b1)]))
      obtain ⟨_, _, ⟨T34, L34, kc34, ns34⟩, -, X34, ⟨Lc34, hQ34, l34, y34, z34⟩, st34⟩ := Jvm.LawKit.callS X32 hx (y := (⟨"com/example/fast_taxonomy/fasttaxonomy/taxonomy/RelationTopologicalOrderPinLaw", "pairOk", "([[Z[IIII)Z"⟩ : MethodName)) hown (mvT hZ (hw _ (List.mem_of_getElem? (i := 40) rfl))) (mvT hZ (hw _ (List.mem_of_getElem? (i := 41) rfl))) (mvT hZ (hw _ (List.mem_of_getElem? (i := 29) rfl))) (mvT hZ (hw _ (List.mem_of_getElem? (i := 42) rfl))) (by decide) (backOf (W := 0) (rmPair l Z a0 hw [] b1 ra_9 kE D (fun _ => kc) M2_8 kR_9 res n 0 2 (T9.heap) n0 (Nat.le_trans Z0 K9.1) EE9 (by decide) (by decide) P9_1 hn4) hZ (hw _ (List.mem_of_getElem? (i := 42) rfl)) (hw _ (List.mem_of_getElem? (i := 29) rfl)) (by decide) (by decide)) (g := (mkF m 184 #[.val (.int p1), .val (.int p2), .val (.int p3), .val (.int p4), .val (.int p5), .val (.int p6), .val (.int (Int32.ofNat n)), .val (.ref b1), .val (.ref b2), .val (.ref ra_9)] [(.int (2 : Int32)), (.int (0 : Int32)), (.int (Int32.ofNat n)), (.ref ra_9), (.ref b1)])) rfl (by rw [hml]; rfl) (argsL := [(.ref b1), (.ref ra_9), (.int (Int32.ofNat n)), (.int (0 : Int32)), (.int (2 : Int32))]) (rest := []) (lenOf pd____Z_IIII_Z rfl) rfl (by show 2 * 0 + _ ≤ _; exact Nat.le_of_eq rfl) (hb hby at_184) (fun _ _ => ⟨rfl, e32, (by decide : 14 + 0 ≤ _), (by decide : 44 + 0 ≤ _)⟩)
      dsimp only [Pt.U, Pt.locs, Pt.cells, Pt.slots] at X34 l34 y34 z34 st34 hQ34
      rw [l34, y34, z34] at X34
      obtain ⟨rfl, N34q, e34⟩ := hQ34
      have N34 := Fr.app N32 N34q
      refine OwnR.of (st34) ?_
      show OwnR _ _ _ _ _ _ _ (T34.setTop (mkF m 187 #[.val (.int p1), .val (.int p2), .val (.int p3), .val (.int p4), .val (.int p5), .val (.int p6), .val (.int (Int32.ofNat n)), .val (.ref b1), .val (.ref b2), .val (.ref ra_9)] [(.int (own_bi (own_pairOk M2_8 res n 0 2)))]))
      have hc187_35 : ¬ ((own_bi (own_pairOk M2_8 res n 0 2)) = (0 : Int32)) := by
        intro hbad
        rw [d3] at hbad
        exact absurd hbad (by decide)
      refine OwnR.of (fun _ hr => XS.ifNo X34.here hx rfl (hb hby at_187) rfl ((if0 _ _).trans (feq hc187_35).1) hr) ?_
      show OwnR _ _ _ _ _ _ _ (T34.setTop (mkF m 190 #[.val (.int p1), .val (.int p2), .val (.int p3), .val (.int p4), .val (.int p5), .val (.int p6), .val (.int (Int32.ofNat n)), .val (.ref b1), .val (.ref b2), .val (.ref ra_9)] []))
      refine OwnR.of (fun _ hr => XS.aload X34.here hx rfl (hb hby at_190) rfl rfl hr) ?_
      show OwnR _ _ _ _ _ _ _ (T34.setTop (mkF m 192 #[.val (.int p1), .val (.int p2), .val (.int p3), .val (.int p4), .val (.int p5), .val (.int p6), .val (.int (Int32.ofNat n)), .val (.ref b1), .val (.ref b2), .val (.ref ra_9)] [(.ref b1)]))
      refine OwnR.of (fun _ hr => XS.aload X34.here hx rfl (hb hby at_192) rfl rfl hr) ?_
      show OwnR _ _ _ _ _ _ _ (T34.setTop (mkF m 194 #[.val (.int p1), .val (.int p2), .val (.int p3), .val (.int p4), .val (.int p5), .val (.int p6), .val (.int (Int32.ofNat n)), .val (.ref b1), .val (.ref b2), .val (.ref ra_9)] [(.ref ra_9), (.ref b1)]))
      refine OwnR.of (fun _ hr => XS.iload X34.here hx rfl (hb hby at_194) rfl hr) ?_
      show OwnR _ _ _ _ _ _ _ (T34.setTop (mkF m 196 #[.val (.int p1), .val (.int p2), .val (.int p3), .val (.int p4), .val (.int p5), .val (.int p6), .val (.int (Int32.ofNat n)), .val (.ref b1), .val (.ref b2), .val (.ref ra_9)] [(.int (Int32.ofNat n)), (.ref ra_9), (.ref b1)]))
      refine OwnR.of (fun _ hr => XS.iconst X34.here hx rfl (hb hby at_196) hr) ?_
      show OwnR _ _ _ _ _ _ _ (T34.setTop (mkF m 197 #[.val (.int p1), .val (.int p2), .val (.int p3), .val (.int p4), .val (.int p5), .val (.int p6), .val (.int (Int32.ofNat n)), .val (.ref b1), .val (.ref b2), .val (.ref ra_9)] [(.int (2 : Int32)), (.int (Int32.ofNat n)), (.ref ra_9), (.ref b1)]))
      refine OwnR.of (fun _ hr => XS.iconst X34.here hx rfl (hb hby at_197) hr) ?_
      show OwnR _ _ _ _ _ _ _ (T34.setTop (mkF m 198 #[.val (.int p1), .val (.int p2), .val (.int p3), .val (.int p4), .val (.int p5), .val (.int p6), .val (.int (Int32.ofNat n)), .val (.ref b1), .val (.ref b2), .val (.ref ra_9)] [(.int (0 : Int32)), (.int (2 : Int32)), (.int (Int32.ofNat n)), (.ref ra_9), (.ref b1)]))
      obtain ⟨_, _, ⟨T36, L36, kc36, ns36⟩, -, X36, ⟨Lc36, hQ36, l36, y36, z36⟩, st36⟩ := Jvm.LawKit.callS X34 hx (y := (⟨"com/example/fast_taxonomy/fasttaxonomy/taxonomy/RelationTopologicalOrderPinLaw", "pairOk", "([[Z[IIII)Z"⟩ : MethodName)) hown (mvT hZ (hw _ (List.mem_of_getElem? (i := 40) rfl))) (mvT hZ (hw _ (List.mem_of_getElem? (i := 41) rfl))) (mvT hZ (hw _ (List.mem_of_getElem? (i := 29) rfl))) (mvT hZ (hw _ (List.mem_of_getElem? (i := 42) rfl))) (by decide) (backOf (W := 0) (rmPair l Z a0 hw [] b1 ra_9 kE D (fun _ => kc) M2_8 kR_9 res n 2 0 (T9.heap) n0 (Nat.le_trans Z0 K9.1) EE9 (by decide) (by decide) P9_1 hn4) hZ (hw _ (List.mem_of_getElem? (i := 42) rfl)) (hw _ (List.mem_of_getElem? (i := 29) rfl)) (by decide) (by decide)) (g := (mkF m 198 #[.val (.int p1), .val (.int p2), .val (.int p3), .val (.int p4), .val (.int p5), .val (.int p6), .val (.int (Int32.ofNat n)), .val (.ref b1), .val (.ref b2), .val (.ref ra_9)] [(.int (0 : Int32)), (.int (2 : Int32)), (.int (Int32.ofNat n)), (.ref ra_9), (.ref b1)])) rfl (by rw [hml]; rfl) (argsL := [(.ref b1), (.ref ra_9), (.int (Int32.ofNat n)), (.int (2 : Int32)), (.int (0 : Int32))]) (rest := []) (lenOf pd____Z_IIII_Z rfl) rfl (by show 2 * 0 + _ ≤ _; exact Nat.le_of_eq rfl) (hb hby at_198) (fun _ _ => ⟨rfl, e34, (by decide : 14 + 0 ≤ _), (by decide : 44 + 0 ≤ _)⟩)
      dsimp only [Pt.U, Pt.locs, Pt.cells, Pt.slots] at X36 l36 y36 z36 st36 hQ36
      rw [l36, y36, z36] at X36
      obtain ⟨rfl, N36q, e36⟩ := hQ36
      have N36 := Fr.app N34 N36q
      refine OwnR.of (st36) ?_
      show OwnR _ _ _ _ _ _ _ (T36.setTop (mkF m 201 #[.val (.int p1), .val (.int p2), .val (.int p3), .val (.int p4), .val (.int p5), .val (.int p6), .val (.int (Int32.ofNat n)), .val (.ref b1), .val (.ref b2), .val (.ref ra_9)] [(.int (own_bi (own_pairOk M2_8 res n 2 0)))]))
      have hc201_37 : ¬ ((own_bi (own_pairOk M2_8 res n 2 0)) = (0 : Int32)) := by
        intro hbad
        rw [d4] at hbad
        exact absurd hbad (by decide)
      refine OwnR.of (fun _ hr => XS.ifNo X36.here hx rfl (hb hby at_201) rfl ((if0 _ _).trans (feq hc201_37).1) hr) ?_
      show OwnR _ _ _ _ _ _ _ (T36.setTop (mkF m 204 #[.val (.int p1), .val (.int p2), .val (.int p3), .val (.int p4), .val (.int p5), .val (.int p6), .val (.int (Int32.ofNat n)), .val (.ref b1), .val (.ref b2), .val (.ref ra_9)] []))
      refine OwnR.of (fun _ hr => XS.aload X36.here hx rfl (hb hby at_204) rfl rfl hr) ?_
      show OwnR _ _ _ _ _ _ _ (T36.setTop (mkF m 206 #[.val (.int p1), .val (.int p2), .val (.int p3), .val (.int p4), .val (.int p5), .val (.int p6), .val (.int (Int32.ofNat n)), .val (.ref b1), .val (.ref b2), .val (.ref ra_9)] [(.ref b1)]))
      refine OwnR.of (fun _ hr => XS.aload X36.here hx rfl (hb hby at_206) rfl rfl hr) ?_
      show OwnR _ _ _ _ _ _ _ (T36.setTop (mkF m 208 #[.val (.int p1), .val (.int p2), .val (.int p3), .val (.int p4), .val (.int p5), .val (.int p6), .val (.int (Int32.ofNat n)), .val (.ref b1), .val (.ref b2), .val (.ref ra_9)] [(.ref ra_9), (.ref b1)]))
      refine OwnR.of (fun _ hr => XS.iload X36.here hx rfl (hb hby at_208) rfl hr) ?_
      show OwnR _ _ _ _ _ _ _ (T36.setTop (mkF m 210 #[.val (.int p1), .val (.int p2), .val (.int p3), .val (.int p4), .val (.int p5), .val (.int p6), .val (.int (Int32.ofNat n)), .val (.ref b1), .val (.ref b2), .val (.ref ra_9)] [(.int (Int32.ofNat n)), (.ref ra_9), (.ref b1)]))
      refine OwnR.of (fun _ hr => XS.iconst X36.here hx rfl (hb hby at_210) hr) ?_
      show OwnR _ _ _ _ _ _ _ (T36.setTop (mkF m 211 #[.val (.int p1), .val (.int p2), .val (.int p3), .val (.int p4), .val (.int p5), .val (.int p6), .val (.int (Int32.ofNat n)), .val (.ref b1), .val (.ref b2), .val (.ref ra_9)] [(.int (1 : Int32)), (.int (Int32.ofNat n)), (.ref ra_9), (.ref b1)]))
      refine OwnR.of (fun _ hr => XS.iconst X36.here hx rfl (hb hby at_211) hr) ?_
      show OwnR _ _ _ _ _ _ _ (T36.setTop (mkF m 212 #[.val (.int p1), .val (.int p2), .val (.int p3), .val (.int p4), .val (.int p5), .val (.int p6), .val (.int (Int32.ofNat n)), .val (.ref b1), .val (.ref b2), .val (.ref ra_9)] [(.int (2 : Int32)), (.int (1 : Int32)), (.int (Int32.ofNat n)), (.ref ra_9), (.ref b1)]))
      obtain ⟨_, _, ⟨T38, L38, kc38, ns38⟩, -, X38, ⟨Lc38, hQ38, l38, y38, z38⟩, st38⟩ := Jvm.LawKit.callS X36 hx (y := (⟨"com/example/fast_taxonomy/fasttaxonomy/taxonomy/RelationTopologicalOrderPinLaw", "pairOk", "([[Z[IIII)Z"⟩ : MethodName)) hown (mvT hZ (hw _ (List.mem_of_getElem? (i := 40) rfl))) (mvT hZ (hw _ (List.mem_of_getElem? (i := 41) rfl))) (mvT hZ (hw _ (List.mem_of_getElem? (i := 29) rfl))) (mvT hZ (hw _ (List.mem_of_getElem? (i := 42) rfl))) (by decide) (backOf (W := 0) (rmPair l Z a0 hw [] b1 ra_9 kE D (fun _ => kc) M2_8 kR_9 res n 1 2 (T9.heap) n0 (Nat.le_trans Z0 K9.1) EE9 (by decide) (by decide) P9_1 hn4) hZ (hw _ (List.mem_of_getElem? (i := 42) rfl)) (hw _ (List.mem_of_getElem? (i := 29) rfl)) (by decide) (by decide)) (g := (mkF m 212 #[.val (.int p1), .val (.int p2), .val (.int p3), .val (.int p4), .val (.int p5), .val (.int p6), .val (.int (Int32.ofNat n)), .val (.ref b1), .val (.ref b2), .val (.ref ra_9)] [(.int (2 : Int32)), (.int (1 : Int32)), (.int (Int32.ofNat n)), (.ref ra_9), (.ref b1)])) rfl (by rw [hml]; rfl) (argsL := [(.ref b1), (.ref ra_9), (.int (Int32.ofNat n)), (.int (1 : Int32)), (.int (2 : Int32))]) (rest := []) (lenOf pd____Z_IIII_Z rfl) rfl (by show 2 * 0 + _ ≤ _; exact Nat.le_of_eq rfl) (hb hby at_212) (fun _ _ => ⟨rfl, e36, (by decide : 14 + 0 ≤ _), (by decide : 44 + 0 ≤ _)⟩)
      dsimp only [Pt.U, Pt.locs, Pt.cells, Pt.slots] at X38 l38 y38 z38 st38 hQ38
      rw [l38, y38, z38] at X38
      obtain ⟨rfl, N38q, e38⟩ := hQ38
      have N38 := Fr.app N36 N38q
      refine OwnR.of (st38) ?_
      show OwnR _ _ _ _ _ _ _ (T38.setTop (mkF m 215 #[.val (.int p1), .val (.int p2), .val (.int p3), .val (.int p4), .val (.int p5), .val (.int p6), .val (.int (Int32.ofNat n)), .val (.ref b1), .val (.ref b2), .val (.ref ra_9)] [(.int (own_bi (own_pairOk M2_8 res n 1 2)))]))
      have hc215_39 : ¬ ((own_bi (own_pairOk M2_8 res n 1 2)) = (0 : Int32)) := by
        intro hbad
        rw [d5] at hbad
        exact absurd hbad (by decide)
      refine OwnR.of (fun _ hr => XS.ifNo X38.here hx rfl (hb hby at_215) rfl ((if0 _ _).trans (feq hc215_39).1) hr) ?_
      show OwnR _ _ _ _ _ _ _ (T38.setTop (mkF m 218 #[.val (.int p1), .val (.int p2), .val (.int p3), .val (.int p4), .val (.int p5), .val (.int p6), .val (.int (Int32.ofNat n)), .val (.ref b1), .val (.ref b2), .val (.ref ra_9)] []))
      refine OwnR.of (fun _ hr => XS.aload X38.here hx rfl (hb hby at_218) rfl rfl hr) ?_
      show OwnR _ _ _ _ _ _ _ (T38.setTop (mkF m 220 #[.val (.int p1), .val (.int p2), .val (.int p3), .val (.int p4), .val (.int p5), .val (.int p6), .val (.int (Int32.ofNat n)), .val (.ref b1), .val (.ref b2), .val (.ref ra_9)] [(.ref b1)]))
      refine OwnR.of (fun _ hr => XS.aload X38.here hx rfl (hb hby at_220) rfl rfl hr) ?_
      show OwnR _ _ _ _ _ _ _ (T38.setTop (mkF m 222 #[.val (.int p1), .val (.int p2), .val (.int p3), .val (.int p4), .val (.int p5), .val (.int p6), .val (.int (Int32.ofNat n)), .val (.ref b1), .val (.ref b2), .val (.ref ra_9)] [(.ref ra_9), (.ref b1)]))
      refine OwnR.of (fun _ hr => XS.iload X38.here hx rfl (hb hby at_222) rfl hr) ?_
      show OwnR _ _ _ _ _ _ _ (T38.setTop (mkF m 224 #[.val (.int p1), .val (.int p2), .val (.int p3), .val (.int p4), .val (.int p5), .val (.int p6), .val (.int (Int32.ofNat n)), .val (.ref b1), .val (.ref b2), .val (.ref ra_9)] [(.int (Int32.ofNat n)), (.ref ra_9), (.ref b1)]))
      refine OwnR.of (fun _ hr => XS.iconst X38.here hx rfl (hb hby at_224) hr) ?_
      show OwnR _ _ _ _ _ _ _ (T38.setTop (mkF m 225 #[.val (.int p1), .val (.int p2), .val (.int p3), .val (.int p4), .val (.int p5), .val (.int p6), .val (.int (Int32.ofNat n)), .val (.ref b1), .val (.ref b2), .val (.ref ra_9)] [(.int (2 : Int32)), (.int (Int32.ofNat n)), (.ref ra_9), (.ref b1)]))
      refine OwnR.of (fun _ hr => XS.iconst X38.here hx rfl (hb hby at_225) hr) ?_
      show OwnR _ _ _ _ _ _ _ (T38.setTop (mkF m 226 #[.val (.int p1), .val (.int p2), .val (.int p3), .val (.int p4), .val (.int p5), .val (.int p6), .val (.int (Int32.ofNat n)), .val (.ref b1), .val (.ref b2), .val (.ref ra_9)] [(.int (1 : Int32)), (.int (2 : Int32)), (.int (Int32.ofNat n)), (.ref ra_9), (.ref b1)]))
      obtain ⟨_, _, ⟨T40, L40, kc40, ns40⟩, -, X40, ⟨Lc40, hQ40, l40, y40, z40⟩, st40⟩ := Jvm.LawKit.callS X38 hx (y := (⟨"com/example/fast_taxonomy/fasttaxonomy/taxonomy/RelationTopologicalOrderPinLaw", "pairOk", "([[Z[IIII)Z"⟩ : MethodName)) hown (mvT hZ (hw _ (List.mem_of_getElem? (i := 40) rfl))) (mvT hZ (hw _ (List.mem_of_getElem? (i := 41) rfl))) (mvT hZ (hw _ (List.mem_of_getElem? (i := 29) rfl))) (mvT hZ (hw _ (List.mem_of_getElem? (i := 42) rfl))) (by decide) (backOf (W := 0) (rmPair l Z a0 hw [] b1 ra_9 kE D (fun _ => kc) M2_8 kR_9 res n 2 1 (T9.heap) n0 (Nat.le_trans Z0 K9.1) EE9 (by decide) (by decide) P9_1 hn4) hZ (hw _ (List.mem_of_getElem? (i := 42) rfl)) (hw _ (List.mem_of_getElem? (i := 29) rfl)) (by decide) (by decide)) (g := (mkF m 226 #[.val (.int p1), .val (.int p2), .val (.int p3), .val (.int p4), .val (.int p5), .val (.int p6), .val (.int (Int32.ofNat n)), .val (.ref b1), .val (.ref b2), .val (.ref ra_9)] [(.int (1 : Int32)), (.int (2 : Int32)), (.int (Int32.ofNat n)), (.ref ra_9), (.ref b1)])) rfl (by rw [hml]; rfl) (argsL := [(.ref b1), (.ref ra_9), (.int (Int32.ofNat n)), (.int (2 : Int32)), (.int (1 : Int32))]) (rest := []) (lenOf pd____Z_IIII_Z rfl) rfl (by show 2 * 0 + _ ≤ _; exact Nat.le_of_eq rfl) (hb hby at_226) (fun _ _ => ⟨rfl, e38, (by decide : 14 + 0 ≤ _), (by decide : 44 + 0 ≤ _)⟩)
      dsimp only [Pt.U, Pt.locs, Pt.cells, Pt.slots] at X40 l40 y40 z40 st40 hQ40
      rw [l40, y40, z40] at X40
      obtain ⟨rfl, N40q, e40⟩ := hQ40
      have N40 := Fr.app N38 N40q
      refine OwnR.of (st40) ?_
      show OwnR _ _ _ _ _ _ _ (T40.setTop (mkF m 229 #[.val (.int p1), .val (.int p2), .val (.int p3), .val (.int p4), .val (.int p5), .val (.int p6), .val (.int (Int32.ofNat n)), .val (.ref b1), .val (.ref b2), .val (.ref ra_9)] [(.int (own_bi (own_pairOk M2_8 res n 2 1)))]))
      have hc229_41 : ¬ ((own_bi (own_pairOk M2_8 res n 2 1)) = (0 : Int32)) := by
        intro hbad
        rw [d6] at hbad
        exact absurd hbad (by decide)
      refine OwnR.of (fun _ hr => XS.ifNo X40.here hx rfl (hb hby at_229) rfl ((if0 _ _).trans (feq hc229_41).1) hr) ?_
      show OwnR _ _ _ _ _ _ _ (T40.setTop (mkF m 232 #[.val (.int p1), .val (.int p2), .val (.int p3), .val (.int p4), .val (.int p5), .val (.int p6), .val (.int (Int32.ofNat n)), .val (.ref b1), .val (.ref b2), .val (.ref ra_9)] []))
      refine OwnR.of (fun _ hr => XS.iconst X40.here hx rfl (hb hby at_232) hr) ?_
      show OwnR _ _ _ _ _ _ _ (T40.setTop (mkF m 233 #[.val (.int p1), .val (.int p2), .val (.int p3), .val (.int p4), .val (.int p5), .val (.int p6), .val (.int (Int32.ofNat n)), .val (.ref b1), .val (.ref b2), .val (.ref ra_9)] [(.int (1 : Int32))]))
      refine OwnR.of (fun _ hr => XS.goto X40.here hx rfl (pc0 := 233) (pc' := 237) rfl (hb hby at_233) (by decide) (by decide) hr) ?_
      show OwnR _ _ _ _ _ _ _ (T40.setTop (mkF m 237 #[.val (.int p1), .val (.int p2), .val (.int p3), .val (.int p4), .val (.int p5), .val (.int p6), .val (.int (Int32.ofNat n)), .val (.ref b1), .val (.ref b2), .val (.ref ra_9)] [(.int (1 : Int32))]))
      refine own_leafN X40 hx hlk (t := .boolean) Bd.returns (by simp) (hb hby at_237) (z' := (1 : Int32)) rfl (by decide) (by decide) ?_
      show Q0 Z  h0 n0 _ T40.heap _
      rw [show T40.heap = T9.heap from e40]
      refine ⟨?_, N40⟩
      show (some (.int (1 : Int32)) : Option Value) = some (.int (1 : Int32))
      rfl
  · skip
    refine OwnR.of (fun _ hr => XS.icmpYes X10.here hx rfl (pc0 := 117) (pc' := 131) rfl (hb hby at_117) rfl (flt hc117_12).2.2.2 (by decide) (by decide) hr) ?_
    show OwnR _ _ _ _ _ _ _ (T10.setTop (mkF m 131 #[.val (.int p1), .val (.int p2), .val (.int p3), .val (.int p4), .val (.int p5), .val (.int p6), .val (.int (Int32.ofNat n)), .val (.ref b1), .val (.ref b2), .val (.ref ra_9)] []))
    refine OwnR.of (fun _ hr => XS.iload X10.here hx rfl (hb hby at_131) rfl hr) ?_
    show OwnR _ _ _ _ _ _ _ (T10.setTop (mkF m 133 #[.val (.int p1), .val (.int p2), .val (.int p3), .val (.int p4), .val (.int p5), .val (.int p6), .val (.int (Int32.ofNat n)), .val (.ref b1), .val (.ref b2), .val (.ref ra_9)] [(.int (Int32.ofNat n))]))
    refine OwnR.of (fun _ hr => XS.iconst X10.here hx rfl (hb hby at_133) hr) ?_
    show OwnR _ _ _ _ _ _ _ (T10.setTop (mkF m 134 #[.val (.int p1), .val (.int p2), .val (.int p3), .val (.int p4), .val (.int p5), .val (.int p6), .val (.int (Int32.ofNat n)), .val (.ref b1), .val (.ref b2), .val (.ref ra_9)] [(.int (2 : Int32)), (.int (Int32.ofNat n))]))
    have hc134_42 : ¬ ((2 : Int32) < (Int32.ofNat n)) := by
      intro hbad
      exact hc117_12 (own_12 hn4 hbad)
    refine OwnR.of (fun _ hr => XS.icmpYes X10.here hx rfl (pc0 := 134) (pc' := 148) rfl (hb hby at_134) rfl (flt hc134_42).2.2.2 (by decide) (by decide) hr) ?_
    show OwnR _ _ _ _ _ _ _ (T10.setTop (mkF m 148 #[.val (.int p1), .val (.int p2), .val (.int p3), .val (.int p4), .val (.int p5), .val (.int p6), .val (.int (Int32.ofNat n)), .val (.ref b1), .val (.ref b2), .val (.ref ra_9)] []))
    refine OwnR.of (fun _ hr => XS.aload X10.here hx rfl (hb hby at_148) rfl rfl hr) ?_
    show OwnR _ _ _ _ _ _ _ (T10.setTop (mkF m 150 #[.val (.int p1), .val (.int p2), .val (.int p3), .val (.int p4), .val (.int p5), .val (.int p6), .val (.int (Int32.ofNat n)), .val (.ref b1), .val (.ref b2), .val (.ref ra_9)] [(.ref b1)]))
    refine OwnR.of (fun _ hr => XS.aload X10.here hx rfl (hb hby at_150) rfl rfl hr) ?_
    show OwnR _ _ _ _ _ _ _ (T10.setTop (mkF m 152 #[.val (.int p1), .val (.int p2), .val (.int p3), .val (.int p4), .val (.int p5), .val (.int p6), .val (.int (Int32.ofNat n)), .val (.ref b1), .val (.ref b2), .val (.ref ra_9)] [(.ref ra_9), (.ref b1)]))
    refine OwnR.of (fun _ hr => XS.iload X10.here hx rfl (hb hby at_152) rfl hr) ?_
    show OwnR _ _ _ _ _ _ _ (T10.setTop (mkF m 154 #[.val (.int p1), .val (.int p2), .val (.int p3), .val (.int p4), .val (.int p5), .val (.int p6), .val (.int (Int32.ofNat n)), .val (.ref b1), .val (.ref b2), .val (.ref ra_9)] [(.int (Int32.ofNat n)), (.ref ra_9), (.ref b1)]))
    refine OwnR.of (fun _ hr => XS.iconst X10.here hx rfl (hb hby at_154) hr) ?_
    show OwnR _ _ _ _ _ _ _ (T10.setTop (mkF m 155 #[.val (.int p1), .val (.int p2), .val (.int p3), .val (.int p4), .val (.int p5), .val (.int p6), .val (.int (Int32.ofNat n)), .val (.ref b1), .val (.ref b2), .val (.ref ra_9)] [(.int (0 : Int32)), (.int (Int32.ofNat n)), (.ref ra_9), (.ref b1)]))
    refine OwnR.of (fun _ hr => XS.iconst X10.here hx rfl (hb hby at_155) hr) ?_
    show OwnR _ _ _ _ _ _ _ (T10.setTop (mkF m 156 #[.val (.int p1), .val (.int p2), .val (.int p3), .val (.int p4), .val (.int p5), .val (.int p6), .val (.int (Int32.ofNat n)), .val (.ref b1), .val (.ref b2), .val (.ref ra_9)] [(.int (1 : Int32)), (.int (0 : Int32)), (.int (Int32.ofNat n)), (.ref ra_9), (.ref b1)]))
    obtain ⟨_, _, ⟨T43, L43, kc43, ns43⟩, -, X43, ⟨Lc43, hQ43, l43, y43, z43⟩, st43⟩ := Jvm.LawKit.callS X10 hx (y := (⟨"com/example/fast_taxonomy/fasttaxonomy/taxonomy/RelationTopologicalOrderPinLaw", "pairOk", "([[Z[IIII)Z"⟩ : MethodName)) hown (mvT hZ (hw _ (List.mem_of_getElem? (i := 40) rfl))) (mvT hZ (hw _ (List.mem_of_getElem? (i := 41) rfl))) (mvT hZ (hw _ (List.mem_of_getElem? (i := 29) rfl))) (mvT hZ (hw _ (List.mem_of_getElem? (i := 42) rfl))) (by decide) (backOf (W := 0) (rmPair l Z a0 hw [] b1 ra_9 kE D (fun _ => kc) M2_8 kR_9 res n 0 1 (T9.heap) n0 (Nat.le_trans Z0 K9.1) EE9 (by decide) (by decide) P9_1 hn4) hZ (hw _ (List.mem_of_getElem? (i := 42) rfl)) (hw _ (List.mem_of_getElem? (i := 29) rfl)) (by decide) (by decide)) (g := (mkF m 156 #[.val (.int p1), .val (.int p2), .val (.int p3), .val (.int p4), .val (.int p5), .val (.int p6), .val (.int (Int32.ofNat n)), .val (.ref b1), .val (.ref b2), .val (.ref ra_9)] [(.int (1 : Int32)), (.int (0 : Int32)), (.int (Int32.ofNat n)), (.ref ra_9), (.ref b1)])) rfl (by rw [hml]; rfl) (argsL := [(.ref b1), (.ref ra_9), (.int (Int32.ofNat n)), (.int (0 : Int32)), (.int (1 : Int32))]) (rest := []) (lenOf pd____Z_IIII_Z rfl) rfl (by show 2 * 0 + _ ≤ _; exact Nat.le_of_eq rfl) (hb hby at_156) (fun _ _ => ⟨rfl, e10, (by decide : 14 + 0 ≤ _), (by decide : 44 + 0 ≤ _)⟩)
    dsimp only [Pt.U, Pt.locs, Pt.cells, Pt.slots] at X43 l43 y43 z43 st43 hQ43
    rw [l43, y43, z43] at X43
    obtain ⟨rfl, N43q, e43⟩ := hQ43
    have N43 := Fr.app N10 N43q
    refine OwnR.of (st43) ?_
    show OwnR _ _ _ _ _ _ _ (T43.setTop (mkF m 159 #[.val (.int p1), .val (.int p2), .val (.int p3), .val (.int p4), .val (.int p5), .val (.int p6), .val (.int (Int32.ofNat n)), .val (.ref b1), .val (.ref b2), .val (.ref ra_9)] [(.int (own_bi (own_pairOk M2_8 res n 0 1)))]))
    have hc159_44 : ¬ ((own_bi (own_pairOk M2_8 res n 0 1)) = (0 : Int32)) := by
      intro hbad
      rw [d1] at hbad
      exact absurd hbad (by decide)
    refine OwnR.of (fun _ hr => XS.ifNo X43.here hx rfl (hb hby at_159) rfl ((if0 _ _).trans (feq hc159_44).1) hr) ?_
    show OwnR _ _ _ _ _ _ _ (T43.setTop (mkF m 162 #[.val (.int p1), .val (.int p2), .val (.int p3), .val (.int p4), .val (.int p5), .val (.int p6), .val (.int (Int32.ofNat n)), .val (.ref b1), .val (.ref b2), .val (.ref ra_9)] []))
    refine OwnR.of (fun _ hr => XS.aload X43.here hx rfl (hb hby at_162) rfl rfl hr) ?_
    show OwnR _ _ _ _ _ _ _ (T43.setTop (mkF m 164 #[.val (.int p1), .val (.int p2), .val (.int p3), .val (.int p4), .val (.int p5), .val (.int p6), .val (.int (Int32.ofNat n)), .val (.ref b1), .val (.ref b2), .val (.ref ra_9)] [(.ref b1)]))
    refine OwnR.of (fun _ hr => XS.aload X43.here hx rfl (hb hby at_164) rfl rfl hr) ?_
    show OwnR _ _ _ _ _ _ _ (T43.setTop (mkF m 166 #[.val (.int p1), .val (.int p2), .val (.int p3), .val (.int p4), .val (.int p5), .val (.int p6), .val (.int (Int32.ofNat n)), .val (.ref b1), .val (.ref b2), .val (.ref ra_9)] [(.ref ra_9), (.ref b1)]))
    refine OwnR.of (fun _ hr => XS.iload X43.here hx rfl (hb hby at_166) rfl hr) ?_
    show OwnR _ _ _ _ _ _ _ (T43.setTop (mkF m 168 #[.val (.int p1), .val (.int p2), .val (.int p3), .val (.int p4), .val (.int p5), .val (.int p6), .val (.int (Int32.ofNat n)), .val (.ref b1), .val (.ref b2), .val (.ref ra_9)] [(.int (Int32.ofNat n)), (.ref ra_9), (.ref b1)]))
    refine OwnR.of (fun _ hr => XS.iconst X43.here hx rfl (hb hby at_168) hr) ?_
    show OwnR _ _ _ _ _ _ _ (T43.setTop (mkF m 169 #[.val (.int p1), .val (.int p2), .val (.int p3), .val (.int p4), .val (.int p5), .val (.int p6), .val (.int (Int32.ofNat n)), .val (.ref b1), .val (.ref b2), .val (.ref ra_9)] [(.int (1 : Int32)), (.int (Int32.ofNat n)), (.ref ra_9), (.ref b1)]))
    refine OwnR.of (fun _ hr => XS.iconst X43.here hx rfl (hb hby at_169) hr) ?_
    show OwnR _ _ _ _ _ _ _ (T43.setTop (mkF m 170 #[.val (.int p1), .val (.int p2), .val (.int p3), .val (.int p4), .val (.int p5), .val (.int p6), .val (.int (Int32.ofNat n)), .val (.ref b1), .val (.ref b2), .val (.ref ra_9)] [(.int (0 : Int32)), (.int (1 : Int32)), (.int (Int32.ofNat n)), (.ref ra_9), (.ref b1)]))
    obtain ⟨_, _, ⟨T45, L45, kc45, ns45⟩, -, X45, ⟨Lc45, hQ45, l45, y45, z45⟩, st45⟩ := Jvm.LawKit.callS X43 hx (y := (⟨"com/example/fast_taxonomy/fasttaxonomy/taxonomy/RelationTopologicalOrderPinLaw", "pairOk", "([[Z[IIII)Z"⟩ : MethodName)) hown (mvT hZ (hw _ (List.mem_of_getElem? (i := 40) rfl))) (mvT hZ (hw _ (List.mem_of_getElem? (i := 41) rfl))) (mvT hZ (hw _ (List.mem_of_getElem? (i := 29) rfl))) (mvT hZ (hw _ (List.mem_of_getElem? (i := 42) rfl))) (by decide) (backOf (W := 0) (rmPair l Z a0 hw [] b1 ra_9 kE D (fun _ => kc) M2_8 kR_9 res n 1 0 (T9.heap) n0 (Nat.le_trans Z0 K9.1) EE9 (by decide) (by decide) P9_1 hn4) hZ (hw _ (List.mem_of_getElem? (i := 42) rfl)) (hw _ (List.mem_of_getElem? (i := 29) rfl)) (by decide) (by decide)) (g := (mkF m 170 #[.val (.int p1), .val (.int p2), .val (.int p3), .val (.int p4), .val (.int p5), .val (.int p6), .val (.int (Int32.ofNat n)), .val (.ref b1), .val (.ref b2), .val (.ref ra_9)] [(.int (0 : Int32)), (.int (1 : Int32)), (.int (Int32.ofNat n)), (.ref ra_9), (.ref b1)])) rfl (by rw [hml]; rfl) (argsL := [(.ref b1), (.ref ra_9), (.int (Int32.ofNat n)), (.int (1 : Int32)), (.int (0 : Int32))]) (rest := []) (lenOf pd____Z_IIII_Z rfl) rfl (by show 2 * 0 + _ ≤ _; exact Nat.le_of_eq rfl) (hb hby at_170) (fun _ _ => ⟨rfl, e43, (by decide : 14 + 0 ≤ _), (by decide : 44 + 0 ≤ _)⟩)
    dsimp only [Pt.U, Pt.locs, Pt.cells, Pt.slots] at X45 l45 y45 z45 st45 hQ45
    rw [l45, y45, z45] at X45
    obtain ⟨rfl, N45q, e45⟩ := hQ45
    have N45 := Fr.app N43 N45q
    refine OwnR.of (st45) ?_
    show OwnR _ _ _ _ _ _ _ (T45.setTop (mkF m 173 #[.val (.int p1), .val (.int p2), .val (.int p3), .val (.int p4), .val (.int p5), .val (.int p6), .val (.int (Int32.ofNat n)), .val (.ref b1), .val (.ref b2), .val (.ref ra_9)] [(.int (own_bi (own_pairOk M2_8 res n 1 0)))]))
    have hc173_46 : ¬ ((own_bi (own_pairOk M2_8 res n 1 0)) = (0 : Int32)) := by
      intro hbad
      rw [d2] at hbad
      exact absurd hbad (by decide)
    refine OwnR.of (fun _ hr => XS.ifNo X45.here hx rfl (hb hby at_173) rfl ((if0 _ _).trans (feq hc173_46).1) hr) ?_
    show OwnR _ _ _ _ _ _ _ (T45.setTop (mkF m 176 #[.val (.int p1), .val (.int p2), .val (.int p3), .val (.int p4), .val (.int p5), .val (.int p6), .val (.int (Int32.ofNat n)), .val (.ref b1), .val (.ref b2), .val (.ref ra_9)] []))
    refine OwnR.of (fun _ hr => XS.aload X45.here hx rfl (hb hby at_176) rfl rfl hr) ?_
    show OwnR _ _ _ _ _ _ _ (T45.setTop (mkF m 178 #[.val (.int p1), .val (.int p2), .val (.int p3), .val (.int p4), .val (.int p5), .val (.int p6), .val (.int (Int32.ofNat n)), .val (.ref b1), .val (.ref b2), .val (.ref ra_9)] [(.ref b1)]))
    refine OwnR.of (fun _ hr => XS.aload X45.here hx rfl (hb hby at_178) rfl rfl hr) ?_
    show OwnR _ _ _ _ _ _ _ (T45.setTop (mkF m 180 #[.val (.int p1), .val (.int p2), .val (.int p3), .val (.int p4), .val (.int p5), .val (.int p6), .val (.int (Int32.ofNat n)), .val (.ref b1), .val (.ref b2), .val (.ref ra_9)] [(.ref ra_9), (.ref b1)]))
    refine OwnR.of (fun _ hr => XS.iload X45.here hx rfl (hb hby at_180) rfl hr) ?_
    show OwnR _ _ _ _ _ _ _ (T45.setTop (mkF m 182 #[.val (.int p1), .val (.int p2), .val (.int p3), .val (.int p4), .val (.int p5), .val (.int p6), .val (.int (Int32.ofNat n)), .val (.ref b1), .val (.ref b2), .val (.ref ra_9)] [(.int (Int32.ofNat n)), (.ref ra_9), (.ref b1)]))
    refine OwnR.of (fun _ hr => XS.iconst X45.here hx rfl (hb hby at_182) hr) ?_
    show OwnR _ _ _ _ _ _ _ (T45.setTop (mkF m 183 #[.val (.int p1), .val (.int p2), .val (.int p3), .val (.int p4), .val (.int p5), .val (.int p6), .val (.int (Int32.ofNat n)), .val (.ref b1), .val (.ref b2), .val (.ref ra_9)] [(.int (0 : Int32)), (.int (Int32.ofNat n)), (.ref ra_9), (.ref b1)]))
    refine OwnR.of (fun _ hr => XS.iconst X45.here hx rfl (hb hby at_183) hr) ?_
    show OwnR _ _ _ _ _ _ _ (T45.setTop (mkF m 184 #[.val (.int p1), .val (.int p2), .val (.int p3), .val (.int p4), .val (.int p5), .val (.int p6), .val (.int (Int32.ofNat n)), .val (.ref b1), .val (.ref b2), .val (.ref ra_9)] [(.int (2 : Int32)), (.int (0 : Int32)), (.int (Int32.ofNat n)), (.ref ra_9), (.ref b1)]))
    obtain ⟨_, _, ⟨T47, L47, kc47, ns47⟩, -, X47, ⟨Lc47, hQ47, l47, y47, z47⟩, st47⟩ := Jvm.LawKit.callS X45 hx (y := (⟨"com/example/fast_taxonomy/fasttaxonomy/taxonomy/RelationTopologicalOrderPinLaw", "pairOk", "([[Z[IIII)Z"⟩ : MethodName)) hown (mvT hZ (hw _ (List.mem_of_getElem? (i := 40) rfl))) (mvT hZ (hw _ (List.mem_of_getElem? (i := 41) rfl))) (mvT hZ (hw _ (List.mem_of_getElem? (i := 29) rfl))) (mvT hZ (hw _ (List.mem_of_getElem? (i := 42) rfl))) (by decide) (backOf (W := 0) (rmPair l Z a0 hw [] b1 ra_9 kE D (fun _ => kc) M2_8 kR_9 res n 0 2 (T9.heap) n0 (Nat.le_trans Z0 K9.1) EE9 (by decide) (by decide) P9_1 hn4) hZ (hw _ (List.mem_of_getElem? (i := 42) rfl)) (hw _ (List.mem_of_getElem? (i := 29) rfl)) (by decide) (by decide)) (g := (mkF m 184 #[.val (.int p1), .val (.int p2), .val (.int p3), .val (.int p4), .val (.int p5), .val (.int p6), .val (.int (Int32.ofNat n)), .val (.ref b1), .val (.ref b2), .val (.ref ra_9)] [(.int (2 : Int32)), (.int (0 : Int32)), (.int (Int32.ofNat n)), (.ref ra_9), (.ref b1)])) rfl (by rw [hml]; rfl) (argsL := [(.ref b1), (.ref ra_9), (.int (Int32.ofNat n)), (.int (0 : Int32)), (.int (2 : Int32))]) (rest := []) (lenOf pd____Z_IIII_Z rfl) rfl (by show 2 * 0 + _ ≤ _; exact Nat.le_of_eq rfl) (hb hby at_184) (fun _ _ => ⟨rfl, e45, (by decide : 14 + 0 ≤ _), (by decide : 44 + 0 ≤ _)⟩)
    dsimp only [Pt.U, Pt.locs, Pt.cells, Pt.slots] at X47 l47 y47 z47 st47 hQ47
    rw [l47, y47, z47] at X47
    obtain ⟨rfl, N47q, e47⟩ := hQ47
    have N47 := Fr.app N45 N47q
    refine OwnR.of (st47) ?_
    show OwnR _ _ _ _ _ _ _ (T47.setTop (mkF m 187 #[.val (.int p1), .val (.int p2), .val (.int p3), .val (.int p4), .val (.int p5), .val (.int p6), .val (.int (Int32.ofNat n)), .val (.ref b1), .val (.ref b2), .val (.ref ra_9)] [(.int (own_bi (own_pairOk M2_8 res n 0 2)))]))
    have hc187_48 : ¬ ((own_bi (own_pairOk M2_8 res n 0 2)) = (0 : Int32)) := by
      intro hbad
      rw [d3] at hbad
      exact absurd hbad (by decide)
    refine OwnR.of (fun _ hr => XS.ifNo X47.here hx rfl (hb hby at_187) rfl ((if0 _ _).trans (feq hc187_48).1) hr) ?_
    show OwnR _ _ _ _ _ _ _ (T47.setTop (mkF m 190 #[.val (.int p1), .val (.int p2), .val (.int p3), .val (.int p4), .val (.int p5), .val (.int p6), .val (.int (Int32.ofNat n)), .val (.ref b1), .val (.ref b2), .val (.ref ra_9)] []))
    refine OwnR.of (fun _ hr => XS.aload X47.here hx rfl (hb hby at_190) rfl rfl hr) ?_
    show OwnR _ _ _ _ _ _ _ (T47.setTop (mkF m 192 #[.val (.int p1), .val (.int p2), .val (.int p3), .val (.int p4), .val (.int p5), .val (.int p6), .val (.int (Int32.ofNat n)), .val (.ref b1), .val (.ref b2), .val (.ref ra_9)] [(.ref b1)]))
    refine OwnR.of (fun _ hr => XS.aload X47.here hx rfl (hb hby at_192) rfl rfl hr) ?_
    show OwnR _ _ _ _ _ _ _ (T47.setTop (mkF m 194 #[.val (.int p1), .val (.int p2), .val (.int p3), .val (.int p4), .val (.int p5), .val (.int p6), .val (.int (Int32.ofNat n)), .val (.ref b1), .val (.ref b2), .val (.ref ra_9)] [(.ref ra_9), (.ref b1)]))
    refine OwnR.of (fun _ hr => XS.iload X47.here hx rfl (hb hby at_194) rfl hr) ?_
    show OwnR _ _ _ _ _ _ _ (T47.setTop (mkF m 196 #[.val (.int p1), .val (.int p2), .val (.int p3), .val (.int p4), .val (.int p5), .val (.int p6), .val (.int (Int32.ofNat n)), .val (.ref b1), .val (.ref b2), .val (.ref ra_9)] [(.int (Int32.ofNat n)), (.ref ra_9), (.ref b1)]))
    refine OwnR.of (fun _ hr => XS.iconst X47.here hx rfl (hb hby at_196) hr) ?_
    show OwnR _ _ _ _ _ _ _ (T47.setTop (mkF m 197 #[.val (.int p1), .val (.int p2), .val (.int p3), .val (.int p4), .val (.int p5), .val (.int p6), .val (.int (Int32.ofNat n)), .val (.ref b1), .val (.ref b2), .val (.ref ra_9)] [(.int (2 : Int32)), (.int (Int32.ofNat n)), (.ref ra_9), (.ref b1)]))
    refine OwnR.of (fun _ hr => XS.iconst X47.here hx rfl (hb hby at_197) hr) ?_
    show OwnR _ _ _ _ _ _ _ (T47.setTop (mkF m 198 #[.val (.int p1), .val (.int p2), .val (.int p3), .val (.int p4), .val (.int p5), .val (.int p6), .val (.int (Int32.ofNat n)), .val (.ref b1), .val (.ref b2), .val (.ref ra_9)] [(.int (0 : Int32)), (.int (2 : Int32)), (.int (Int32.ofNat n)), (.ref ra_9), (.ref b1)]))
    obtain ⟨_, _, ⟨T49, L49, kc49, ns49⟩, -, X49, ⟨Lc49, hQ49, l49, y49, z49⟩, st49⟩ := Jvm.LawKit.callS X47 hx (y := (⟨"com/example/fast_taxonomy/fasttaxonomy/taxonomy/RelationTopologicalOrderPinLaw", "pairOk", "([[Z[IIII)Z"⟩ : MethodName)) hown (mvT hZ (hw _ (List.mem_of_getElem? (i := 40) rfl))) (mvT hZ (hw _ (List.mem_of_getElem? (i := 41) rfl))) (mvT hZ (hw _ (List.mem_of_getElem? (i := 29) rfl))) (mvT hZ (hw _ (List.mem_of_getElem? (i := 42) rfl))) (by decide) (backOf (W := 0) (rmPair l Z a0 hw [] b1 ra_9 kE D (fun _ => kc) M2_8 kR_9 res n 2 0 (T9.heap) n0 (Nat.le_trans Z0 K9.1) EE9 (by decide) (by decide) P9_1 hn4) hZ (hw _ (List.mem_of_getElem? (i := 42) rfl)) (hw _ (List.mem_of_getElem? (i := 29) rfl)) (by decide) (by decide)) (g := (mkF m 198 #[.val (.int p1), .val (.int p2), .val (.int p3), .val (.int p4), .val (.int p5), .val (.int p6), .val (.int (Int32.ofNat n)), .val (.ref b1), .val (.ref b2), .val (.ref ra_9)] [(.int (0 : Int32)), (.int (2 : Int32)), (.int (Int32.ofNat n)), (.ref ra_9), (.ref b1)])) rfl (by rw [hml]; rfl) (argsL := [(.ref b1), (.ref ra_9), (.int (Int32.ofNat n)), (.int (2 : Int32)), (.int (0 : Int32))]) (rest := []) (lenOf pd____Z_IIII_Z rfl) rfl (by show 2 * 0 + _ ≤ _; exact Nat.le_of_eq rfl) (hb hby at_198) (fun _ _ => ⟨rfl, e47, (by decide : 14 + 0 ≤ _), (by decide : 44 + 0 ≤ _)⟩)
    dsimp only [Pt.U, Pt.locs, Pt.cells, Pt.slots] at X49 l49 y49 z49 st49 hQ49
    rw [l49, y49, z49] at X49
    obtain ⟨rfl, N49q, e49⟩ := hQ49
    have N49 := Fr.app N47 N49q
    refine OwnR.of (st49) ?_
    show OwnR _ _ _ _ _ _ _ (T49.setTop (mkF m 201 #[.val (.int p1), .val (.int p2), .val (.int p3), .val (.int p4), .val (.int p5), .val (.int p6), .val (.int (Int32.ofNat n)), .val (.ref b1), .val (.ref b2), .val (.ref ra_9)] [(.int (own_bi (own_pairOk M2_8 res n 2 0)))]))
    have hc201_50 : ¬ ((own_bi (own_pairOk M2_8 res n 2 0)) = (0 : Int32)) := by
      intro hbad
      rw [d4] at hbad
      exact absurd hbad (by decide)
    refine OwnR.of (fun _ hr => XS.ifNo X49.here hx rfl (hb hby at_201) rfl ((if0 _ _).trans (feq hc201_50).1) hr) ?_
    show OwnR _ _ _ _ _ _ _ (T49.setTop (mkF m 204 #[.val (.int p1), .val (.int p2), .val (.int p3), .val (.int p4), .val (.int p5), .val (.int p6), .val (.int (Int32.ofNat n)), .val (.ref b1), .val (.ref b2), .val (.ref ra_9)] []))
    refine OwnR.of (fun _ hr => XS.aload X49.here hx rfl (hb hby at_204) rfl rfl hr) ?_
    show OwnR _ _ _ _ _ _ _ (T49.setTop (mkF m 206 #[.val (.int p1), .val (.int p2), .val (.int p3), .val (.int p4), .val (.int p5), .val (.int p6), .val (.int (Int32.ofNat n)), .val (.ref b1), .val (.ref b2), .val (.ref ra_9)] [(.ref b1)]))
    refine OwnR.of (fun _ hr => XS.aload X49.here hx rfl (hb hby at_206) rfl rfl hr) ?_
    show OwnR _ _ _ _ _ _ _ (T49.setTop (mkF m 208 #[.val (.int p1), .val (.int p2), .val (.int p3), .val (.int p4), .val (.int p5), .val (.int p6), .val (.int (Int32.ofNat n)), .val (.ref b1), .val (.ref b2), .val (.ref ra_9)] [(.ref ra_9), (.ref b1)]))
    refine OwnR.of (fun _ hr => XS.iload X49.here hx rfl (hb hby at_208) rfl hr) ?_
    show OwnR _ _ _ _ _ _ _ (T49.setTop (mkF m 210 #[.val (.int p1), .val (.int p2), .val (.int p3), .val (.int p4), .val (.int p5), .val (.int p6), .val (.int (Int32.ofNat n)), .val (.ref b1), .val (.ref b2), .val (.ref ra_9)] [(.int (Int32.ofNat n)), (.ref ra_9), (.ref b1)]))
    refine OwnR.of (fun _ hr => XS.iconst X49.here hx rfl (hb hby at_210) hr) ?_
    show OwnR _ _ _ _ _ _ _ (T49.setTop (mkF m 211 #[.val (.int p1), .val (.int p2), .val (.int p3), .val (.int p4), .val (.int p5), .val (.int p6), .val (.int (Int32.ofNat n)), .val (.ref b1), .val (.ref b2), .val (.ref ra_9)] [(.int (1 : Int32)), (.int (Int32.ofNat n)), (.ref ra_9), (.ref b1)]))
    refine OwnR.of (fun _ hr => XS.iconst X49.here hx rfl (hb hby at_211) hr) ?_
    show OwnR _ _ _ _ _ _ _ (T49.setTop (mkF m 212 #[.val (.int p1), .val (.int p2), .val (.int p3), .val (.int p4), .val (.int p5), .val (.int p6), .val (.int (Int32.ofNat n)), .val (.ref b1), .val (.ref b2), .val (.ref ra_9)] [(.int (2 : Int32)), (.int (1 : Int32)), (.int (Int32.ofNat n)), (.ref ra_9), (.ref b1)]))
    obtain ⟨_, _, ⟨T51, L51, kc51, ns51⟩, -, X51, ⟨Lc51, hQ51, l51, y51, z51⟩, st51⟩ := Jvm.LawKit.callS X49 hx (y := (⟨"com/example/fast_taxonomy/fasttaxonomy/taxonomy/RelationTopologicalOrderPinLaw", "pairOk", "([[Z[IIII)Z"⟩ : MethodName)) hown (mvT hZ (hw _ (List.mem_of_getElem? (i := 40) rfl))) (mvT hZ (hw _ (List.mem_of_getElem? (i := 41) rfl))) (mvT hZ (hw _ (List.mem_of_getElem? (i := 29) rfl))) (mvT hZ (hw _ (List.mem_of_getElem? (i := 42) rfl))) (by decide) (backOf (W := 0) (rmPair l Z a0 hw [] b1 ra_9 kE D (fun _ => kc) M2_8 kR_9 res n 1 2 (T9.heap) n0 (Nat.le_trans Z0 K9.1) EE9 (by decide) (by decide) P9_1 hn4) hZ (hw _ (List.mem_of_getElem? (i := 42) rfl)) (hw _ (List.mem_of_getElem? (i := 29) rfl)) (by decide) (by decide)) (g := (mkF m 212 #[.val (.int p1), .val (.int p2), .val (.int p3), .val (.int p4), .val (.int p5), .val (.int p6), .val (.int (Int32.ofNat n)), .val (.ref b1), .val (.ref b2), .val (.ref ra_9)] [(.int (2 : Int32)), (.int (1 : Int32)), (.int (Int32.ofNat n)), (.ref ra_9), (.ref b1)])) rfl (by rw [hml]; rfl) (argsL := [(.ref b1), (.ref ra_9), (.int (Int32.ofNat n)), (.int (1 : Int32)), (.int (2 : Int32))]) (rest := []) (lenOf pd____Z_IIII_Z rfl) rfl (by show 2 * 0 + _ ≤ _; exact Nat.le_of_eq rfl) (hb hby at_212) (fun _ _ => ⟨rfl, e49, (by decide : 14 + 0 ≤ _), (by decide : 44 + 0 ≤ _)⟩)
    dsimp only [Pt.U, Pt.locs, Pt.cells, Pt.slots] at X51 l51 y51 z51 st51 hQ51
    rw [l51, y51, z51] at X51
    obtain ⟨rfl, N51q, e51⟩ := hQ51
    have N51 := Fr.app N49 N51q
    refine OwnR.of (st51) ?_
    show OwnR _ _ _ _ _ _ _ (T51.setTop (mkF m 215 #[.val (.int p1), .val (.int p2), .val (.int p3), .val (.int p4), .val (.int p5), .val (.int p6), .val (.int (Int32.ofNat n)), .val (.ref b1), .val (.ref b2), .val (.ref ra_9)] [(.int (own_bi (own_pairOk M2_8 res n 1 2)))]))
    have hc215_52 : ¬ ((own_bi (own_pairOk M2_8 res n 1 2)) = (0 : Int32)) := by
      intro hbad
      rw [d5] at hbad
      exact absurd hbad (by decide)
    refine OwnR.of (fun _ hr => XS.ifNo X51.here hx rfl (hb hby at_215) rfl ((if0 _ _).trans (feq hc215_52).1) hr) ?_
    show OwnR _ _ _ _ _ _ _ (T51.setTop (mkF m 218 #[.val (.int p1), .val (.int p2), .val (.int p3), .val (.int p4), .val (.int p5), .val (.int p6), .val (.int (Int32.ofNat n)), .val (.ref b1), .val (.ref b2), .val (.ref ra_9)] []))
    refine OwnR.of (fun _ hr => XS.aload X51.here hx rfl (hb hby at_218) rfl rfl hr) ?_
    show OwnR _ _ _ _ _ _ _ (T51.setTop (mkF m 220 #[.val (.int p1), .val (.int p2), .val (.int p3), .val (.int p4), .val (.int p5), .val (.int p6), .val (.int (Int32.ofNat n)), .val (.ref b1), .val (.ref b2), .val (.ref ra_9)] [(.ref b1)]))
    refine OwnR.of (fun _ hr => XS.aload X51.here hx rfl (hb hby at_220) rfl rfl hr) ?_
    show OwnR _ _ _ _ _ _ _ (T51.setTop (mkF m 222 #[.val (.int p1), .val (.int p2), .val (.int p3), .val (.int p4), .val (.int p5), .val (.int p6), .val (.int (Int32.ofNat n)), .val (.ref b1), .val (.ref b2), .val (.ref ra_9)] [(.ref ra_9), (.ref b1)]))
    refine OwnR.of (fun _ hr => XS.iload X51.here hx rfl (hb hby at_222) rfl hr) ?_
    show OwnR _ _ _ _ _ _ _ (T51.setTop (mkF m 224 #[.val (.int p1), .val (.int p2), .val (.int p3), .val (.int p4), .val (.int p5), .val (.int p6), .val (.int (Int32.ofNat n)), .val (.ref b1), .val (.ref b2), .val (.ref ra_9)] [(.int (Int32.ofNat n)), (.ref ra_9), (.ref b1)]))
    refine OwnR.of (fun _ hr => XS.iconst X51.here hx rfl (hb hby at_224) hr) ?_
    show OwnR _ _ _ _ _ _ _ (T51.setTop (mkF m 225 #[.val (.int p1), .val (.int p2), .val (.int p3), .val (.int p4), .val (.int p5), .val (.int p6), .val (.int (Int32.ofNat n)), .val (.ref b1), .val (.ref b2), .val (.ref ra_9)] [(.int (2 : Int32)), (.int (Int32.ofNat n)), (.ref ra_9), (.ref b1)]))
    refine OwnR.of (fun _ hr => XS.iconst X51.here hx rfl (hb hby at_225) hr) ?_
    show OwnR _ _ _ _ _ _ _ (T51.setTop (mkF m 226 #[.val (.int p1), .val (.int p2), .val (.int p3), .val (.int p4), .val (.int p5), .val (.int p6), .val (.int (Int32.ofNat n)), .val (.ref b1), .val (.ref b2), .val (.ref ra_9)] [(.int (1 : Int32)), (.int (2 : Int32)), (.int (Int32.ofNat n)), (.ref ra_9), (.ref b1)]))
    obtain ⟨_, _, ⟨T53, L53, kc53, ns53⟩, -, X53, ⟨Lc53, hQ53, l53, y53, z53⟩, st53⟩ := Jvm.LawKit.callS X51 hx (y := (⟨"com/example/fast_taxonomy/fasttaxonomy/taxonomy/RelationTopologicalOrderPinLaw", "pairOk", "([[Z[IIII)Z"⟩ : MethodName)) hown (mvT hZ (hw _ (List.mem_of_getElem? (i := 40) rfl))) (mvT hZ (hw _ (List.mem_of_getElem? (i := 41) rfl))) (mvT hZ (hw _ (List.mem_of_getElem? (i := 29) rfl))) (mvT hZ (hw _ (List.mem_of_getElem? (i := 42) rfl))) (by decide) (backOf (W := 0) (rmPair l Z a0 hw [] b1 ra_9 kE D (fun _ => kc) M2_8 kR_9 res n 2 1 (T9.heap) n0 (Nat.le_trans Z0 K9.1) EE9 (by decide) (by decide) P9_1 hn4) hZ (hw _ (List.mem_of_getElem? (i := 42) rfl)) (hw _ (List.mem_of_getElem? (i := 29) rfl)) (by decide) (by decide)) (g := (mkF m 226 #[.val (.int p1), .val (.int p2), .val (.int p3), .val (.int p4), .val (.int p5), .val (.int p6), .val (.int (Int32.ofNat n)), .val (.ref b1), .val (.ref b2), .val (.ref ra_9)] [(.int (1 : Int32)), (.int (2 : Int32)), (.int (Int32.ofNat n)), (.ref ra_9), (.ref b1)])) rfl (by rw [hml]; rfl) (argsL := [(.ref b1), (.ref ra_9), (.int (Int32.ofNat n)), (.int (2 : Int32)), (.int (1 : Int32))]) (rest := []) (lenOf pd____Z_IIII_Z rfl) rfl (by show 2 * 0 + _ ≤ _; exact Nat.le_of_eq rfl) (hb hby at_226) (fun _ _ => ⟨rfl, e51, (by decide : 14 + 0 ≤ _), (by decide : 44 + 0 ≤ _)⟩)
    dsimp only [Pt.U, Pt.locs, Pt.cells, Pt.slots] at X53 l53 y53 z53 st53 hQ53
    rw [l53, y53, z53] at X53
    obtain ⟨rfl, N53q, e53⟩ := hQ53
    have N53 := Fr.app N51 N53q
    refine OwnR.of (st53) ?_
    show OwnR _ _ _ _ _ _ _ (T53.setTop (mkF m 229 #[.val (.int p1), .val (.int p2), .val (.int p3), .val (.int p4), .val (.int p5), .val (.int p6), .val (.int (Int32.ofNat n)), .val (.ref b1), .val (.ref b2), .val (.ref ra_9)] [(.int (own_bi (own_pairOk M2_8 res n 2 1)))]))
    have hc229_54 : ¬ ((own_bi (own_pairOk M2_8 res n 2 1)) = (0 : Int32)) := by
      intro hbad
      rw [d6] at hbad
      exact absurd hbad (by decide)
    refine OwnR.of (fun _ hr => XS.ifNo X53.here hx rfl (hb hby at_229) rfl ((if0 _ _).trans (feq hc229_54).1) hr) ?_
    show OwnR _ _ _ _ _ _ _ (T53.setTop (mkF m 232 #[.val (.int p1), .val (.int p2), .val (.int p3), .val (.int p4), .val (.int p5), .val (.int p6), .val (.int (Int32.ofNat n)), .val (.ref b1), .val (.ref b2), .val (.ref ra_9)] []))
    refine OwnR.of (fun _ hr => XS.iconst X53.here hx rfl (hb hby at_232) hr) ?_
    show OwnR _ _ _ _ _ _ _ (T53.setTop (mkF m 233 #[.val (.int p1), .val (.int p2), .val (.int p3), .val (.int p4), .val (.int p5), .val (.int p6), .val (.int (Int32.ofNat n)), .val (.ref b1), .val (.ref b2), .val (.ref ra_9)] [(.int (1 : Int32))]))
    refine OwnR.of (fun _ hr => XS.goto X53.here hx rfl (pc0 := 233) (pc' := 237) rfl (hb hby at_233) (by decide) (by decide) hr) ?_
    show OwnR _ _ _ _ _ _ _ (T53.setTop (mkF m 237 #[.val (.int p1), .val (.int p2), .val (.int p3), .val (.int p4), .val (.int p5), .val (.int p6), .val (.int (Int32.ofNat n)), .val (.ref b1), .val (.ref b2), .val (.ref ra_9)] [(.int (1 : Int32))]))
    refine own_leafN X53 hx hlk (t := .boolean) Bd.returns (by simp) (hb hby at_237) (z' := (1 : Int32)) rfl (by decide) (by decide) ?_
    show Q0 Z  h0 n0 _ T53.heap _
    rw [show T53.heap = T9.heap from e53]
    refine ⟨?_, N53⟩
    show (some (.int (1 : Int32)) : Option Value) = some (.int (1 : Int32))
    rfl
theorem own_eqr {args : Array Value} {Z : State} {t u : Jvm.Term} {b : Addr} (h : (Jvm.Cond.eq t u).value args Z none Z [] = some true) (hu : u.eval args Z none [] Z = some (.ref b)) : t.eval args Z none [] Z = some (.ref b) := by
  cases ht : t.eval args Z none [] Z with
  | none => simp [Jvm.Cond.value, ht] at h
  | some v => cases v <;> simp [Jvm.Cond.value, ht, hu] at h ⊢ <;> first | exact h | exact h.symm
theorem own_len {args : Array Value} {Z : State} {t : Jvm.Term} {a : Addr} {c : Cell} {ty : FieldType} {k : Int32} (ev : t.eval args Z none [] Z = some (.ref a)) (A : Arr Z Z.heap a c ty) (h : (Jvm.Cond.eq (Jvm.Term.length t) (Jvm.Term.int k)).value args Z none Z [] = some true) : c.slots.size < 2 ^ 31 ∧ c.slots.size.toInt32 = k := by
  have q := own_eqi h
  have hA := Arr.fin (Vm.Alike.refl _) A
  by_cases hl : c.slots.size < 2 ^ 31
  · rw [len_f ev hA hl] at q
    exact ⟨hl, Value.int.inj (Option.some.inj q)⟩
  · simp [Jvm.Term.eval, ev, hA, hl] at q
theorem own_sz0 {k : Nat} (h : k < 2 ^ 31) (e : k.toInt32 = 0) : k = 0 := by
  have q := len_toInt h
  rw [e] at q
  have : (0 : Int32).toInt = 0 := rfl
  omega
theorem own_emp {Z : State} {h : Heap} {a : Addr} {c : Cell} (A : Arr Z h a c .int) (e : c.slots.size = 0) : OwnF Z h a c.cls .int 0 (fun _ => .null) := ⟨c, A, rfl, e, fun i hi => absurd hi (Nat.not_lt_zero i)⟩
set_option maxRecDepth 65536 in
set_option maxHeartbeats 40000000 in
theorem comes_1 {Post : Tables → Env → Array Value → State → Outcome → State → Prop} (hpost : ∀ tb e args s v u, (limb_1_1.after args s (.returned v) u = true ∧ limb_1_2.after args s (.returned v) u = true ∧ True) → FrameEnd s (.returned v) u (Jvm.fieldLocs frame_1_writes args s ++ Jvm.arrayLocs frame_1_arrays args s ++ Jvm.staticLocs frame_1_statics s) 32 192 → Post tb e args s (.returned v) u) :
    ArmFor flags0 classFile x code maxLocals ret World_1 tables_1 room_1 Calls_1 rest_1 Pre_1 Post := by
  intro l hfl _ _ p e ha hc hk s m args below hf hA hF happ hP
  obtain ⟨hcalls, hrest, hpre⟩ := hP
  obtain ⟨-, -, -, hnamed, -, -, -, hat⟩ := (Spec.applies_iff hf).mp happ
  obtain ⟨hg, hn⟩ := and_e (Cond.before_iff.mp (show (Jvm.Cond.and given_1 narrow_1).before args s = true from hpre))
  obtain ⟨ga1, gb1⟩ := and_e hg
  obtain ⟨ga2, gb2⟩ := and_e gb1
  obtain ⟨ga3, gb3⟩ := and_e gb2
  obtain ⟨ga4, gb4⟩ := and_e gb3
  obtain ⟨ga5, gb5⟩ := and_e gb4
  obtain ⟨ga6, gb6⟩ := and_e gb5
  obtain ⟨w0, w1, w2, w3, w4, w5, rfl⟩ : ∃ w0 w1 w2 w3 w4 w5 : Value, args = #[w0, w1, w2, w3, w4, w5] := by
    have hs : args.size = 6 := by simpa [Cond.value, given_1] using ga1
    obtain ⟨L⟩ := args
    match L, hs with
    | [w0, w1, w2, w3, w4, w5], _ => exact ⟨w0, w1, w2, w3, w4, w5, rfl⟩
  have hw := fun d (hd : d ∈ tables_1) => atoms_spec (ws := Jvm.Cond.code x code maxLocals ret :: tables_1) hat d (List.mem_cons_of_mem _ hd)
  have hfit : Fit s := fun {y c} hc i hi => by
    obtain ⟨ha, rfl⟩ := Array.getElem?_eq_some_iff.mp hc
    have q := List.all_eq_true.mp ((Array.all_eq_true_iff_forall_mem.mp hF) _ (Array.getElem_mem ha)) i (List.mem_range.mpr hi)
    simpa [Array.getElem?_eq_getElem hi] using q
  obtain ⟨i0, ei0⟩ := is_v ga2
  obtain rfl : w0 = (.int i0) := Option.some.inj ei0
  obtain ⟨i1, ei1⟩ := is_v ga3
  obtain rfl : w1 = (.int i1) := Option.some.inj ei1
  obtain ⟨i2, ei2⟩ := is_v ga4
  obtain rfl : w2 = (.int i2) := Option.some.inj ei2
  obtain ⟨i3, ei3⟩ := is_v ga5
  obtain rfl : w3 = (.int i3) := Option.some.inj ei3
  obtain ⟨i4, ei4⟩ := is_v ga6
  obtain rfl : w4 = (.int i4) := Option.some.inj ei4
  obtain ⟨i5, ei5⟩ := is_v gb6
  obtain rfl : w5 = (.int i5) := Option.some.inj ei5
  obtain ⟨na1, nb1⟩ := and_e hn
  obtain ⟨na2, nb2⟩ := and_e nb1
  obtain ⟨s_EMPTY_ROW, ev_EMPTY_ROW⟩ := exa_v na2
  have S_EMPTY_ROW := Sta.start ev_EMPTY_ROW (Or.inr ⟨hw _ (List.mem_of_getElem? (i := 6) rfl), hw _ (List.mem_of_getElem? (i := 18) rfl)⟩)
  have E_EMPTY_ROW := Exa.start ev_EMPTY_ROW na2
  obtain ⟨cb, Ab⟩ := Arr.start ev_EMPTY_ROW na1
  obtain ⟨lb1, lb2⟩ := own_len ev_EMPTY_ROW Ab nb2
  have FE := own_emp Ab (own_sz0 lb1 lb2)
  obtain ⟨n, o, h1, h2, h3, _, L, rfl, ⟨rfl, N⟩, hq⟩ := rm0 l s _ hw tables_1 i0 i1 i2 i3 i4 i5 s_EMPTY_ROW cb.cls (fun _ => .null) s.heap s.heap.size (Nat.le_refl _) S_EMPTY_ROW E_EMPTY_ROW FE Ab.lt p e ha hc hk s m _ below hf ((Spec.applies_iff_loose hf).mp happ).1 ⟨rfl, State.Warmed39.refl s, rfl⟩ trivial
  refine ⟨n, _, h1, h2, h3, hpost _ _ _ _ _ _ ⟨Cond.after_iff.mpr rfl, Cond.after_iff.mpr (eq_i res_at (Term.int_eval (1)) rfl), trivial⟩ ⟨hq.1, hq.2.1, (hq.2.2.sift fun y hy => Or.inr (N y hy)).mono (by decide) (by decide)⟩⟩
theorem main_1_1 : Claimed_1_1 := comes_1 fun _ _ _ _ _ _ h hF => ⟨h.1, hF⟩
theorem main_1_2 : Claimed_1_2 := comes_1 fun _ _ _ _ _ _ h hF => ⟨h.2.1, hF⟩
end Jvm.Pilot.@@N@@
namespace Jvm.Pilot.@@N@@
open Jvm Jvm.ClassFile Sem Op Lib Jvm.Free Jvm.Stand Jvm.Pilot.@@N@@.Jvm.D
/-! MADE BY PROGRAM (witnessworld.py) out of the Statement's table words and the real class files: 16 classes; the members and pool entries that the words name. The judged class is class 1, her method 1. -/
namespace start1
open Jvm.ClassFile
def u (s : String) : CpInfo := .utf8 (stringToUtf16 s)
/-- a pool by its gaps: so many unusable entries, then the entry; so many at the end -/
def gap : Nat → List CpInfo → List CpInfo
  | 0, r => r
  | n + 1, r => .unusable :: gap n r
def poolList (es : List (Nat × CpInfo)) (last : Nat) : List CpInfo := es.foldr (fun e r => gap e.1 (e.2 :: r)) (gap last [])
def pool (es : List (Nat × CpInfo)) (last : Nat) : Array CpInfo := ⟨poolList es last⟩
def fileOf (pool : Array CpInfo) (this : Nat) (attrs : Array Attribute := #[]) (ms : Array MethodInfo := #[]) (fl : Nat := 33) (sup : Nat := 0) (ifs : Array Nat := #[]) (fds : Array FieldInfo := #[]) : ClassFile where
  minorVersion := 0
  majorVersion := 65
  constantPool := pool
  accessFlags := fl
  thisClass := this
  superClass := sup
  interfaces := ifs
  fields := fds
  methods := ms
  attributes := attrs
def plain (name : String) (sup : Option ClassId) : Class where
  name := name
  kind := .ordinary
  loader := none
  accessFlags := 33
  super := sup
  interfaces := #[]
  cf := none
  fields := #[]
  methods := #[]
  instanceTypes := #[]
  staticTypes := #[]
  resolved := #[]
  callSites := []
  init := .initialized
  statics := none
  mirror := none

def pool0 : Array CpInfo := pool [(5, u "<init>"), (0, u "()V"), (1, .class_ 10), (1, u "java/lang/Object")] 113

def k0c0 : Code := { maxStack := 0, maxLocals := 1, code := object_method_1_code, exceptionTable := #[], attributes := #[] }
def k0m0 : Method := { name := "<init>", desc := "()V", sig := { parameters := [], returnType := none }, accessFlags := 1, code := some k0c0 }
/-- java/lang/Object -/
def k0 : Class := { plain "java/lang/Object" none with
  accessFlags := 33
  interfaces := #[]
  cf := some (fileOf pool0 8 #[] #[{ accessFlags := 1, nameIndex := 5, descriptorIndex := 6, attributes := #[] }] 33 0 #[] #[])
  fields := #[]
  methods := #[k0m0]
  instanceTypes := #[]
  staticTypes := #[]
  resolved := Array.replicate 124 none
  statics := none }

def pool1 : Array CpInfo := pool [(2, .class_ 4), (1, u "java/lang/Object"), (0, u "<init>"), (0, u "()V"), (0, .integer 2147483647), (0, .class_ 9), (0, u "[[Z"), (0, .class_ 11), (0, u "com/example/fast_taxonomy/fasttaxonomy/taxonomy/Relation"), (0, .methodref 10 13), (0, .nameAndType 5 14), (0, u "(I)V"), (0, .methodref 16 17), (0, .class_ 18), (0, .nameAndType 19 20), (0, u "com/example/fast_taxonomy/fasttaxonomy/taxonomy/RelationTopologicalOrderPinLaw"), (0, u "addEdge"), (0, u "(Lcom/example/fast_taxonomy/fasttaxonomy/taxonomy/Relation;[[ZII)V"), (0, .methodref 10 22), (0, .nameAndType 23 24), (0, u "topologicalOrder"), (0, u "()[I"), (0, .methodref 16 26), (0, .nameAndType 27 28), (0, u "pos"), (0, u "([II)I"), (0, .methodref 16 30), (0, .nameAndType 31 32), (0, u "pairOk"), (0, u "([[Z[IIII)Z"), (0, .integer 65536), (0, .methodref 10 35), (0, .nameAndType 36 37), (0, u "add"), (0, u "(II)Z"), (0, .methodref 16 39), (0, .nameAndType 40 41), (0, u "path2"), (0, u "([[ZII)Z"), (0, .methodref 16 43), (0, .nameAndType 44 41), (0, u "path3"), (0, .methodref 16 46), (0, .nameAndType 47 41), (0, u "reach1"), (0, .methodref 16 49), (0, .nameAndType 50 41), (0, u "fromCycle"), (0, .methodref 16 52), (0, .nameAndType 53 54), (0, u "inB"), (0, u "([[ZI)Z"), (2, u "law"), (0, u "(IIIIII)Z")] 5

def k1m0 : Method := { name := "<init>", desc := "()V", sig := { parameters := [], returnType := none }, accessFlags := 1, code := none }
def k1c1 : Code := { maxStack := 5, maxLocals := 10, code := code, exceptionTable := #[], attributes := #[] }
def k1m1 : Method := { name := "law", desc := "(IIIIII)Z", sig := { parameters := [.int, .int, .int, .int, .int, .int], returnType := some .boolean }, accessFlags := 9, code := some k1c1 }
def k1c2 : Code := { maxStack := 3, maxLocals := 6, code := method_3_code, exceptionTable := #[], attributes := #[] }
def k1m2 : Method := { name := "addEdge", desc := "(Lcom/example/fast_taxonomy/fasttaxonomy/taxonomy/Relation;[[ZII)V", sig := { parameters := [(.object "com/example/fast_taxonomy/fasttaxonomy/taxonomy/Relation"), (.array (.array .boolean)), .int, .int], returnType := none }, accessFlags := 10, code := some k1c2 }
def k1c3 : Code := { maxStack := 2, maxLocals := 2, code := method_4_code, exceptionTable := #[], attributes := #[] }
def k1m3 : Method := { name := "pos", desc := "([II)I", sig := { parameters := [(.array .int), .int], returnType := some .int }, accessFlags := 10, code := some k1c3 }
def k1c4 : Code := { maxStack := 2, maxLocals := 3, code := method_5_code, exceptionTable := #[], attributes := #[] }
def k1m4 : Method := { name := "path2", desc := "([[ZII)Z", sig := { parameters := [(.array (.array .boolean)), .int, .int], returnType := some .boolean }, accessFlags := 10, code := some k1c4 }
def k1c5 : Code := { maxStack := 3, maxLocals := 3, code := method_6_code, exceptionTable := #[], attributes := #[] }
def k1m5 : Method := { name := "path3", desc := "([[ZII)Z", sig := { parameters := [(.array (.array .boolean)), .int, .int], returnType := some .boolean }, accessFlags := 10, code := some k1c5 }
def k1c6 : Code := { maxStack := 3, maxLocals := 3, code := method_7_code, exceptionTable := #[], attributes := #[] }
def k1m6 : Method := { name := "reach1", desc := "([[ZII)Z", sig := { parameters := [(.array (.array .boolean)), .int, .int], returnType := some .boolean }, accessFlags := 10, code := some k1c6 }
def k1c7 : Code := { maxStack := 3, maxLocals := 3, code := method_8_code, exceptionTable := #[], attributes := #[] }
def k1m7 : Method := { name := "fromCycle", desc := "([[ZII)Z", sig := { parameters := [(.array (.array .boolean)), .int, .int], returnType := some .boolean }, accessFlags := 10, code := some k1c7 }
def k1c8 : Code := { maxStack := 3, maxLocals := 2, code := method_9_code, exceptionTable := #[], attributes := #[] }
def k1m8 : Method := { name := "inB", desc := "([[ZI)Z", sig := { parameters := [(.array (.array .boolean)), .int], returnType := some .boolean }, accessFlags := 10, code := some k1c8 }
def k1c9 : Code := { maxStack := 2, maxLocals := 9, code := method_10_code, exceptionTable := #[], attributes := #[] }
def k1m9 : Method := { name := "pairOk", desc := "([[Z[IIII)Z", sig := { parameters := [(.array (.array .boolean)), (.array .int), .int, .int, .int], returnType := some .boolean }, accessFlags := 10, code := some k1c9 }
/-- com/example/fast_taxonomy/fasttaxonomy/taxonomy/RelationTopologicalOrderPinLaw -/
def k1 : Class := { plain "com/example/fast_taxonomy/fasttaxonomy/taxonomy/RelationTopologicalOrderPinLaw" (some 0) with
  accessFlags := 49
  interfaces := #[]
  cf := some (fileOf pool1 16 #[] #[{ accessFlags := 1, nameIndex := 5, descriptorIndex := 6, attributes := #[] }, { accessFlags := 9, nameIndex := 57, descriptorIndex := 58, attributes := #[] }, { accessFlags := 10, nameIndex := 19, descriptorIndex := 20, attributes := #[] }, { accessFlags := 10, nameIndex := 27, descriptorIndex := 28, attributes := #[] }, { accessFlags := 10, nameIndex := 40, descriptorIndex := 41, attributes := #[] }, { accessFlags := 10, nameIndex := 44, descriptorIndex := 41, attributes := #[] }, { accessFlags := 10, nameIndex := 47, descriptorIndex := 41, attributes := #[] }, { accessFlags := 10, nameIndex := 50, descriptorIndex := 41, attributes := #[] }, { accessFlags := 10, nameIndex := 53, descriptorIndex := 54, attributes := #[] }, { accessFlags := 10, nameIndex := 31, descriptorIndex := 32, attributes := #[] }] 49 2 #[] #[])
  fields := #[]
  methods := #[k1m0, k1m1, k1m2, k1m3, k1m4, k1m5, k1m6, k1m7, k1m8, k1m9]
  instanceTypes := #[]
  staticTypes := #[]
  resolved := Array.replicate 64 none
  statics := none }

def pool2 : Array CpInfo := pool [(1, .methodref 2 3), (0, .class_ 4), (0, .nameAndType 5 6), (0, u "java/lang/Object"), (0, u "<init>"), (0, u "()V"), (9, .class_ 17), (0, u "[I"), (0, .fieldref 19 20), (0, .class_ 21), (0, .nameAndType 22 23), (0, u "com/example/fast_taxonomy/fasttaxonomy/taxonomy/Relation"), (0, u "rows"), (0, u "[[I"), (0, .fieldref 19 25), (0, .nameAndType 26 17), (0, u "EMPTY_ROW"), (0, .methodref 28 29), (0, .class_ 30), (0, .nameAndType 31 32), (0, u "java/util/Arrays"), (0, u "fill"), (0, u "([Ljava/lang/Object;Ljava/lang/Object;)V"), (0, .fieldref 19 34), (0, .nameAndType 35 17), (0, u "rowSizes"), (0, .fieldref 19 37), (0, .nameAndType 38 39), (0, u "pairCount"), (0, u "J"), (0, .methodref 19 41), (0, .nameAndType 42 43), (0, u "search"), (0, u "(II)I"), (0, .long 4), (1, .long 2), (1, .methodref 49 50), (0, .class_ 51), (0, .nameAndType 52 53), (0, u "java/lang/Math"), (0, u "max"), (0, u "(JJ)J"), (0, .methodref 49 55), (0, .nameAndType 56 53), (0, u "min"), (0, .methodref 28 58), (0, .nameAndType 59 60), (0, u "copyOf"), (0, u "([II)[I"), (0, .methodref 62 63), (0, .class_ 64), (0, .nameAndType 65 66), (0, u "java/lang/System"), (0, u "arraycopy"), (0, u "(Ljava/lang/Object;ILjava/lang/Object;II)V"), (0, .methodref 19 68), (0, .nameAndType 69 70), (0, u "checkElement"), (0, u "(I)V"), (4, .methodref 76 77), (0, .class_ 78), (0, .nameAndType 79 43), (0, u "java/util/Objects"), (0, u "checkIndex"), (5, u "marked"), (0, u "[Z"), (5, u "reachedOrder"), (4, .methodref 28 98), (0, .nameAndType 99 100), (0, u "binarySearch"), (0, u "([IIII)I"), (0, u "MIN_ROW_CAPACITY"), (0, u "I"), (2, u "NO_TARGET"), (7, u "add"), (0, u "(II)Z"), (10, u "topologicalOrder"), (0, u "()[I")] 18

def k2c0 : Code := { maxStack := 3, maxLocals := 2, code := prog_24_method_1_code, exceptionTable := #[], attributes := #[] }
def k2m0 : Method := { name := "<init>", desc := "(I)V", sig := { parameters := [.int], returnType := none }, accessFlags := 1, code := some k2c0 }
def k2c1 : Code := { maxStack := 6, maxLocals := 9, code := prog_24_method_4_code, exceptionTable := #[], attributes := #[] }
def k2m1 : Method := { name := "add", desc := "(II)Z", sig := { parameters := [.int, .int], returnType := some .boolean }, accessFlags := 1, code := some k2c1 }
def k2c2 : Code := { maxStack := 4, maxLocals := 8, code := prog_24_method_13_code, exceptionTable := #[], attributes := #[] }
def k2m2 : Method := { name := "topologicalOrder", desc := "()[I", sig := { parameters := [], returnType := some (.array .int) }, accessFlags := 1, code := some k2c2 }
def k2c3 : Code := { maxStack := 4, maxLocals := 3, code := prog_24_method_16_code, exceptionTable := #[], attributes := #[] }
def k2m3 : Method := { name := "search", desc := "(II)I", sig := { parameters := [.int, .int], returnType := some .int }, accessFlags := 2, code := some k2c3 }
def k2c4 : Code := { maxStack := 2, maxLocals := 2, code := prog_24_method_17_code, exceptionTable := #[], attributes := #[] }
def k2m4 : Method := { name := "checkElement", desc := "(I)V", sig := { parameters := [.int], returnType := none }, accessFlags := 2, code := some k2c4 }
/-- com/example/fast_taxonomy/fasttaxonomy/taxonomy/Relation -/
def k2 : Class := { plain "com/example/fast_taxonomy/fasttaxonomy/taxonomy/Relation" (some 0) with
  accessFlags := 49
  interfaces := #[]
  cf := some (fileOf pool2 19 #[] #[{ accessFlags := 1, nameIndex := 5, descriptorIndex := 70, attributes := #[] }, { accessFlags := 1, nameIndex := 113, descriptorIndex := 114, attributes := #[] }, { accessFlags := 1, nameIndex := 125, descriptorIndex := 126, attributes := #[] }, { accessFlags := 2, nameIndex := 42, descriptorIndex := 43, attributes := #[] }, { accessFlags := 2, nameIndex := 69, descriptorIndex := 70, attributes := #[] }] 49 2 #[] #[{ accessFlags := 26, nameIndex := 26, descriptorIndex := 17, attributes := #[] }, { accessFlags := 26, nameIndex := 101, descriptorIndex := 102, attributes := #[] }, { accessFlags := 26, nameIndex := 105, descriptorIndex := 102, attributes := #[] }, { accessFlags := 18, nameIndex := 22, descriptorIndex := 23, attributes := #[] }, { accessFlags := 18, nameIndex := 35, descriptorIndex := 17, attributes := #[] }, { accessFlags := 2, nameIndex := 38, descriptorIndex := 39, attributes := #[] }, { accessFlags := 2, nameIndex := 85, descriptorIndex := 86, attributes := #[] }, { accessFlags := 2, nameIndex := 92, descriptorIndex := 17, attributes := #[] }])
  fields := #[{ name := "EMPTY_ROW", type := (.array .int), accessFlags := 26, slot := 0, constantValue := 0 }, { name := "MIN_ROW_CAPACITY", type := .int, accessFlags := 26, slot := 1, constantValue := 0 }, { name := "NO_TARGET", type := .int, accessFlags := 26, slot := 2, constantValue := 0 }, { name := "rows", type := (.array (.array .int)), accessFlags := 18, slot := 0, constantValue := 0 }, { name := "rowSizes", type := (.array .int), accessFlags := 18, slot := 1, constantValue := 0 }, { name := "pairCount", type := .long, accessFlags := 2, slot := 2, constantValue := 0 }, { name := "marked", type := (.array .boolean), accessFlags := 2, slot := 3, constantValue := 0 }, { name := "reachedOrder", type := (.array .int), accessFlags := 2, slot := 4, constantValue := 0 }]
  methods := #[k2m0, k2m1, k2m2, k2m3, k2m4]
  instanceTypes := #[(.array (.array .int)), (.array .int), .long, (.array .boolean), (.array .int)]
  staticTypes := #[(.array .int), .int, .int]
  resolved := Array.replicate 145 none
  statics := some 0 }

def pool3 : Array CpInfo := pool [(2, .class_ 4), (1, u "java/lang/Object"), (0, u "<init>"), (0, u "()V"), (6, .methodref 14 15), (0, .class_ 16), (0, .nameAndType 17 18), (0, u "java/util/Arrays"), (0, u "rangeCheck"), (0, u "(III)V"), (55, .class_ 76), (1, u "java/util/Arrays$NaturalOrder"), (36, .class_ 115), (1, u "java/util/Arrays$LegacyMergeSort"), (1, u "Z"), (32, .methodref 151 152), (0, .class_ 153), (0, .nameAndType 154 155), (0, u "java/lang/System"), (0, u "arraycopy"), (0, u "(Ljava/lang/Object;ILjava/lang/Object;II)V"), (51, u "binarySearch0"), (1, .methodref 14 210), (0, .nameAndType 207 211), (0, u "([IIII)I"), (90, u "copyOf"), (1, .methodref 305 306), (0, .class_ 307), (0, .nameAndType 308 309), (0, u "java/lang/Math"), (0, u "min"), (0, u "(II)I"), (65, .class_ 376), (0, u "java/util/Arrays$ArrayList"), (68, u "$assertionsDisabled"), (269, u "MIN_ARRAY_SORT_GRAN"), (0, u "I"), (2, u "INSERTIONSORT_THRESHOLD"), (74, u "binarySearch"), (45, u "fill"), (17, u "([Ljava/lang/Object;Ljava/lang/Object;)V"), (12, u "([II)[I"), (103, .class_ 976), (0, u "java/util/Arrays$ArrayItr")] 52

def k3m0 : Method := { name := "<init>", desc := "()V", sig := { parameters := [], returnType := none }, accessFlags := 2, code := none }
def k3c1 : Code := { maxStack := 4, maxLocals := 3, code := jdk_65_method_30_code, exceptionTable := #[], attributes := #[] }
def k3m1 : Method := { name := "rangeCheck", desc := "(III)V", sig := { parameters := [.int, .int, .int], returnType := none }, accessFlags := 8, code := some k3c1 }
def k3c2 : Code := { maxStack := 4, maxLocals := 4, code := jdk_65_method_58_code, exceptionTable := #[], attributes := #[] }
def k3m2 : Method := { name := "binarySearch", desc := "([IIII)I", sig := { parameters := [(.array .int), .int, .int, .int], returnType := some .int }, accessFlags := 9, code := some k3c2 }
def k3c3 : Code := { maxStack := 2, maxLocals := 8, code := jdk_65_method_59_code, exceptionTable := #[], attributes := #[] }
def k3m3 : Method := { name := "binarySearch0", desc := "([IIII)I", sig := { parameters := [(.array .int), .int, .int, .int], returnType := some .int }, accessFlags := 10, code := some k3c3 }
def k3c4 : Code := { maxStack := 3, maxLocals := 4, code := jdk_65_method_117_code, exceptionTable := #[], attributes := #[] }
def k3m4 : Method := { name := "fill", desc := "([Ljava/lang/Object;Ljava/lang/Object;)V", sig := { parameters := [(.array (.object "java/lang/Object")), (.object "java/lang/Object")], returnType := none }, accessFlags := 9, code := some k3c4 }
def k3c5 : Code := { maxStack := 6, maxLocals := 3, code := jdk_65_method_123_code, exceptionTable := #[], attributes := #[] }
def k3m5 : Method := { name := "copyOf", desc := "([II)[I", sig := { parameters := [(.array .int), .int], returnType := some (.array .int) }, accessFlags := 9, code := some k3c5 }
/-- java/util/Arrays -/
def k3 : Class := { plain "java/util/Arrays" (some 0) with
  accessFlags := 49
  interfaces := #[]
  cf := some (fileOf pool3 14 #[.nestMembers #[975, 375, 113, 74]] #[{ accessFlags := 2, nameIndex := 5, descriptorIndex := 6, attributes := #[] }, { accessFlags := 8, nameIndex := 17, descriptorIndex := 18, attributes := #[] }, { accessFlags := 9, nameIndex := 794, descriptorIndex := 211, attributes := #[] }, { accessFlags := 10, nameIndex := 207, descriptorIndex := 211, attributes := #[] }, { accessFlags := 9, nameIndex := 840, descriptorIndex := 858, attributes := #[] }, { accessFlags := 9, nameIndex := 302, descriptorIndex := 871, attributes := #[] }] 49 2 #[] #[{ accessFlags := 26, nameIndex := 715, descriptorIndex := 716, attributes := #[] }, { accessFlags := 26, nameIndex := 719, descriptorIndex := 716, attributes := #[] }, { accessFlags := 4120, nameIndex := 445, descriptorIndex := 117, attributes := #[] }])
  fields := #[{ name := "MIN_ARRAY_SORT_GRAN", type := .int, accessFlags := 26, slot := 0, constantValue := 0 }, { name := "INSERTIONSORT_THRESHOLD", type := .int, accessFlags := 26, slot := 1, constantValue := 0 }, { name := "$assertionsDisabled", type := .boolean, accessFlags := 4120, slot := 2, constantValue := 0 }]
  methods := #[k3m0, k3m1, k3m2, k3m3, k3m4, k3m5]
  instanceTypes := #[]
  staticTypes := #[.int, .int, .boolean]
  resolved := Array.replicate 1029 none
  statics := none }

def pool4 : Array CpInfo := pool [(2, .class_ 4), (1, u "java/lang/Object"), (0, u "<init>"), (0, u "()V"), (35, .class_ 44), (1, u "java/util/Objects"), (60, .methodref 106 107), (0, .class_ 108), (0, .nameAndType 109 110), (0, u "jdk/internal/util/Preconditions"), (0, u "checkIndex"), (0, u "(IILjava/util/function/BiFunction;)I"), (60, u "(II)I")] 12

def k4m0 : Method := { name := "<init>", desc := "()V", sig := { parameters := [], returnType := none }, accessFlags := 2, code := none }
def k4c1 : Code := { maxStack := 3, maxLocals := 2, code := jdk_31_method_17_code, exceptionTable := #[], attributes := #[] }
def k4m1 : Method := { name := "checkIndex", desc := "(II)I", sig := { parameters := [.int, .int], returnType := some .int }, accessFlags := 9, code := some k4c1 }
/-- java/util/Objects -/
def k4 : Class := { plain "java/util/Objects" (some 0) with
  accessFlags := 49
  interfaces := #[]
  cf := some (fileOf pool4 42 #[] #[{ accessFlags := 2, nameIndex := 5, descriptorIndex := 6, attributes := #[] }, { accessFlags := 9, nameIndex := 109, descriptorIndex := 171, attributes := #[] }] 49 2 #[] #[])
  fields := #[]
  methods := #[k4m0, k4m1]
  instanceTypes := #[]
  staticTypes := #[]
  resolved := Array.replicate 184 none
  statics := none }

def pool5 : Array CpInfo := pool [(2, .class_ 4), (1, u "java/lang/Object"), (0, u "<init>"), (0, u "()V"), (17, .class_ 26), (1, u "jdk/internal/util/Preconditions"), (6, u "checkIndex"), (21, .class_ 56), (0, u "jdk/internal/util/Preconditions$4"), (57, .class_ 115), (0, u "jdk/internal/util/Preconditions$1"), (7, u "SIOOBE_FORMATTER"), (0, u "Ljava/util/function/BiFunction;"), (0, .class_ 126), (0, u "jdk/internal/util/Preconditions$2"), (3, u "AIOOBE_FORMATTER"), (0, .class_ 132), (0, u "jdk/internal/util/Preconditions$3"), (3, u "IOOBE_FORMATTER"), (41, u "(IILjava/util/function/BiFunction;)I")] 15

def k5m0 : Method := { name := "<init>", desc := "()V", sig := { parameters := [], returnType := none }, accessFlags := 1, code := none }
def k5c1 : Code := { maxStack := 3, maxLocals := 3, code := jdk_41_method_11_code, exceptionTable := #[], attributes := #[] }
def k5m1 : Method := { name := "checkIndex", desc := "(IILjava/util/function/BiFunction;)I", sig := { parameters := [.int, .int, (.object "java/util/function/BiFunction")], returnType := some .int }, accessFlags := 9, code := some k5c1 }
/-- jdk/internal/util/Preconditions -/
def k5 : Class := { plain "jdk/internal/util/Preconditions" (some 0) with
  accessFlags := 33
  interfaces := #[]
  cf := some (fileOf pool5 24 #[.nestMembers #[55, 131, 125, 114]] #[{ accessFlags := 1, nameIndex := 5, descriptorIndex := 6, attributes := #[] }, { accessFlags := 9, nameIndex := 33, descriptorIndex := 178, attributes := #[] }] 33 2 #[] #[{ accessFlags := 25, nameIndex := 123, descriptorIndex := 124, attributes := #[] }, { accessFlags := 25, nameIndex := 130, descriptorIndex := 124, attributes := #[] }, { accessFlags := 25, nameIndex := 136, descriptorIndex := 124, attributes := #[] }])
  fields := #[{ name := "SIOOBE_FORMATTER", type := (.object "java/util/function/BiFunction"), accessFlags := 25, slot := 0, constantValue := 0 }, { name := "AIOOBE_FORMATTER", type := (.object "java/util/function/BiFunction"), accessFlags := 25, slot := 1, constantValue := 0 }, { name := "IOOBE_FORMATTER", type := (.object "java/util/function/BiFunction"), accessFlags := 25, slot := 2, constantValue := 0 }]
  methods := #[k5m0, k5m1]
  instanceTypes := #[]
  staticTypes := #[(.object "java/util/function/BiFunction"), (.object "java/util/function/BiFunction"), (.object "java/util/function/BiFunction")]
  resolved := Array.replicate 194 none
  statics := none }

def pool6 : Array CpInfo := pool [(1, .class_ 2), (0, u "java/lang/Math"), (1, .class_ 6), (1, u "java/lang/Object"), (0, u "<init>"), (0, u "()V"), (89, .class_ 100), (1, u "java/lang/Math$RandomNumberGeneratorHolder"), (20, u "(JJ)J"), (50, u "negativeZeroFloatBits"), (0, u "J"), (2, u "negativeZeroDoubleBits"), (21, u "max"), (2, u "min"), (43, u "$assertionsDisabled"), (0, u "Z"), (88, u "(II)I"), (2, u "twoToTheDoubleScaleDown"), (0, u "D"), (4, u "twoToTheDoubleScaleUp"), (9, u "E"), (3, u "PI"), (2, u "TAU"), (2, u "DEGREES_TO_RADIANS"), (0, u "RADIANS_TO_DEGREES")] 94

def k6m0 : Method := { name := "<init>", desc := "()V", sig := { parameters := [], returnType := none }, accessFlags := 2, code := none }
def k6c1 : Code := { maxStack := 4, maxLocals := 4, code := jdk_29_method_66_code, exceptionTable := #[], attributes := #[] }
def k6m1 : Method := { name := "max", desc := "(JJ)J", sig := { parameters := [.long, .long], returnType := some .long }, accessFlags := 9, code := some k6c1 }
def k6c2 : Code := { maxStack := 2, maxLocals := 2, code := jdk_29_method_69_code, exceptionTable := #[], attributes := #[] }
def k6m2 : Method := { name := "min", desc := "(II)I", sig := { parameters := [.int, .int], returnType := some .int }, accessFlags := 9, code := some k6c2 }
def k6c3 : Code := { maxStack := 4, maxLocals := 4, code := jdk_29_method_70_code, exceptionTable := #[], attributes := #[] }
def k6m3 : Method := { name := "min", desc := "(JJ)J", sig := { parameters := [.long, .long], returnType := some .long }, accessFlags := 9, code := some k6c3 }
/-- java/lang/Math -/
def k6 : Class := { plain "java/lang/Math" (some 0) with
  accessFlags := 49
  interfaces := #[]
  cf := some (fileOf pool6 1 #[.nestMembers #[98]] #[{ accessFlags := 2, nameIndex := 7, descriptorIndex := 8, attributes := #[] }, { accessFlags := 9, nameIndex := 198, descriptorIndex := 121, attributes := #[] }, { accessFlags := 9, nameIndex := 201, descriptorIndex := 335, attributes := #[] }, { accessFlags := 9, nameIndex := 201, descriptorIndex := 121, attributes := #[] }] 49 4 #[] #[{ accessFlags := 25, nameIndex := 354, descriptorIndex := 339, attributes := #[] }, { accessFlags := 25, nameIndex := 358, descriptorIndex := 339, attributes := #[] }, { accessFlags := 25, nameIndex := 361, descriptorIndex := 339, attributes := #[] }, { accessFlags := 26, nameIndex := 364, descriptorIndex := 339, attributes := #[] }, { accessFlags := 26, nameIndex := 365, descriptorIndex := 339, attributes := #[] }, { accessFlags := 26, nameIndex := 172, descriptorIndex := 173, attributes := #[] }, { accessFlags := 26, nameIndex := 176, descriptorIndex := 173, attributes := #[] }, { accessFlags := 8, nameIndex := 344, descriptorIndex := 339, attributes := #[] }, { accessFlags := 8, nameIndex := 338, descriptorIndex := 339, attributes := #[] }, { accessFlags := 4120, nameIndex := 245, descriptorIndex := 246, attributes := #[] }])
  fields := #[{ name := "E", type := .double, accessFlags := 25, slot := 0, constantValue := 0 }, { name := "PI", type := .double, accessFlags := 25, slot := 1, constantValue := 0 }, { name := "TAU", type := .double, accessFlags := 25, slot := 2, constantValue := 0 }, { name := "DEGREES_TO_RADIANS", type := .double, accessFlags := 26, slot := 3, constantValue := 0 }, { name := "RADIANS_TO_DEGREES", type := .double, accessFlags := 26, slot := 4, constantValue := 0 }, { name := "negativeZeroFloatBits", type := .long, accessFlags := 26, slot := 5, constantValue := 0 }, { name := "negativeZeroDoubleBits", type := .long, accessFlags := 26, slot := 6, constantValue := 0 }, { name := "twoToTheDoubleScaleUp", type := .double, accessFlags := 8, slot := 7, constantValue := 0 }, { name := "twoToTheDoubleScaleDown", type := .double, accessFlags := 8, slot := 8, constantValue := 0 }, { name := "$assertionsDisabled", type := .boolean, accessFlags := 4120, slot := 9, constantValue := 0 }]
  methods := #[k6m0, k6m1, k6m2, k6m3]
  instanceTypes := #[]
  staticTypes := #[.double, .double, .double, .double, .double, .long, .long, .double, .double, .boolean]
  resolved := Array.replicate 460 none
  statics := none }

def pool7 : Array CpInfo := pool [(2, .class_ 4), (1, u "java/lang/Object"), (0, u "<init>"), (0, u "()V"), (1, .class_ 10), (1, u "java/lang/System"), (0, u "allowSecurityManager"), (0, u "I"), (16, u "cons"), (0, u "Ljava/io/Console;"), (77, .class_ 110), (1, u "java/lang/System$CallersHolder"), (43, u "initialErrStream"), (0, u "Ljava/io/PrintStream;"), (19, u "security"), (0, u "Ljava/lang/SecurityManager;"), (31, .class_ 209), (0, u "java/lang/System$1"), (7, u "props"), (0, u "Ljava/util/Properties;"), (2, u "lineSeparator"), (0, u "Ljava/lang/String;"), (96, .class_ 321), (1, u "java/lang/System$LoggerFinder"), (5, .class_ 328), (0, u "java/lang/System$Logger"), (67, u "err"), (2, u "out"), (91, u "notSupportedJnuEncoding"), (15, u "in"), (17, u "initialIn"), (0, u "Ljava/io/InputStream;"), (35, u "bootLayer"), (0, u "Ljava/lang/ModuleLayer;"), (99, .class_ 664), (0, u "java/lang/System$2"), (9, u "NEVER"), (2, u "MAYBE"), (49, u "arraycopy"), (0, u "(Ljava/lang/Object;ILjava/lang/Object;II)V"), (72, .class_ 802), (0, u "java/lang/System$Logger$Level")] 31

def k7m0 : Method := { name := "<init>", desc := "()V", sig := { parameters := [], returnType := none }, accessFlags := 2, code := none }
def k7m1 : Method := { name := "arraycopy", desc := "(Ljava/lang/Object;ILjava/lang/Object;II)V", sig := { parameters := [(.object "java/lang/Object"), .int, (.object "java/lang/Object"), .int, .int], returnType := none }, accessFlags := 265, code := none }
/-- java/lang/System -/
def k7 : Class := { plain "java/lang/System" (some 0) with
  accessFlags := 49
  interfaces := #[]
  cf := some (fileOf pool7 8 #[.nestMembers #[319, 327, 801, 108, 663, 208]] #[{ accessFlags := 2, nameIndex := 5, descriptorIndex := 6, attributes := #[] }, { accessFlags := 265, nameIndex := 727, descriptorIndex := 728, attributes := #[] }] 49 2 #[] #[{ accessFlags := 25, nameIndex := 507, descriptorIndex := 526, attributes := #[] }, { accessFlags := 25, nameIndex := 399, descriptorIndex := 155, attributes := #[] }, { accessFlags := 25, nameIndex := 396, descriptorIndex := 155, attributes := #[] }, { accessFlags := 10, nameIndex := 525, descriptorIndex := 526, attributes := #[] }, { accessFlags := 26, nameIndex := 674, descriptorIndex := 12, attributes := #[] }, { accessFlags := 26, nameIndex := 677, descriptorIndex := 12, attributes := #[] }, { accessFlags := 10, nameIndex := 11, descriptorIndex := 12, attributes := #[] }, { accessFlags := 74, nameIndex := 175, descriptorIndex := 176, attributes := #[] }, { accessFlags := 10, nameIndex := 491, descriptorIndex := 222, attributes := #[] }, { accessFlags := 74, nameIndex := 29, descriptorIndex := 30, attributes := #[] }, { accessFlags := 74, nameIndex := 154, descriptorIndex := 155, attributes := #[] }, { accessFlags := 10, nameIndex := 217, descriptorIndex := 218, attributes := #[] }, { accessFlags := 10, nameIndex := 221, descriptorIndex := 222, attributes := #[] }, { accessFlags := 8, nameIndex := 562, descriptorIndex := 563, attributes := #[] }])
  fields := #[{ name := "in", type := (.object "java/io/InputStream"), accessFlags := 25, slot := 0, constantValue := 0 }, { name := "out", type := (.object "java/io/PrintStream"), accessFlags := 25, slot := 1, constantValue := 0 }, { name := "err", type := (.object "java/io/PrintStream"), accessFlags := 25, slot := 2, constantValue := 0 }, { name := "initialIn", type := (.object "java/io/InputStream"), accessFlags := 10, slot := 3, constantValue := 0 }, { name := "NEVER", type := .int, accessFlags := 26, slot := 4, constantValue := 0 }, { name := "MAYBE", type := .int, accessFlags := 26, slot := 5, constantValue := 0 }, { name := "allowSecurityManager", type := .int, accessFlags := 10, slot := 6, constantValue := 0 }, { name := "security", type := (.object "java/lang/SecurityManager"), accessFlags := 74, slot := 7, constantValue := 0 }, { name := "notSupportedJnuEncoding", type := (.object "java/lang/String"), accessFlags := 10, slot := 8, constantValue := 0 }, { name := "cons", type := (.object "java/io/Console"), accessFlags := 74, slot := 9, constantValue := 0 }, { name := "initialErrStream", type := (.object "java/io/PrintStream"), accessFlags := 74, slot := 10, constantValue := 0 }, { name := "props", type := (.object "java/util/Properties"), accessFlags := 10, slot := 11, constantValue := 0 }, { name := "lineSeparator", type := (.object "java/lang/String"), accessFlags := 10, slot := 12, constantValue := 0 }, { name := "bootLayer", type := (.object "java/lang/ModuleLayer"), accessFlags := 8, slot := 13, constantValue := 0 }]
  methods := #[k7m0, k7m1]
  instanceTypes := #[]
  staticTypes := #[(.object "java/io/InputStream"), (.object "java/io/PrintStream"), (.object "java/io/PrintStream"), (.object "java/io/InputStream"), .int, .int, .int, (.object "java/lang/SecurityManager"), (.object "java/lang/String"), (.object "java/io/Console"), (.object "java/io/PrintStream"), (.object "java/util/Properties"), (.object "java/lang/String"), (.object "java/lang/ModuleLayer")]
  resolved := Array.replicate 834 none
  statics := none }

def pool8 : Array CpInfo := pool [(1, u "java/lang/Cloneable"), (0, .class_ 1), (0, u "java/lang/Object"), (0, .class_ 3)] 3

/-- java/lang/Cloneable -/
def k8 : Class := { plain "java/lang/Cloneable" (some 0) with
  accessFlags := 1537
  interfaces := #[]
  cf := some (fileOf pool8 2 #[] #[] 1537 4 #[] #[])
  fields := #[]
  methods := #[]
  instanceTypes := #[]
  staticTypes := #[]
  resolved := Array.replicate 8 none
  statics := none }

def pool9 : Array CpInfo := pool [(1, u "java/io/Serializable"), (0, .class_ 1), (0, u "java/lang/Object"), (0, .class_ 3)] 3

/-- java/io/Serializable -/
def k9 : Class := { plain "java/io/Serializable" (some 0) with
  accessFlags := 1537
  interfaces := #[]
  cf := some (fileOf pool9 2 #[] #[] 1537 4 #[] #[])
  fields := #[]
  methods := #[]
  instanceTypes := #[]
  staticTypes := #[]
  resolved := Array.replicate 8 none
  statics := none }

/-- the primitive boolean -/
def k10 : Class := { plain "boolean" none with kind := .primitive 'Z', accessFlags := 0x411 }
/-- [Z -/
def k11 : Class := { plain "[Z" (some 0) with kind := .array 10 .boolean, interfaces := #[8, 9], accessFlags := 1041 }

/-- the primitive byte -/
def k12 : Class := { plain "byte" none with kind := .primitive 'B', accessFlags := 0x411 }
/-- [B -/
def k13 : Class := { plain "[B" (some 0) with kind := .array 12 .byte, interfaces := #[8, 9], accessFlags := 1041 }

/-- the primitive int -/
def k14 : Class := { plain "int" none with kind := .primitive 'I', accessFlags := 0x411 }
/-- [I -/
def k15 : Class := { plain "[I" (some 0) with kind := .array 14 .int, interfaces := #[8, 9], accessFlags := 1041 }

/-- [[Z -/
def k16 : Class := { plain "[[Z" (some 0) with kind := .array 11 (.array .boolean), interfaces := #[8, 9], accessFlags := 1041 }
/-- [[I -/
def k17 : Class := { plain "[[I" (some 0) with kind := .array 15 (.array .int), interfaces := #[8, 9], accessFlags := 1041 }
def heap : Heap := #[{ cls := 2, slots := #[.ref 1, .int 0, .int 0], vm := .statics 2 },
  { cls := 15, slots := #[], vm := .none }]
def classes : Array Class := #[k0, k1, k2, k3, k4, k5, k6, k7, k8, k9, k10, k11, k12, k13, k14, k15, k16, k17]
def interned : List (Array UInt16 × Addr) := []
def slotsUsed : Nat := 3
def theMethod : MethodId := ⟨1, 1⟩
def args0 : Array Value := #[.int 65536, .int 65792, .int 65537, .int 0, .int 7, .int 2]
def aboutOver (below : List Frame) : State where
  vm := { classes := classes, interned := interned.toArray }
  heap := heap
  slotsUsed := slotsUsed
  threads := #[{ frames := .invoking theMethod args0 :: below }]
def below0 : List Frame := [.native { method := ⟨0, 0⟩, args := #[] }]
def about1 : State := aboutOver below0
def p0 : Program := .bare "" "" ""
def e0 : Env := launch0.env 0 0 0
theorem w_frames : about1.frames = Frame.invoking theMethod args0 :: below0 := rfl
set_option maxRecDepth 65536 in
theorem w_args : argsFit about1.vm theMethod args0 = true := by decide +kernel
set_option maxRecDepth 65536 in
theorem w_heap : heapFits about1 = true := by decide +kernel
set_option maxRecDepth 65536 in
theorem w_runnable : about1.curStatus? = some .runnable := by decide +kernel
set_option maxRecDepth 65536 in
theorem w_alone : about1.alone = true := by decide +kernel
set_option maxRecDepth 65536 in
theorem w_named : about1.methodNamed? x = some theMethod := by decide +kernel
set_option maxRecDepth 65536 in
theorem w_hears : about1.hears theMethod below0 = true := by decide +kernel
set_option maxRecDepth 65536 in
theorem w_ripe : about1.ripe theMethod args0 below0 = true := by decide +kernel
theorem w_running : about1.status = .running := rfl
set_option maxRecDepth 65536 in
theorem w_room : about1.hasRoom e0.platform room_1 = true :=
  launch0.hasRoom_least _ room_1 (by decide +kernel) (by decide +kernel) (by decide +kernel) (by decide +kernel) (by decide +kernel) (by decide +kernel)
theorem allAtoms_all (ts : List Jvm.Cond) (a : Array Jvm.Value) (st : Jvm.State) : (allAtoms ts).before a st = ts.all (fun c => c.before a st) := by
  induction ts with
  | nil => rfl
  | cons c t ih =>
    show (Jvm.Cond.and c (allAtoms t)).before a st = _
    rw [Jvm.Cond.before_and, ih, List.all_cons]
def words1 : List Jvm.Cond := Jvm.Cond.code x code maxLocals ret :: tables_1
/-- a 'code' word, met by the world's own term for the bytes: nothing is compared byte by byte -/
theorem code_word {y : MethodName} {bytes : ByteArray} {mx : Nat} {rt : Option FieldType} {a : Array Value} {s : State} {m : MethodId} {meth : Method} {c : Code} (h1 : s.methodNamed? y = some m) (h2 : s.vm.method? m = some meth) (h3 : meth.code = some c) (h4 : c.code = bytes)
    (h5 : (c.maxLocals == mx && c.exceptionTable.isEmpty && decide (c.maxStack ≤ mostOperands) && decide (meth.sig.returnType = rt) && !meth.locks && decide (parseMethodDescriptor y.desc = some meth.sig)) = true) : (Jvm.Cond.code y bytes mx rt).before a s = true := by
  simp only [Bool.and_eq_true, beq_iff_eq, Bool.not_eq_true', decide_eq_true_eq] at h5
  obtain ⟨⟨⟨⟨⟨g1, g2⟩, g3⟩, g4⟩, g5⟩, g6⟩ := h5
  simp [Cond.before, Cond.holds, Cond.value, h1, h2, h3, h4, g1, g2, g3, g4, g5, g6]
def isCode : Jvm.Cond → Bool
  | .code _ _ _ _ => true
  | _ => false
theorem all_split {L : List Jvm.Cond} {P : Jvm.Cond → Bool} (h1 : L.all (fun c => isCode c || P c) = true) (h2 : ∀ c ∈ L.filter isCode, P c = true) : L.all P = true := by
  refine List.all_eq_true.mpr fun c hc => ?_
  have h := List.all_eq_true.mp h1 c hc
  rcases Bool.eq_false_or_eq_true (isCode c) with hi | hi
  · exact h2 c (List.mem_filter.mpr ⟨hc, hi⟩)
  · simpa [hi] using h
set_option maxRecDepth 65536 in
theorem w_c0 : (Jvm.Cond.code x code maxLocals ret).before args0 about1 = true := code_word (m := ⟨1, 1⟩) (meth := k1m1) (c := k1c1) (by decide +kernel) rfl rfl rfl (by decide +kernel)
set_option maxRecDepth 65536 in
theorem w_c1 : (Jvm.Cond.code ({ cls := "com/example/fast_taxonomy/fasttaxonomy/taxonomy/Relation", name := "<init>", desc := "(I)V" } : Jvm.MethodName) prog_24_method_1_code (2 : Nat) (Option.none : Option Jvm.ClassFile.FieldType)).before args0 about1 = true := code_word (m := ⟨2, 0⟩) (meth := k2m0) (c := k2c0) (by decide +kernel) rfl rfl rfl (by decide +kernel)
set_option maxRecDepth 65536 in
theorem w_c2 : (Jvm.Cond.code ({ cls := "java/lang/Object", name := "<init>", desc := "()V" } : Jvm.MethodName) object_method_1_code (1 : Nat) (Option.none : Option Jvm.ClassFile.FieldType)).before args0 about1 = true := code_word (m := ⟨0, 0⟩) (meth := k0m0) (c := k0c0) (by decide +kernel) rfl rfl rfl (by decide +kernel)
set_option maxRecDepth 65536 in
theorem w_c3 : (Jvm.Cond.code ({ cls := "java/util/Arrays", name := "fill", desc := "([Ljava/lang/Object;Ljava/lang/Object;)V" } : Jvm.MethodName) jdk_65_method_117_code (4 : Nat) (Option.none : Option Jvm.ClassFile.FieldType)).before args0 about1 = true := code_word (m := ⟨3, 4⟩) (meth := k3m4) (c := k3c4) (by decide +kernel) rfl rfl rfl (by decide +kernel)
set_option maxRecDepth 65536 in
theorem w_c4 : (Jvm.Cond.code ({ cls := "com/example/fast_taxonomy/fasttaxonomy/taxonomy/RelationTopologicalOrderPinLaw", name := "addEdge", desc := "(Lcom/example/fast_taxonomy/fasttaxonomy/taxonomy/Relation;[[ZII)V" } : Jvm.MethodName) method_3_code (6 : Nat) (Option.none : Option Jvm.ClassFile.FieldType)).before args0 about1 = true := code_word (m := ⟨1, 2⟩) (meth := k1m2) (c := k1c2) (by decide +kernel) rfl rfl rfl (by decide +kernel)
set_option maxRecDepth 65536 in
theorem w_c5 : (Jvm.Cond.code ({ cls := "com/example/fast_taxonomy/fasttaxonomy/taxonomy/Relation", name := "topologicalOrder", desc := "()[I" } : Jvm.MethodName) prog_24_method_13_code (8 : Nat) (Option.some (Jvm.ClassFile.FieldType.array Jvm.ClassFile.FieldType.int))).before args0 about1 = true := code_word (m := ⟨2, 2⟩) (meth := k2m2) (c := k2c2) (by decide +kernel) rfl rfl rfl (by decide +kernel)
set_option maxRecDepth 65536 in
theorem w_c6 : (Jvm.Cond.code ({ cls := "com/example/fast_taxonomy/fasttaxonomy/taxonomy/RelationTopologicalOrderPinLaw", name := "pos", desc := "([II)I" } : Jvm.MethodName) method_4_code (2 : Nat) (Option.some Jvm.ClassFile.FieldType.int)).before args0 about1 = true := code_word (m := ⟨1, 3⟩) (meth := k1m3) (c := k1c3) (by decide +kernel) rfl rfl rfl (by decide +kernel)
set_option maxRecDepth 65536 in
theorem w_c7 : (Jvm.Cond.code ({ cls := "com/example/fast_taxonomy/fasttaxonomy/taxonomy/RelationTopologicalOrderPinLaw", name := "pairOk", desc := "([[Z[IIII)Z" } : Jvm.MethodName) method_10_code (9 : Nat) (Option.some Jvm.ClassFile.FieldType.boolean)).before args0 about1 = true := code_word (m := ⟨1, 9⟩) (meth := k1m9) (c := k1c9) (by decide +kernel) rfl rfl rfl (by decide +kernel)
set_option maxRecDepth 65536 in
theorem w_c8 : (Jvm.Cond.code ({ cls := "com/example/fast_taxonomy/fasttaxonomy/taxonomy/RelationTopologicalOrderPinLaw", name := "inB", desc := "([[ZI)Z" } : Jvm.MethodName) method_9_code (2 : Nat) (Option.some Jvm.ClassFile.FieldType.boolean)).before args0 about1 = true := code_word (m := ⟨1, 8⟩) (meth := k1m8) (c := k1c8) (by decide +kernel) rfl rfl rfl (by decide +kernel)
set_option maxRecDepth 65536 in
theorem w_c9 : (Jvm.Cond.code ({ cls := "com/example/fast_taxonomy/fasttaxonomy/taxonomy/RelationTopologicalOrderPinLaw", name := "fromCycle", desc := "([[ZII)Z" } : Jvm.MethodName) method_8_code (3 : Nat) (Option.some Jvm.ClassFile.FieldType.boolean)).before args0 about1 = true := code_word (m := ⟨1, 7⟩) (meth := k1m7) (c := k1c7) (by decide +kernel) rfl rfl rfl (by decide +kernel)
set_option maxRecDepth 65536 in
theorem w_c10 : (Jvm.Cond.code ({ cls := "com/example/fast_taxonomy/fasttaxonomy/taxonomy/RelationTopologicalOrderPinLaw", name := "reach1", desc := "([[ZII)Z" } : Jvm.MethodName) method_7_code (3 : Nat) (Option.some Jvm.ClassFile.FieldType.boolean)).before args0 about1 = true := code_word (m := ⟨1, 6⟩) (meth := k1m6) (c := k1c6) (by decide +kernel) rfl rfl rfl (by decide +kernel)
set_option maxRecDepth 65536 in
theorem w_c11 : (Jvm.Cond.code ({ cls := "com/example/fast_taxonomy/fasttaxonomy/taxonomy/RelationTopologicalOrderPinLaw", name := "path2", desc := "([[ZII)Z" } : Jvm.MethodName) method_5_code (3 : Nat) (Option.some Jvm.ClassFile.FieldType.boolean)).before args0 about1 = true := code_word (m := ⟨1, 4⟩) (meth := k1m4) (c := k1c4) (by decide +kernel) rfl rfl rfl (by decide +kernel)
set_option maxRecDepth 65536 in
theorem w_c12 : (Jvm.Cond.code ({ cls := "com/example/fast_taxonomy/fasttaxonomy/taxonomy/RelationTopologicalOrderPinLaw", name := "path3", desc := "([[ZII)Z" } : Jvm.MethodName) method_6_code (3 : Nat) (Option.some Jvm.ClassFile.FieldType.boolean)).before args0 about1 = true := code_word (m := ⟨1, 5⟩) (meth := k1m5) (c := k1c5) (by decide +kernel) rfl rfl rfl (by decide +kernel)
set_option maxRecDepth 65536 in
theorem w_c13 : (Jvm.Cond.code ({ cls := "com/example/fast_taxonomy/fasttaxonomy/taxonomy/Relation", name := "add", desc := "(II)Z" } : Jvm.MethodName) prog_24_method_4_code (9 : Nat) (Option.some Jvm.ClassFile.FieldType.boolean)).before args0 about1 = true := code_word (m := ⟨2, 1⟩) (meth := k2m1) (c := k2c1) (by decide +kernel) rfl rfl rfl (by decide +kernel)
set_option maxRecDepth 65536 in
theorem w_c14 : (Jvm.Cond.code ({ cls := "com/example/fast_taxonomy/fasttaxonomy/taxonomy/Relation", name := "search", desc := "(II)I" } : Jvm.MethodName) prog_24_method_16_code (3 : Nat) (Option.some Jvm.ClassFile.FieldType.int)).before args0 about1 = true := code_word (m := ⟨2, 3⟩) (meth := k2m3) (c := k2c3) (by decide +kernel) rfl rfl rfl (by decide +kernel)
set_option maxRecDepth 65536 in
theorem w_c15 : (Jvm.Cond.code ({ cls := "com/example/fast_taxonomy/fasttaxonomy/taxonomy/Relation", name := "checkElement", desc := "(I)V" } : Jvm.MethodName) prog_24_method_17_code (2 : Nat) (Option.none : Option Jvm.ClassFile.FieldType)).before args0 about1 = true := code_word (m := ⟨2, 4⟩) (meth := k2m4) (c := k2c4) (by decide +kernel) rfl rfl rfl (by decide +kernel)
set_option maxRecDepth 65536 in
theorem w_c16 : (Jvm.Cond.code ({ cls := "java/util/Objects", name := "checkIndex", desc := "(II)I" } : Jvm.MethodName) jdk_31_method_17_code (2 : Nat) (Option.some Jvm.ClassFile.FieldType.int)).before args0 about1 = true := code_word (m := ⟨4, 1⟩) (meth := k4m1) (c := k4c1) (by decide +kernel) rfl rfl rfl (by decide +kernel)
set_option maxRecDepth 65536 in
theorem w_c17 : (Jvm.Cond.code ({ cls := "jdk/internal/util/Preconditions", name := "checkIndex", desc := "(IILjava/util/function/BiFunction;)I" } : Jvm.MethodName) jdk_41_method_11_code (3 : Nat) (Option.some Jvm.ClassFile.FieldType.int)).before args0 about1 = true := code_word (m := ⟨5, 1⟩) (meth := k5m1) (c := k5c1) (by decide +kernel) rfl rfl rfl (by decide +kernel)
set_option maxRecDepth 65536 in
theorem w_c18 : (Jvm.Cond.code ({ cls := "java/util/Arrays", name := "binarySearch", desc := "([IIII)I" } : Jvm.MethodName) jdk_65_method_58_code (4 : Nat) (Option.some Jvm.ClassFile.FieldType.int)).before args0 about1 = true := code_word (m := ⟨3, 2⟩) (meth := k3m2) (c := k3c2) (by decide +kernel) rfl rfl rfl (by decide +kernel)
set_option maxRecDepth 65536 in
theorem w_c19 : (Jvm.Cond.code ({ cls := "java/util/Arrays", name := "rangeCheck", desc := "(III)V" } : Jvm.MethodName) jdk_65_method_30_code (3 : Nat) (Option.none : Option Jvm.ClassFile.FieldType)).before args0 about1 = true := code_word (m := ⟨3, 1⟩) (meth := k3m1) (c := k3c1) (by decide +kernel) rfl rfl rfl (by decide +kernel)
set_option maxRecDepth 65536 in
theorem w_c20 : (Jvm.Cond.code ({ cls := "java/util/Arrays", name := "binarySearch0", desc := "([IIII)I" } : Jvm.MethodName) jdk_65_method_59_code (8 : Nat) (Option.some Jvm.ClassFile.FieldType.int)).before args0 about1 = true := code_word (m := ⟨3, 3⟩) (meth := k3m3) (c := k3c3) (by decide +kernel) rfl rfl rfl (by decide +kernel)
set_option maxRecDepth 65536 in
theorem w_c21 : (Jvm.Cond.code ({ cls := "java/lang/Math", name := "max", desc := "(JJ)J" } : Jvm.MethodName) jdk_29_method_66_code (4 : Nat) (Option.some Jvm.ClassFile.FieldType.long)).before args0 about1 = true := code_word (m := ⟨6, 1⟩) (meth := k6m1) (c := k6c1) (by decide +kernel) rfl rfl rfl (by decide +kernel)
set_option maxRecDepth 65536 in
theorem w_c22 : (Jvm.Cond.code ({ cls := "java/lang/Math", name := "min", desc := "(JJ)J" } : Jvm.MethodName) jdk_29_method_70_code (4 : Nat) (Option.some Jvm.ClassFile.FieldType.long)).before args0 about1 = true := code_word (m := ⟨6, 3⟩) (meth := k6m3) (c := k6c3) (by decide +kernel) rfl rfl rfl (by decide +kernel)
set_option maxRecDepth 65536 in
theorem w_c23 : (Jvm.Cond.code ({ cls := "java/util/Arrays", name := "copyOf", desc := "([II)[I" } : Jvm.MethodName) jdk_65_method_123_code (3 : Nat) (Option.some (Jvm.ClassFile.FieldType.array Jvm.ClassFile.FieldType.int))).before args0 about1 = true := code_word (m := ⟨3, 5⟩) (meth := k3m5) (c := k3c5) (by decide +kernel) rfl rfl rfl (by decide +kernel)
set_option maxRecDepth 65536 in
theorem w_c24 : (Jvm.Cond.code ({ cls := "java/lang/Math", name := "min", desc := "(II)I" } : Jvm.MethodName) jdk_29_method_69_code (2 : Nat) (Option.some Jvm.ClassFile.FieldType.int)).before args0 about1 = true := code_word (m := ⟨6, 2⟩) (meth := k6m2) (c := k6c2) (by decide +kernel) rfl rfl rfl (by decide +kernel)
def codes1 : List Jvm.Cond := [Jvm.Cond.code x code maxLocals ret, Jvm.Cond.code ({ cls := "com/example/fast_taxonomy/fasttaxonomy/taxonomy/Relation", name := "<init>", desc := "(I)V" } : Jvm.MethodName) prog_24_method_1_code (2 : Nat) (Option.none : Option Jvm.ClassFile.FieldType), Jvm.Cond.code ({ cls := "java/lang/Object", name := "<init>", desc := "()V" } : Jvm.MethodName) object_method_1_code (1 : Nat) (Option.none : Option Jvm.ClassFile.FieldType), Jvm.Cond.code ({ cls := "java/util/Arrays", name := "fill", desc := "([Ljava/lang/Object;Ljava/lang/Object;)V" } : Jvm.MethodName) jdk_65_method_117_code (4 : Nat) (Option.none : Option Jvm.ClassFile.FieldType), Jvm.Cond.code ({ cls := "com/example/fast_taxonomy/fasttaxonomy/taxonomy/RelationTopologicalOrderPinLaw", name := "addEdge", desc := "(Lcom/example/fast_taxonomy/fasttaxonomy/taxonomy/Relation;[[ZII)V" } : Jvm.MethodName) method_3_code (6 : Nat) (Option.none : Option Jvm.ClassFile.FieldType), Jvm.Cond.code ({ cls := "com/example/fast_taxonomy/fasttaxonomy/taxonomy/Relation", name := "topologicalOrder", desc := "()[I" } : Jvm.MethodName) prog_24_method_13_code (8 : Nat) (Option.some (Jvm.ClassFile.FieldType.array Jvm.ClassFile.FieldType.int)), Jvm.Cond.code ({ cls := "com/example/fast_taxonomy/fasttaxonomy/taxonomy/RelationTopologicalOrderPinLaw", name := "pos", desc := "([II)I" } : Jvm.MethodName) method_4_code (2 : Nat) (Option.some Jvm.ClassFile.FieldType.int), Jvm.Cond.code ({ cls := "com/example/fast_taxonomy/fasttaxonomy/taxonomy/RelationTopologicalOrderPinLaw", name := "pairOk", desc := "([[Z[IIII)Z" } : Jvm.MethodName) method_10_code (9 : Nat) (Option.some Jvm.ClassFile.FieldType.boolean), Jvm.Cond.code ({ cls := "com/example/fast_taxonomy/fasttaxonomy/taxonomy/RelationTopologicalOrderPinLaw", name := "inB", desc := "([[ZI)Z" } : Jvm.MethodName) method_9_code (2 : Nat) (Option.some Jvm.ClassFile.FieldType.boolean), Jvm.Cond.code ({ cls := "com/example/fast_taxonomy/fasttaxonomy/taxonomy/RelationTopologicalOrderPinLaw", name := "fromCycle", desc := "([[ZII)Z" } : Jvm.MethodName) method_8_code (3 : Nat) (Option.some Jvm.ClassFile.FieldType.boolean), Jvm.Cond.code ({ cls := "com/example/fast_taxonomy/fasttaxonomy/taxonomy/RelationTopologicalOrderPinLaw", name := "reach1", desc := "([[ZII)Z" } : Jvm.MethodName) method_7_code (3 : Nat) (Option.some Jvm.ClassFile.FieldType.boolean), Jvm.Cond.code ({ cls := "com/example/fast_taxonomy/fasttaxonomy/taxonomy/RelationTopologicalOrderPinLaw", name := "path2", desc := "([[ZII)Z" } : Jvm.MethodName) method_5_code (3 : Nat) (Option.some Jvm.ClassFile.FieldType.boolean), Jvm.Cond.code ({ cls := "com/example/fast_taxonomy/fasttaxonomy/taxonomy/RelationTopologicalOrderPinLaw", name := "path3", desc := "([[ZII)Z" } : Jvm.MethodName) method_6_code (3 : Nat) (Option.some Jvm.ClassFile.FieldType.boolean), Jvm.Cond.code ({ cls := "com/example/fast_taxonomy/fasttaxonomy/taxonomy/Relation", name := "add", desc := "(II)Z" } : Jvm.MethodName) prog_24_method_4_code (9 : Nat) (Option.some Jvm.ClassFile.FieldType.boolean), Jvm.Cond.code ({ cls := "com/example/fast_taxonomy/fasttaxonomy/taxonomy/Relation", name := "search", desc := "(II)I" } : Jvm.MethodName) prog_24_method_16_code (3 : Nat) (Option.some Jvm.ClassFile.FieldType.int), Jvm.Cond.code ({ cls := "com/example/fast_taxonomy/fasttaxonomy/taxonomy/Relation", name := "checkElement", desc := "(I)V" } : Jvm.MethodName) prog_24_method_17_code (2 : Nat) (Option.none : Option Jvm.ClassFile.FieldType), Jvm.Cond.code ({ cls := "java/util/Objects", name := "checkIndex", desc := "(II)I" } : Jvm.MethodName) jdk_31_method_17_code (2 : Nat) (Option.some Jvm.ClassFile.FieldType.int), Jvm.Cond.code ({ cls := "jdk/internal/util/Preconditions", name := "checkIndex", desc := "(IILjava/util/function/BiFunction;)I" } : Jvm.MethodName) jdk_41_method_11_code (3 : Nat) (Option.some Jvm.ClassFile.FieldType.int), Jvm.Cond.code ({ cls := "java/util/Arrays", name := "binarySearch", desc := "([IIII)I" } : Jvm.MethodName) jdk_65_method_58_code (4 : Nat) (Option.some Jvm.ClassFile.FieldType.int), Jvm.Cond.code ({ cls := "java/util/Arrays", name := "rangeCheck", desc := "(III)V" } : Jvm.MethodName) jdk_65_method_30_code (3 : Nat) (Option.none : Option Jvm.ClassFile.FieldType), Jvm.Cond.code ({ cls := "java/util/Arrays", name := "binarySearch0", desc := "([IIII)I" } : Jvm.MethodName) jdk_65_method_59_code (8 : Nat) (Option.some Jvm.ClassFile.FieldType.int), Jvm.Cond.code ({ cls := "java/lang/Math", name := "max", desc := "(JJ)J" } : Jvm.MethodName) jdk_29_method_66_code (4 : Nat) (Option.some Jvm.ClassFile.FieldType.long), Jvm.Cond.code ({ cls := "java/lang/Math", name := "min", desc := "(JJ)J" } : Jvm.MethodName) jdk_29_method_70_code (4 : Nat) (Option.some Jvm.ClassFile.FieldType.long), Jvm.Cond.code ({ cls := "java/util/Arrays", name := "copyOf", desc := "([II)[I" } : Jvm.MethodName) jdk_65_method_123_code (3 : Nat) (Option.some (Jvm.ClassFile.FieldType.array Jvm.ClassFile.FieldType.int)), Jvm.Cond.code ({ cls := "java/lang/Math", name := "min", desc := "(II)I" } : Jvm.MethodName) jdk_29_method_69_code (2 : Nat) (Option.some Jvm.ClassFile.FieldType.int)]
set_option maxRecDepth 65536 in
theorem codes_eq : words1.filter isCode = codes1 := rfl
theorem w_codes : ∀ c ∈ words1.filter isCode, c.before args0 about1 = true := by
  rw [codes_eq]
  intro c hc
  simp only [codes1, List.mem_cons, List.not_mem_nil, or_false] at hc
  rcases hc with rfl | rfl | rfl | rfl | rfl | rfl | rfl | rfl | rfl | rfl | rfl | rfl | rfl | rfl | rfl | rfl | rfl | rfl | rfl | rfl | rfl | rfl | rfl | rfl | rfl
  · exact w_c0
  · exact w_c1
  · exact w_c2
  · exact w_c3
  · exact w_c4
  · exact w_c5
  · exact w_c6
  · exact w_c7
  · exact w_c8
  · exact w_c9
  · exact w_c10
  · exact w_c11
  · exact w_c12
  · exact w_c13
  · exact w_c14
  · exact w_c15
  · exact w_c16
  · exact w_c17
  · exact w_c18
  · exact w_c19
  · exact w_c20
  · exact w_c21
  · exact w_c22
  · exact w_c23
  · exact w_c24
set_option maxRecDepth 65536 in
theorem w_t1 : (words1.take 24).all (fun c => isCode c || c.before args0 about1) = true := by decide +kernel
set_option maxRecDepth 65536 in
theorem w_t2 : ((words1.drop 24).take 24).all (fun c => isCode c || c.before args0 about1) = true := by decide +kernel
set_option maxRecDepth 65536 in
theorem w_t3 : (((words1.drop 24).drop 24).take 24).all (fun c => isCode c || c.before args0 about1) = true := by decide +kernel
set_option maxRecDepth 65536 in
theorem w_t4 : ((((words1.drop 24).drop 24).drop 24).take 24).all (fun c => isCode c || c.before args0 about1) = true := by decide +kernel
set_option maxRecDepth 65536 in
theorem w_t5 : ((((words1.drop 24).drop 24).drop 24).drop 24).all (fun c => isCode c || c.before args0 about1) = true := by decide +kernel
theorem w_tables : (allAtoms (Jvm.Cond.code x code maxLocals ret :: tables_1)).before args0 about1 = true := by
  rw [allAtoms_all]
  show words1.all (fun c => c.before args0 about1) = true
  refine all_split ?_ w_codes
  rw [← List.take_append_drop 24 words1, List.all_append, w_t1, ← List.take_append_drop 24 (words1.drop 24), List.all_append, w_t2, ← List.take_append_drop 24 ((words1.drop 24).drop 24), List.all_append, w_t3, ← List.take_append_drop 24 (((words1.drop 24).drop 24).drop 24), List.all_append, w_t4, w_t5]
  rfl
set_option maxRecDepth 65536 in
theorem w_case : (Jvm.Cond.and given_1 narrow_1).before args0 about1 = true := by decide +kernel
theorem w_applies : (headSpec (Jvm.Cond.code x code maxLocals ret :: tables_1) room_1).applies x e0.platform about1 = true :=
  (Spec.applies_iff w_frames).mpr ⟨w_running, w_runnable, w_alone, w_named, w_hears, w_ripe, w_room, w_tables⟩
set_option maxRecDepth 65536 in
theorem atStart : AtStart classFile x code maxLocals ret World_1 tables_1 room_1 Calls_1 rest_1 Pre_1 launch0 p0 e0 about1 theMethod args0 below0 :=
  ⟨lists_1, trivial, launch0.admits_env _ _ _, launch0.least_env, fairChoices_fair.cas, fairChoices_fair.clock, w_frames, w_args, w_heap, w_applies, trivial, trivial, w_case⟩
end start1
theorem witness_1 : WitnessClaimed_1 := ⟨start1.p0, start1.e0, start1.about1, start1.theMethod, start1.args0, start1.below0, start1.atStart⟩
end Jvm.Pilot.@@N@@
