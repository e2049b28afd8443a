import JvmDerived
import JvmDerived.Pilot.@@N@@Statement
import JvmDerived.Pilot.@@N@@Code
set_option linter.unusedVariables false
set_option linter.unusedSimpArgs false
namespace Jvm.OwnKit
open Jvm Sem ClassFile Op Lib Jvm.Stand Jvm.Free Jvm.LawKit Jvm.RoadKit Bundle
/-- the rest of the walk comes to an end that Q allows -/
def Go (p : Program) (e : Env) (below : List Frame) (Q : Outcome → State → Prop) (t : State) : Prop :=
  ∃ s₂ o, Steps p.tables e below t s₂ ∧ s₂.status = .running ∧ Ended s₂ below o ∧ Q o s₂
theorem Go.of {p : Program} {e : Env} {below : List Frame} {Q : Outcome → State → Prop} {t t' : State} (h : ∀ target, Steps p.tables e below t' target → Steps p.tables e below t target) (g : Go p e below Q t') : Go p e below Q t := by
  obtain ⟨s₂, o, h1, r⟩ := g
  exact ⟨s₂, o, h _ h1, r⟩
/-- where the walk stands: T the state, V the tables on which it leans, h the heap, k cells and n slots booked -/
def St (p : Program) (l : Launch) (e : Env) (R : Room) (s : State) (m : MethodId) (args : Array Value) (below : List Frame) (meth : Method) (c : Code) (Z : State) (a0 : Array Value) (EL : List (String × Nat)) (n0 : Nat) (own : String) (T : State) (V : Vm) (h : Heap) (k n : Nat) : Prop :=
  p.tables.exec = Jvm.exec ∧ T.heap = h ∧ Z.Warmed39 V ∧ V.findClass own = some m.cls ∧ Old Z n0 h ∧ EW Z a0 EL ∧ CHr Z EL s.vm s.heap V h ∧ meth.locks = false ∧
  ∃ locs k0, Stand p l e R (s.setVm V) m args below meth c T locs k n ∧ s.Since V k0 ∧ k0 ≤ h.size ∧ Fr n0 locs
/-- the end of a walk -/
def FiniV (Z : State) (EL : List (String × Nat)) (n0 : Nat) (s : State) (rm : Room) (Q : Option Value → Heap → Vm → Prop) (o : Outcome) (U : State) : Prop :=
  ∃ v L, o = .returned v ∧ (Q v U.heap U.vm ∧ Fr n0 L ∧ Old Z n0 U.heap) ∧ CHr Z EL s.vm s.heap U.vm U.heap ∧ ReturnedEndW s o U L rm.cells rm.slots
abbrev Fini (Z : State) (EL : List (String × Nat)) (n0 : Nat) (s : State) (rm : Room) (Q : Option Value → Heap → Prop) : Outcome → State → Prop := FiniV Z EL n0 s rm (fun v h _ => Q v h)
/-- a callee's contract: handed as' at the heap h it returns v at a heap h' with Q v h' (and the tables there) -/
def CtrV (l : Launch) (Z : State) (EL : List (String × Nat)) (n0 : Nat) (y : MethodName) (bytes : ByteArray) (maxL : Nat) (ret : Option FieldType) (rm : Room) (as' : Array Value) (h : Heap) (sfs : List Addr) (Q : Option Value → Heap → Vm → Prop) : Prop :=
  ∀ ws : List Cond, MetFree l y (head1 (Cond.code y bytes maxL ret :: ws) rm) (fun a U => a = as' ∧ Z.Warmed39 U.vm ∧ U.heap = h ∧ CHv Z EL U.vm h ∧ ∀ x ∈ sfs, Safe Z EL U.vm h x) (fun _ _ _ _ _ => True) (fun _ U o U' => FiniV Z EL n0 U rm Q o U')
abbrev Ctr (l : Launch) (Z : State) (EL : List (String × Nat)) (n0 : Nat) (y : MethodName) (bytes : ByteArray) (maxL : Nat) (ret : Option FieldType) (rm : Room) (as' : Array Value) (h : Heap) (sfs : List Addr) (Q : Option Value → Heap → Prop) : Prop := CtrV l Z EL n0 y bytes maxL ret rm as' h sfs (fun v h _ => Q v h)
theorem ext_refl (h : Heap) : Ext h h := ⟨Nat.le_refl _, fun _ _ q => q⟩
theorem ext_trans {h h' h2 : Heap} (E : Ext h h') (F : Ext h' h2) : Ext h h2 := ⟨Nat.le_trans E.1 F.1, fun a c q => F.2 a c (E.2 a c q)⟩
theorem ext_keep {h h' h2 : Heap} {ws : List Addr} (E : Ext h h') (K : Keep h' h2 ws) (q : ∀ x ∈ ws, h.size ≤ x) : Ext h h2 := ⟨Nat.le_trans E.1 K.1, fun a c r => K.2.1 a c (E.2 a c r) fun z => absurd (Array.getElem?_eq_some_iff.mp r).1 (Nat.not_lt.mpr (q a z))⟩
theorem ext_keep1 {h h' h2 : Heap} {a : Addr} (E : Ext h h') (K : Keep h' h2 [a]) (q : h.size ≤ a) : Ext h h2 := ext_keep E K (allS q all0)
/-- arrays of two kinds are two -/
theorem arv_kne {Z : State} {h : Heap} {a b : Addr} {k1 k2 : ClassId} {t1 t2 : FieldType} {z1 z2 : Int32} {v1 v2 : List Value} {d1 d2 : Value} (A : Arv Z h a k1 t1 z1 v1 d1) (B : Arv Z h b k2 t2 z2 v2 d2) (hn : t1 ≠ t2) : a ≠ b := fun e => by
  subst e
  obtain ⟨c1, ⟨a1, ⟨-, kA, hkA, compA, hkindA⟩, -⟩, -⟩ := A
  obtain ⟨c2, ⟨b1, ⟨-, kB, hkB, compB, hkindB⟩, -⟩, -⟩ := B
  cases a1.symm.trans b1
  cases hkA.symm.trans hkB
  have q := hkindA.symm.trans hkindB
  injection q with _ e
  exact hn e
theorem faS {P : Int32 → Prop} {y : Int32} {L : List Int32} (q : P y) (r : ∀ x ∈ L, P x) : ∀ x ∈ y :: L, P x := fun x z => (List.mem_cons.mp z).elim (fun u => u ▸ q) (r x)
theorem fa0 {P : Int32 → Prop} : ∀ x ∈ ([] : List Int32), P x := fun _ q => nomatch q
theorem sf1 {Z : State} {EL : List (String × Nat)} {V : Vm} {h : Heap} {x : Addr} (q : x < h.size) (r : Safe Z EL V h x) : ∀ y ∈ [x], y < h.size ∧ Safe Z EL V h y := fun y z => by cases List.mem_singleton.mp z; exact ⟨q, r⟩
theorem narC {x : Int32} (h : ¬ x < 0 ∧ ¬ (65535 : Int32) < x) : nar .char x = x := by
  obtain ⟨h1, h2⟩ := h
  have q := c_i2c x
  rw [Int32.lt_iff_toInt_lt] at h1 h2
  have e1 : (65535 : Int32).toInt = 65535 := rfl
  have e2 : (0 : Int32).toInt = 0 := rfl
  show x.toUInt32.toUInt16.toUInt32.toInt32 = x
  apply Int32.toInt_inj.mp
  omega
theorem narC8 {x : Int32} (h : ¬ x < 0 ∧ ¬ (255 : Int32) < x) : nar .char x = x := narC ⟨h.1, fun q => h.2 (by rw [Int32.lt_iff_toInt_lt] at q ⊢; have e1 : (65535 : Int32).toInt = 65535 := rfl; have e2 : (255 : Int32).toInt = 255 := rfl; omega)⟩
/-- x & 255 -/
theorem and255 (x : Int32) : ¬ (x &&& 255) < 0 ∧ ¬ (255 : Int32) < (x &&& 255) := by
  have q := c_mask x 255 8 (by decide) (by decide)
  have e1 : (255 : Int32).toInt = 255 := rfl
  have e2 : (0 : Int32).toInt = 0 := rfl
  rw [Int32.lt_iff_toInt_lt, Int32.lt_iff_toInt_lt]
  omega
theorem and255L (x : Int64) : ¬ (x &&& 255).toInt32 < 0 ∧ ¬ (255 : Int32) < (x &&& 255).toInt32 := by
  have q := c_maskL x 255 8 (by decide) (by decide)
  have r := c_l2i (x &&& 255)
  have s := rng32 (x &&& 255).toInt32
  have e1 : (255 : Int32).toInt = 255 := rfl
  have e2 : (0 : Int32).toInt = 0 := rfl
  rw [Int32.lt_iff_toInt_lt, Int32.lt_iff_toInt_lt]
  omega
/-- an object of a class right under the root is none of another class -/
theorem noSub1 {Z : State} {a0 : Array Value} {C O K : String} {n : Nat} (w : (Cond.superclass C O).before a0 Z = true) (wo : (Cond.noSuperclass O).before a0 Z = true) (wi : (Cond.instantiable K n).before a0 Z = true) (h1 : C ≠ K) (h2 : O ≠ K) : ∃ c t, Z.vm.findClass C = some c ∧ Z.vm.findClass K = some t ∧ Z.vm.assignable c t = false := by
  obtain ⟨t, kt, g1, g2, g3, g4, -⟩ := Cond.instantiable_spec wi
  obtain ⟨co, ko, o1, o2, o3, -, -⟩ := Cond.noSuperclass_spec wo
  have g5 : kt.isInterface = false := (Bool.or_eq_false_iff.mp g4).1
  have nO : NS Z O K := ⟨co, t, o1, g1, fun fuel => by
    cases fuel with
    | zero => rfl
    | succ f => simp [Vm.isSubclassAux, ids_ne o1 g1 h2, o2, o3]⟩
  obtain ⟨c, t', h0, g0, n3⟩ := NS.step w nO h1
  cases g1.symm.trans g0
  obtain ⟨p, k, kp, q1, q2, q3, q4, q5, -, q7⟩ := Cond.superclass_spec h0 w
  refine ⟨c, t, h0, g1, ?_⟩
  show Z.vm.assignableAux (255 + 1) c t = false
  simp [Vm.assignableAux, ids_ne h0 g1 h1, q2, g2, q5, g3, g5, Vm.isSubclass, n3]
section Steps
variable {p : Program} {l : Launch} {e : Env} {R : Room} {s : State} {m : MethodId} {args : Array Value} {below : List Frame} {meth : Method} {c : Code} {Z : State} {a0 : Array Value} {EL : List (String × Nat)} {n0 : Nat} {own : String} {T : State} {V : Vm} {h : Heap} {k n : Nat} {Q : Outcome → State → Prop} {pc : Nat} {Ls : Array Slot} {rest : List Value}
theorem St.hx (S : St p l e R s m args below meth c Z a0 EL n0 own T V h k n) : p.tables.exec = Jvm.exec := S.1
theorem St.here (S : St p l e R s m args below meth c Z a0 EL n0 own T V h k n) : At T m c below := by
  obtain ⟨-, -, -, -, -, -, -, -, locs, k0, X, -⟩ := S; exact X.here
theorem St.old (S : St p l e R s m args below meth c Z a0 EL n0 own T V h k n) : Old Z n0 h := S.2.2.2.2.1
theorem St.chv (S : St p l e R s m args below meth c Z a0 EL n0 own T V h k n) : CHv Z EL V h := S.2.2.2.2.2.2.1.1
theorem St.warm (S : St p l e R s m args below meth c Z a0 EL n0 own T V h k n) : Z.Warmed39 V := S.2.2.1
theorem St.ew (S : St p l e R s m args below meth c Z a0 EL n0 own T V h k n) : EW Z a0 EL := S.2.2.2.2.2.1
theorem St.le (S : St p l e R s m args below meth c Z a0 EL n0 own T V h k n) : n0 ≤ h.size := S.old.1 ▸ S.old.2.1
/-- a callee is entered -/
theorem CtrV.intro {y : MethodName} {bytes : ByteArray} {maxL : Nat} {ret : Option FieldType} {rm : Room} {as' : Array Value} {sfs : List Addr} {QQ : Option Value → Heap → Vm → Prop} (hp : plainFor y = true) (hO : Old Z n0 h) (hE : EW Z a0 EL)
    (body : ∀ (p : Program) (e : Env) (s : State) (m : MethodId) (below : List Frame) (meth : Method) (c : Code) (T : State) (V : Vm), St p l e rm s m as' below meth c Z a0 EL n0 y.cls T V h 0 0 → c.code = bytes → c.maxLocals = maxL → meth.sig.returnType = ret → meth.name = y.name → (∀ x ∈ sfs, Safe Z EL V h x) →
      Go p e below (FiniV Z EL n0 s rm QQ) (T.setTop (entryFrame m as' maxL))) :
    CtrV l Z EL n0 y bytes maxL ret rm as' h sfs QQ := by
  intro ws
  refine MetFree.of_bodySF hp hisR ?_
  intro p e s m args below meth c s₁ Bd hml0 hP hK
  obtain ⟨rfl, hZ, hh, hC, hsf⟩ := hP
  have X0 : Stand p l e rm s m args below meth c s₁ [] 0 0 := Stand.of_body Bd
  have e0 : s₁.heap = h := by rw [← hh, Bd.state]; rfl
  have hC0 : CHr Z EL s.vm s.heap s.vm h := by rw [hh]; exact CHr.refl hC
  exact body p e s m below meth c s₁ s.vm ⟨Bd.exec, e0, hZ, findClass_of_methodNamed Bd.named, hO, hE, hC0, Bd.notSynchronized, [], h.size, X0, (State.WarmedH.refl s).since _, Nat.le_refl _, Fr.nil n0⟩ Bd.bytes hml0 Bd.returns (name_of_methodNamed Bd.named Bd.method).1 hsf
theorem Ctr.intro {y : MethodName} {bytes : ByteArray} {maxL : Nat} {ret : Option FieldType} {rm : Room} {as' : Array Value} {sfs : List Addr} {QQ : Option Value → Heap → Prop} (hp : plainFor y = true) (hO : Old Z n0 h) (hE : EW Z a0 EL)
    (body : ∀ (p : Program) (e : Env) (s : State) (m : MethodId) (below : List Frame) (meth : Method) (c : Code) (T : State) (V : Vm), St p l e rm s m as' below meth c Z a0 EL n0 y.cls T V h 0 0 → c.code = bytes → c.maxLocals = maxL → meth.sig.returnType = ret → meth.name = y.name → (∀ x ∈ sfs, Safe Z EL V h x) →
      Go p e below (Fini Z EL n0 s rm QQ) (T.setTop (entryFrame m as' maxL))) :
    Ctr l Z EL n0 y bytes maxL ret rm as' h sfs QQ := CtrV.intro hp hO hE body
theorem St.endV {QQ : Option Value → Heap → Vm → Prop} (S : St p l e R s m args below meth c Z a0 EL n0 own T V h k n) {v : Option Value} (hv : meth.sig.returnType = none → v = none) (q : (∀ x, x < h.size → Safe Z EL V h x → Safe Z EL T.vm h x) → QQ v h T.vm) (hc : k ≤ R.cells) (hl : n ≤ R.slots) {t : State}
    (st : ∀ fs, (∀ (f : JFrame) (acts : List Action), f.method = m → f.locked = none → f.entered = [] → (doReturn e (T.setTop f) acts v).1 = T.setFrames fs) → Steps p.tables e below t (T.setFrames fs)) : Go p e below (FiniV Z EL n0 s R QQ) t := by
  obtain ⟨hx, eT, hZ, hown, hO, hE, hC, hlk, locs, k0, X, hS, hk, hF⟩ := S
  subst eT
  obtain ⟨fs, hr, hrun, hend, hw⟩ := X.leaveW hS hk hv hlk
  have qc := CHv.at X hZ hE hC.1
  refine ⟨_, _, st fs hr, hrun, hend, v, locs, rfl, ⟨q fun x hx sx => qc.safe hx sx, hF, hO⟩, (show CHr Z EL s.vm s.heap T.vm T.heap from hC.trans (CHv.at X hZ hE hC.1)), ?_⟩
  obtain ⟨w1, w2, w3, w4⟩ := hw
  exact ⟨w1, w2, w3, w4.mono hc hl⟩
theorem St.end_ {QQ : Option Value → Heap → Prop} (S : St p l e R s m args below meth c Z a0 EL n0 own T V h k n) {v : Option Value} (hv : meth.sig.returnType = none → v = none) (q : QQ v h) (hc : k ≤ R.cells) (hl : n ≤ R.slots) {t : State}
    (st : ∀ fs, (∀ (f : JFrame) (acts : List Action), f.method = m → f.locked = none → f.entered = [] → (doReturn e (T.setTop f) acts v).1 = T.setFrames fs) → Steps p.tables e below t (T.setFrames fs)) : Go p e below (Fini Z EL n0 s R QQ) t := S.endV (QQ := fun v h _ => QQ v h) hv (fun _ => q) hc hl st
theorem g_aretV {QQ : Option Value → Heap → Vm → Prop} {v : Value} (S : St p l e R s m args below meth c Z a0 EL n0 own T V h k n) (hd : decode c.code pc = .ok (.areturn, 1)) {t : FieldType} (hret : meth.sig.returnType = some t) (ht : t.isReference = true) (hn : narrow t v = v) (hv : v.isRef = true) (q : (∀ x, x < h.size → Safe Z EL V h x → Safe Z EL T.vm h x) → QQ (some v) h T.vm) (hc : k ≤ R.cells := by exact Nat.le_of_ble_eq_true rfl) (hl : n ≤ R.slots := by exact Nat.le_of_ble_eq_true rfl) : Go p e below (FiniV Z EL n0 s R QQ) (T.setTop (mkF m pc Ls (v :: rest))) := by
  refine S.endV (v := some v) (fun h => by rw [hret] at h; cases h) q hc hl fun fs hr => ?_
  obtain ⟨hx, eT, hZ, hown, hO, hE, hC, hlk, locs, k0, X, hS, hk, hF⟩ := S
  exact retOut X hx hret hn (Or.inr (Or.inr (Or.inr (Or.inr ⟨rfl, ht, hv⟩)))) hd hr
theorem g_ret {QQ : Option Value → Heap → Prop} (S : St p l e R s m args below meth c Z a0 EL n0 own T V h k n) (hd : decode c.code pc = .ok (.return_, 1)) (hret : meth.sig.returnType = none) (q : QQ none h) (hc : k ≤ R.cells := by exact Nat.le_of_ble_eq_true rfl) (hl : n ≤ R.slots := by exact Nat.le_of_ble_eq_true rfl) : Go p e below (Fini Z EL n0 s R QQ) (T.setTop (mkF m pc Ls [])) := by
  refine S.end_ (v := none) (fun _ => rfl) q hc hl fun fs hr => ?_
  obtain ⟨hx, eT, hZ, hown, hO, hE, hC, hlk, locs, k0, X, hS, hk, hF⟩ := S
  exact X.returnOut hx hret hd hr
theorem g_iretN {QQ : Option Value → Heap → Prop} {z : Int32} (S : St p l e R s m args below meth c Z a0 EL n0 own T V h k n) (hd : decode c.code pc = .ok (.ireturn, 1)) {t : FieldType} (hret : meth.sig.returnType = some t) (ht : t = .boolean ∨ t = .byte ∨ t = .char ∨ t = .short) (q : QQ (some (.int (nar t z))) h) (hc : k ≤ R.cells := by exact Nat.le_of_ble_eq_true rfl) (hl : n ≤ R.slots := by exact Nat.le_of_ble_eq_true rfl) : Go p e below (Fini Z EL n0 s R QQ) (T.setTop (mkF m pc Ls (.int z :: rest))) := by
  refine S.end_ (v := some (.int (nar t z))) (fun h => by rw [hret] at h; cases h) q hc hl fun fs hr => ?_
  obtain ⟨hx, eT, hZ, hown, hO, hE, hC, hlk, locs, k0, X, hS, hk, hF⟩ := S
  exact retN X hx hret ht hd hr
theorem g_iret {QQ : Option Value → Heap → Prop} {z : Int32} (S : St p l e R s m args below meth c Z a0 EL n0 own T V h k n) (hd : decode c.code pc = .ok (.ireturn, 1)) (hret : meth.sig.returnType = some .int) (q : QQ (some (.int z)) h) (hc : k ≤ R.cells := by exact Nat.le_of_ble_eq_true rfl) (hl : n ≤ R.slots := by exact Nat.le_of_ble_eq_true rfl) : Go p e below (Fini Z EL n0 s R QQ) (T.setTop (mkF m pc Ls (.int z :: rest))) := by
  refine S.end_ (v := some (.int z)) (fun h => by rw [hret] at h; cases h) q hc hl fun fs hr => ?_
  obtain ⟨hx, eT, hZ, hown, hO, hE, hC, hlk, locs, k0, X, hS, hk, hF⟩ := S
  exact retOut X hx hret rfl (Or.inl ⟨rfl, Or.inl rfl, z, rfl⟩) hd hr
theorem g_lret {QQ : Option Value → Heap → Prop} {z : Int64} (S : St p l e R s m args below meth c Z a0 EL n0 own T V h k n) (hd : decode c.code pc = .ok (.lreturn, 1)) (hret : meth.sig.returnType = some .long) (q : QQ (some (.long z)) h) (hc : k ≤ R.cells := by exact Nat.le_of_ble_eq_true rfl) (hl : n ≤ R.slots := by exact Nat.le_of_ble_eq_true rfl) : Go p e below (Fini Z EL n0 s R QQ) (T.setTop (mkF m pc Ls (.long z :: rest))) := by
  refine S.end_ (v := some (.long z)) (fun h => by rw [hret] at h; cases h) q hc hl fun fs hr => ?_
  obtain ⟨hx, eT, hZ, hown, hO, hE, hC, hlk, locs, k0, X, hS, hk, hF⟩ := S
  exact retOut X hx hret rfl (Or.inr (Or.inl ⟨rfl, rfl, z, rfl⟩)) hd hr
theorem g_aret {QQ : Option Value → Heap → Prop} {v : Value} (S : St p l e R s m args below meth c Z a0 EL n0 own T V h k n) (hd : decode c.code pc = .ok (.areturn, 1)) {t : FieldType} (hret : meth.sig.returnType = some t) (ht : t.isReference = true) (hn : narrow t v = v) (hv : v.isRef = true) (q : QQ (some v) h) (hc : k ≤ R.cells := by exact Nat.le_of_ble_eq_true rfl) (hl : n ≤ R.slots := by exact Nat.le_of_ble_eq_true rfl) : Go p e below (Fini Z EL n0 s R QQ) (T.setTop (mkF m pc Ls (v :: rest))) := by
  refine S.end_ (v := some v) (fun h => by rw [hret] at h; cases h) q hc hl fun fs hr => ?_
  obtain ⟨hx, eT, hZ, hown, hO, hE, hC, hlk, locs, k0, X, hS, hk, hF⟩ := S
  exact retOut X hx hret hn (Or.inr (Or.inr (Or.inr (Or.inr ⟨rfl, ht, hv⟩)))) hd hr
theorem g_getF (S : St p l e R s m args below meth c Z a0 EL n0 own T V h k n) {R0 O nm d : String} {index : Nat} (w : (Cond.fieldLink own index R0 nm d).before a0 Z = true) (via : Via Z R0 O nm d) {a : Addr} {v : Value} (F : Fld Z h a O nm d v) (hd : decode c.code pc = .ok (.getfield index, 3))
    (go : ∀ T', St p l e R s m args below meth c Z a0 EL n0 own T' V h k n → Go p e below Q (T'.setTop (mkF m (pc + 3) Ls (v :: rest)))) : Go p e below Q (T.setTop (mkF m pc Ls (.ref a :: rest))) := by
  obtain ⟨hx, eT, hZ, hown, hO, hE, hC, hlk, locs, k0, X, hS, hk, hF⟩ := S
  obtain ⟨T', X', e', st⟩ := getF X hx hZ hown (host := "") (Or.inl w) via eT F (g := mkF m pc Ls (.ref a :: rest)) rfl rfl hd
  exact Go.of st (go T' ⟨hx, e', hZ, hown, hO, hE, hC, hlk, locs, k0, X', hS, hk, hF⟩)
theorem g_getS (S : St p l e R s m args below meth c Z a0 EL n0 own T V h k n) {R0 O nm d : String} {index : Nat} (w : (Cond.fieldLink own index R0 nm d).before a0 Z = true) (via : Via Z R0 O nm d) {v : Value} (F : Sta Z h O nm d v) (hd : decode c.code pc = .ok (.getstatic index, 3))
    (go : ∀ T', St p l e R s m args below meth c Z a0 EL n0 own T' V h k n → Go p e below Q (T'.setTop (mkF m (pc + 3) Ls (v :: rest)))) : Go p e below Q (T.setTop (mkF m pc Ls rest)) := by
  obtain ⟨hx, eT, hZ, hown, hO, hE, hC, hlk, locs, k0, X, hS, hk, hF⟩ := S
  obtain ⟨T', X', e', st⟩ := getS X hx hZ hown (host := "") w via eT F (g := mkF m pc Ls rest) rfl hd
  exact Go.of st (go T' ⟨hx, e', hZ, hown, hO, hE, hC, hlk, locs, k0, X', hS, hk, hF⟩)
theorem g_cast (S : St p l e R s m args below meth c Z a0 EL n0 own T V h k n) {K : String} {index : Nat} (w : (Cond.classLink own index K).before a0 Z = true) {a : Addr} (F : Ins Z h a K true) (hd : decode c.code pc = .ok (.checkcast index, 3))
    (go : ∀ T', St p l e R s m args below meth c Z a0 EL n0 own T' V h k n → Go p e below Q (T'.setTop (mkF m (pc + 3) Ls (.ref a :: rest)))) : Go p e below Q (T.setTop (mkF m pc Ls (.ref a :: rest))) := by
  obtain ⟨hx, eT, hZ, hown, hO, hE, hC, hlk, locs, k0, X, hS, hk, hF⟩ := S
  obtain ⟨T', X', e', st⟩ := castY X hx hZ hown w eT F (g := mkF m pc Ls (.ref a :: rest)) rfl rfl hd
  exact Go.of st (go T' ⟨hx, e', hZ, hown, hO, hE, hC, hlk, locs, k0, X', hS, hk, hF⟩)
theorem g_inst (S : St p l e R s m args below meth c Z a0 EL n0 own T V h k n) {K : String} {index : Nat} (w : (Cond.classLink own index K).before a0 Z = true) {a : Addr} (F : Ins Z h a K true) (hd : decode c.code pc = .ok (.instanceof index, 3))
    (go : ∀ T', St p l e R s m args below meth c Z a0 EL n0 own T' V h k n → Go p e below Q (T'.setTop (mkF m (pc + 3) Ls (.int 1 :: rest)))) : Go p e below Q (T.setTop (mkF m pc Ls (.ref a :: rest))) := by
  obtain ⟨hx, eT, hZ, hown, hO, hE, hC, hlk, locs, k0, X, hS, hk, hF⟩ := S
  obtain ⟨T', X', e', st⟩ := instY X hx hZ hown w eT F (g := mkF m pc Ls (.ref a :: rest)) rfl rfl hd
  exact Go.of st (go T' ⟨hx, e', hZ, hown, hO, hE, hC, hlk, locs, k0, X', hS, hk, hF⟩)
theorem g_new (S : St p l e R s m args below meth c Z a0 EL n0 own T V h k n) {C : String} {index sz : Nat} (w : (Cond.classLink own index C).before a0 Z = true) (wi : (Cond.instantiable C sz).before a0 Z = true) (wz : (Cond.initialized C).before a0 Z = true) (hd : decode c.code pc = .ok (.new index, 3)) (hc : k + 1 ≤ R.cells) (hl : n + sz ≤ R.slots)
    (go : ∀ T' h' a, St p l e R s m args below meth c Z a0 EL n0 own T' V h' (k + 1) (n + sz) → Ext h h' → h.size ≤ a → a < h'.size → n0 ≤ a → Safe Z EL V h' a → Exa Z h' a C → (∀ {O nm d : String} {ty : FieldType}, Laid Z a0 C O nm d → parseFieldDescriptor d = some ty → Fld Z h' a O nm d (defaultValue ty)) →
      Go p e below Q (T'.setTop (mkF m (pc + 3) Ls (.ref a :: rest)))) : Go p e below Q (T.setTop (mkF m pc Ls rest)) := by
  have hle := S.le
  obtain ⟨hx, eT, hZ, hown, hO, hE, hC, hlk, locs, k0, X, hS, hk, hF⟩ := S
  obtain ⟨T', h', X', e', E, A, D, -, st⟩ := newO X hx hZ hown w wi wz eT (g := mkF m pc Ls rest) rfl hd hc hl
  exact Go.of st (go T' h' h.size ⟨hx, e', hZ, hown, hO.ext E, hE, hC.trans (CHr.ext E hC.1), hlk, locs, k0, X', hS, Nat.le_trans hk E.1, hF⟩ E (Nat.le_refl _) A.lt hle ((Safe.new (Nat.le_refl _)).ext E hC.1) A D)
theorem g_newarr (S : St p l e R s m args below meth c Z a0 EL n0 own T V h k n) {aty : ArrayType} (w : (Cond.arrayClass (newarray.typeOf aty)).before a0 Z = true) (hd : decode c.code pc = .ok (.newarray aty, 2)) {z : Int32} (hz : ¬ z < 0) {cap : Nat} (hcap : z.toNatClampNeg ≤ cap) (hb : cap * 8 ≤ 536870912) (hc : k + 1 ≤ R.cells) (hl : n + cap ≤ R.slots)
    (go : ∀ T' h' a kc, St p l e R s m args below meth c Z a0 EL n0 own T' V h' (k + 1) (n + cap) → Ext h h' → h.size ≤ a → a < h'.size → n0 ≤ a → Safe Z EL V h' a → (∀ j, Arv Z h' a kc (newarray.typeOf aty) z (List.replicate j (defaultValue (newarray.typeOf aty))) (defaultValue (newarray.typeOf aty))) →
      Go p e below Q (T'.setTop (mkF m (pc + 2) Ls (.ref a :: rest)))) : Go p e below Q (T.setTop (mkF m pc Ls (.int z :: rest))) := by
  have hle := S.le
  obtain ⟨hx, eT, hZ, hown, hO, hE, hC, hlk, locs, k0, X, hS, hk, hF⟩ := S
  obtain ⟨T', h', kc, X', e', E, A, st⟩ := newP X hx hZ w eT (g := mkF m pc Ls (.int z :: rest)) rfl hd rfl hz hcap hb hc hl
  exact Go.of st (go T' h' h.size kc ⟨hx, e', hZ, hown, hO.ext E, hE, hC.trans (CHr.ext E hC.1), hlk, locs, k0, X', hS, Nat.le_trans hk E.1, hF⟩ E (Nat.le_refl _) A.lt hle ((Safe.new (Nat.le_refl _)).ext E hC.1) fun j => (Arv.new A hz).pad (pad_rep [] _ j))
theorem g_castore (S : St p l e R s m args below meth c Z a0 EL n0 own T V h k n) {a : Addr} {kc : ClassId} {z : Int32} {vs : List Value} {dv : Value} (A : Arv Z h a kc .char z vs dv) {j x : Int32} (hj : ¬ j < 0 ∧ j < z) (i : Nat) (hi : j.toNatClampNeg = i) (hlt : i < vs.length) (na : n0 ≤ a) (hd : decode c.code pc = .ok (.castore, 1))
    (go : ∀ T' h', St p l e R s m args below meth c Z a0 EL n0 own T' V h' k n → Keep h h' [a] → Arv Z h' a kc .char z (vs.set i (.int (nar .char x))) dv → Go p e below Q (T'.setTop (mkF m (pc + 1) Ls rest))) : Go p e below Q (T.setTop (mkF m pc Ls (.int x :: .int j :: .ref a :: rest))) := by
  obtain ⟨hx, eT, hZ, hown, hO, hE, hC, hlk, locs, k0, X, hS, hk, hF⟩ := S
  have sf : Safe Z EL V h a := Safe.arv hZ.alike A (by decide)
  obtain ⟨cl, Ar, q1, q2, q3, q4, q5⟩ := A
  obtain ⟨T', h', X', e', W, st⟩ := stC X hx hZ eT Ar (j := j) (x := x) (inb_of q2 hj) (g := mkF m pc Ls (.int x :: .int j :: .ref a :: rest)) rfl rfl hd
  have K := Keep.of_wr W
  exact Go.of st (go T' h' ⟨hx, e', hZ, hown, hO.wr W na, hE, hC.trans (CHr.wr W sf hC.1), hlk, _, k0, X', hS, Nat.le_trans hk K.1, Fr.snoc X' hF na⟩ K (Arv.set Ar q1 q2 q3 q4 q5 (fits_nar_char x) W i hi hlt))
theorem g_putF (S : St p l e R s m args below meth c Z a0 EL n0 own T V h k n) {R0 O nm d C : String} {index kk : Nat} {ty : FieldType} (w : (Cond.fieldLink own index R0 nm d).before a0 Z = true) (via : Via Z R0 O nm d) {a : Addr} {v v' old : Value} (F : Fld Z h a O nm d old) (E : Exa Z h a C)
    (L : (Cond.lays C O nm d).before a0 Z = true ∨ ((Cond.laysFinal C O nm d).before a0 Z = true ∧ own = O ∧ meth.name = "<init>")) (wi : (Cond.instantiable C kk).before a0 Z = true) (hty : parseFieldDescriptor d = some ty) (hn : narrow ty v = v') (hf : fits ty v' = true) (na : n0 ≤ a) (sf : Safe Z EL V h a) (hd : decode c.code pc = .ok (.putfield index, 3))
    (go : ∀ T' h', St p l e R s m args below meth c Z a0 EL n0 own T' V h' k n → Keep h h' [a] → Wr h h' a (Jvm.RoadKit.slotOf Z O nm d) v' → Exa Z h' a C → Fld Z h' a O nm d v' → Safe Z EL V h' a → Go p e below Q (T'.setTop (mkF m (pc + 3) Ls rest))) : Go p e below Q (T.setTop (mkF m pc Ls (v :: .ref a :: rest))) := by
  obtain ⟨hx, eT, hZ, hown, hO, hE, hC, hlk, locs, k0, X, hS, hk, hF⟩ := S
  obtain ⟨T', h', X', e', W, st⟩ := putFN X hx hZ hown w via eT F E L wi hty hn hf (g := mkF m pc Ls (v :: .ref a :: rest)) rfl rfl hd
  have K := Keep.of_wr W
  exact Go.of st (go T' h' ⟨hx, e', hZ, hown, hO.wr W na, hE, hC.trans (CHr.wr W sf hC.1), hlk, _, k0, X', hS, Nat.le_trans hk K.1, Fr.snoc X' hF na⟩ K W (E.wr W) (F.same W) (Safe.wr W sf hC.1 sf))
theorem g_initO (S : St p l e R s m args below meth c Z a0 EL n0 own T V h k n) {index : Nat} (w1 : (Cond.methodLink own index Lib.objectInit).before a0 Z = true) (w2 : (Cond.instanceMethod Lib.objectInit).before a0 Z = true) (w3 : (Cond.code Lib.objectInit ⟨#[0xb1]⟩ 1 none).before a0 Z = true) (hsz : Ls.size = c.maxLocals) {a : Addr} (hd : decode c.code pc = .ok (.invokespecial index, 3)) (hf : 1 ≤ R.frames) (hl : (rest.map fun v => v.category).sum + 12 ≤ R.locals)
    (go : ∀ T', St p l e R s m args below meth c Z a0 EL n0 own T' V h k n → Go p e below Q (T'.setTop (mkF m (pc + 3) Ls rest))) : Go p e below Q (T.setTop (mkF m pc Ls (.ref a :: rest))) := by
  obtain ⟨hx, eT, hZ, hown, hO, hE, hC, hlk, locs, k0, X, hS, hk, hF⟩ := S
  obtain ⟨T', X', e', st⟩ := initO X hx hZ hown w1 w2 w3 eT (g := mkF m pc Ls (.ref a :: rest)) rfl hsz rfl hd hf (W := (rest.map fun v => v.category).sum) (by show 2 * 0 + _ ≤ _; omega) hl
  exact Go.of st (go T' ⟨hx, e', hZ, hown, hO, hE, hC, hlk, locs, k0, X', hS, hk, hF⟩)
theorem g_ldcI (S : St p l e R s m args below meth c Z a0 EL n0 own T V h k n) {index : Nat} {v : Int32} (w : (Cond.constant own index v).before a0 Z = true) (hd : decode c.code pc = .ok (.ldc index, 2)) (go : Go p e below Q (T.setTop (mkF m (pc + 2) Ls (.int v :: rest)))) : Go p e below Q (T.setTop (mkF m pc Ls rest)) := by
  obtain ⟨hx, eT, hZ, hown, hO, hE, hC, hlk, locs, k0, X, hS, hk, hF⟩ := S
  exact Go.of (fun _ q => X.ldcInt hx hown (mvT hZ w) (g := mkF m pc Ls rest) rfl hd _ q) go
theorem g_ldcJ (S : St p l e R s m args below meth c Z a0 EL n0 own T V h k n) {index : Nat} {v : Int64} (w : (Cond.constantLong own index v).before a0 Z = true) (hd : decode c.code pc = .ok (.ldc2_w index, 3)) (go : Go p e below Q (T.setTop (mkF m (pc + 3) Ls (.long v :: rest)))) : Go p e below Q (T.setTop (mkF m pc Ls rest)) := by
  obtain ⟨hx, eT, hZ, hown, hO, hE, hC, hlk, locs, k0, X, hS, hk, hF⟩ := S
  exact Go.of (fun _ q => X.ldc2Long hx hown (mvT hZ w) (g := mkF m pc Ls rest) rfl hd _ q) go
/-- a String constant whose text isn't read -/
theorem g_ldcO (S : St p l e R s m args below meth c Z a0 EL n0 own T V h k n) {index : Nat} {text : String} (w : (Cond.stringLink own index text).before a0 Z = true) (wS : ∀ a ∈ Bundle.stringAtoms, a.before a0 Z = true) (hd : decode c.code pc = .ok (.ldc index, 2)) {b : Nat} (hb : 4 * text.toList.length ≤ b) (hbig : b ≤ 536870912) (hc : k + 2 ≤ R.cells) (hl : n + (b + 4) ≤ R.slots)
    (go : ∀ a T' V' h', St p l e R s m args below meth c Z a0 EL n0 own T' V' h' (k + 2) (n + (b + 4)) → Ext h h' → CHr Z EL V h V' h' → Go p e below Q (T'.setTop (mkF m (pc + 2) Ls (.ref a :: rest)))) : Go p e below Q (T.setTop (mkF m pc Ls rest)) := by
  obtain ⟨hx, eT, hZ, hown, hO, hE, hC, hlk, locs, k0, X, hS, hk, hF⟩ := S
  obtain ⟨a, T', h', k1, X', e', E, hS', hk', hZ', hown', hC', -, st⟩ := ldcOH X hx hZ hown w wS eT hS hk hE hC.1 (g := mkF m pc Ls rest) rfl hd hb hbig hc hl
  exact Go.of st (go a T' T'.vm h' ⟨hx, e', hZ', hown', hO.ext E, hE, hC.trans hC', hlk, locs, k1, X', hS', hk', hF⟩ E hC')
/-- a String constant of EL -/
theorem g_ldcS (S : St p l e R s m args below meth c Z a0 EL n0 own T V h k n) {index : Nat} {text : String} (w : (Cond.stringLink own index text).before a0 Z = true) (wS : ∀ a ∈ Bundle.stringAtoms, a.before a0 Z = true) (hmem : (own, index) ∈ EL) {vs : List Value} {z : Int32} (ht : (∀ c ∈ text.toList, c.toNat < 256) ∧ text.toList.map (fun c => Value.int (Jvm.Lit.byteI c.toNat.toUInt16)) = vs) (hz : ¬ z < 0) (hlz : z.toNatClampNeg = vs.length)
    (hd : decode c.code pc = .ok (.ldc index, 2)) {b : Nat} (hb : 4 * text.toList.length ≤ b) (hbig : b ≤ 536870912) (hc : k + 2 ≤ R.cells) (hl : n + (b + 4) ≤ R.slots)
    (go : ∀ a T' V' h' t kt, St p l e R s m args below meth c Z a0 EL n0 own T' V' h' (k + 2) (n + (b + 4)) → Ext h h' → CHr Z EL V h V' h' → Exa Z h' a "java/lang/String" → Fld Z h' a "java/lang/String" "coder" "B" (.int 0) → Fld Z h' a "java/lang/String" "value" "[B" (.ref t) → Arv Z h' t kt .byte z vs (.int 0) → (∀ x, Safe Z EL V' h' x → x ≠ a ∧ x ≠ t) →
      Go p e below Q (T'.setTop (mkF m (pc + 2) Ls (.ref a :: rest)))) : Go p e below Q (T.setTop (mkF m pc Ls rest)) := by
  obtain ⟨hx, eT, hZ, hown, hO, hE, hC, hlk, locs, k0, X, hS, hk, hF⟩ := S
  obtain ⟨a, T', h', k1, t, kt, X', e', E, hS', hk', hZ', hown', f1, f2, f3, f4, -, -, hC', -, f5, st⟩ := ldcCH X hx hZ hown w wS eT hS hk hE hmem hC.1 ht hz hlz (g := mkF m pc Ls rest) rfl hd hb hbig hc hl
  exact Go.of st (go a T' T'.vm h' t kt ⟨hx, e', hZ', hown', hO.ext E, hE, hC.trans hC', hlk, locs, k1, X', hS', hk', hF⟩ E hC' f1 f2 f3 f4 f5)
section Calls
variable {y z : MethodName} {bytes : ByteArray} {maxL : Nat} {ret : Option FieldType} {rm : Room} {as' : Array Value} {sfs : List Addr} {QQ : Option Value → Heap → Vm → Prop} {index : Nat} {stk : List Value}
/-- the library's backOfSH with objects that are no literal's -/
theorem backOfSf {W : Nat} {vm0 : Vm} {QB : Option Value → Heap → Vm → List Loc → Prop}
    (hM : MetFree l y (head1 [Cond.code y bytes maxL ret] rm) (fun a U => a = as' ∧ Z.Warmed39 U.vm ∧ U.heap = h ∧ CHv Z EL U.vm h ∧ ∀ x ∈ sfs, Safe Z EL U.vm h x) (fun _ _ _ _ _ => True) (fun _ U o U' => ∃ v L, o = .returned v ∧ QB v U'.heap U'.vm L ∧ CHr Z EL U.vm U.heap U'.vm U'.heap ∧ ReturnedEndW U o U' L rm.cells rm.slots))
    (hZ : Z.Warmed39 vm0) (wc : (Cond.code y bytes maxL ret).before a0 Z = true) (wz : (Cond.initialized y.cls).before a0 Z = true) (hf : rm.frames + 1 ≤ R.frames) (hl : W + (maxL + 11) + rm.locals ≤ R.locals) (hEL : EW Z a0 EL) (H : CHv Z EL vm0 h) (hsf : ∀ x ∈ sfs, x < h.size ∧ Safe Z EL vm0 h x) :
    BackS l R p e below (s.setVm vm0) args y 3 W (fun A a => a = as' ∧ A.U.heap = h ∧ A.cells + rm.cells ≤ R.cells ∧ A.slots + rm.slots ≤ R.slots)
      (fun A _ v B => ∃ L, QB v B.U.heap B.U.vm L ∧ B.locs = A.locs ++ L ∧ B.cells = A.cells + rm.cells ∧ B.slots = A.slots + rm.slots ∧ CHr Z EL vm0 h B.U.vm B.U.heap) := by
  refine BackS.of_freeW (bytes := bytes) (maxL := maxL) (ret := ret) (E := fun _ first o t L k n => (k = rm.cells ∧ n = rm.slots) ∧ (∃ v, o = .returned v ∧ QB v t.heap t.vm L) ∧ CHr Z EL first.vm first.heap t.vm t.heap) hM hf hl ?_ ?_ (fun _ _ _ _ _ _ _ _ _ => trivial) ?_ ?_
  · intro m meth c A a Y hp
    have hU : Z.Warmed39 A.U.vm := wtrans (s := s.setVm vm0) hZ Y.warmed
    exact ⟨by show (Cond.and _ .tt).before a A.U = true; rw [Cond.before_and, mv hU wc]; rfl, mv hU wc, mv hU wz, hp.2.2.1, hp.2.2.2⟩
  · intro m meth c A a g mk Y hp
    have q := CHv.at Y hZ hEL H
    exact ⟨hp.1, wtrans (s := s.setVm vm0) hZ Y.warmed, hp.2.1, q.1, fun x hx => q.safe (hsf x hx).1 (hsf x hx).2⟩
  · rintro _ _ _ _ ⟨v, L, h1, h2, h3, h4⟩
    exact ⟨L, _, _, h4, ⟨rfl, rfl⟩, ⟨v, h1, h2⟩, h3⟩
  · intro m meth c A a g mk v t L k n Y hp _ _ q
    obtain ⟨⟨e1, e2⟩, ⟨v', e3, e4⟩, e5⟩ := q
    cases e3; subst e1 e2
    refine ⟨L, e4, rfl, rfl, rfl, (CHv.at Y hZ hEL H).trans ?_⟩
    rw [← hp.2.1]; exact e5
theorem g_static (S : St p l e R s m args below meth c Z a0 EL n0 own T V h k n) (C : CtrV l Z EL n0 y bytes maxL ret rm as' h sfs QQ) (hsf : ∀ x ∈ sfs, x < h.size ∧ Safe Z EL V h x) (wl : (Cond.methodLink own index y).before a0 Z = true) (ws : (Cond.static y).before a0 Z = true) (wi : (Cond.initialized y.cls).before a0 Z = true) (wc : (Cond.code y bytes maxL ret).before a0 Z = true) (hy : y.cls ≠ "java/lang/invoke/MethodHandle" ∧ y.cls ≠ "java/lang/invoke/VarHandle")
    (hd : decode c.code pc = .ok (.invokestatic index, 3)) (hsz : Ls.size = c.maxLocals) (argsL : List Value) (hlen : ∀ sig, parseMethodDescriptor y.desc = some sig → argsL.length = sig.parameters.length) (hst : stk = argsL.reverse ++ rest) (has : argsL.toArray = as') (hf : rm.frames + 1 ≤ R.frames) (hl : (rest.map fun v => v.category).sum + (maxL + 11) + rm.locals ≤ R.locals) (hc : k + rm.cells ≤ R.cells) (hs : n + rm.slots ≤ R.slots)
    (go : ∀ v T' V' h', St p l e R s m args below meth c Z a0 EL n0 own T' V' h' (k + rm.cells) (n + rm.slots) → CHr Z EL V h V' h' → QQ v h' V' → Go p e below Q (T'.setTop (mkF m (pc + 3) Ls (v.toList ++ rest)))) : Go p e below Q (T.setTop (mkF m pc Ls stk)) := by
  obtain ⟨hx, eT, hZ, hown, hO, hE, hC, hlk, locs, k0, X, hS, hk, hF⟩ := S
  have bk := backOfSf (s := s) (R := R) (p := p) (e := e) (below := below) (args := args) (W := (rest.map fun v => v.category).sum) (QB := fun v h' vm L => QQ v h' vm ∧ Fr n0 L ∧ Old Z n0 h') (C []) hZ wc wi hf hl hE hC.1 hsf
  obtain ⟨v, vm1, ⟨U, Lc, kc, sc⟩, hW1, X', hS', hgr, ⟨L, ⟨hQ, hF', hO'⟩, eL, ec, es, hC'⟩, st⟩ := callSS X hx hown (mvT hZ wl) (mvT hZ ws) (mvT hZ wi) (mvT hZ wc) hy bk (g := mkF m pc Ls stk) rfl hsz (argsL := argsL) (rest := rest) hlen hst (by show 2 * 0 + _ ≤ _; omega) hd (fun _ _ => ⟨has, eT, hc, hs⟩)
  dsimp only [Pt.U, Pt.locs, Pt.cells, Pt.slots] at X' hS' hgr hQ hO' eL ec es hC' st
  subst eL ec es
  exact Go.of (fun _ q => st.trans q) (go v U U.vm U.heap ⟨hx, rfl, State.Warmed39.trans (t := s.setVm V) hZ hS'.1, by rw [hS'.1.alike.findClass]; exact hown, hO', hE, hC.trans hC', hlk, _, _, X', hS.trans hS' (Nat.le_trans hk (eT ▸ hgr)), Nat.le_refl _, hF.app hF'⟩ hC' hQ)
theorem g_special (S : St p l e R s m args below meth c Z a0 EL n0 own T V h k n) (C : CtrV l Z EL n0 y bytes maxL none rm as' h sfs QQ) (hsf : ∀ x ∈ sfs, x < h.size ∧ Safe Z EL V h x) (hy1 : y.name = "<init>") (wl : (Cond.methodLink own index y).before a0 Z = true) (ws : (Cond.instanceMethod y).before a0 Z = true) (wi : (Cond.initialized y.cls).before a0 Z = true) (wc : (Cond.code y bytes maxL none).before a0 Z = true) (hy : y.cls ≠ "java/lang/invoke/MethodHandle" ∧ y.cls ≠ "java/lang/invoke/VarHandle")
    (hd : decode c.code pc = .ok (.invokespecial index, 3)) (hsz : Ls.size = c.maxLocals) (a : Addr) (argsL : List Value) (hlen : ∀ sig, parseMethodDescriptor y.desc = some sig → argsL.length = sig.parameters.length) (hst : stk = argsL.reverse ++ .ref a :: rest) (has : (.ref a :: argsL).toArray = as') (hf : rm.frames + 1 ≤ R.frames) (hl : (rest.map fun v => v.category).sum + (maxL + 11) + rm.locals ≤ R.locals) (hc : k + rm.cells ≤ R.cells) (hs : n + rm.slots ≤ R.slots)
    (go : ∀ v T' V' h', St p l e R s m args below meth c Z a0 EL n0 own T' V' h' (k + rm.cells) (n + rm.slots) → CHr Z EL V h V' h' → QQ v h' V' → Go p e below Q (T'.setTop (mkF m (pc + 3) Ls (v.toList ++ rest)))) : Go p e below Q (T.setTop (mkF m pc Ls stk)) := by
  obtain ⟨hx, eT, hZ, hown, hO, hE, hC, hlk, locs, k0, X, hS, hk, hF⟩ := S
  have bk := backOfSf (s := s) (R := R) (p := p) (e := e) (below := below) (args := args) (W := (rest.map fun v => v.category).sum) (QB := fun v h' vm L => QQ v h' vm ∧ Fr n0 L ∧ Old Z n0 h') (C []) hZ wc wi hf hl hE hC.1 hsf
  obtain ⟨v, vm1, ⟨U, Lc, kc, sc⟩, hW1, X', hS', hgr, ⟨L, ⟨hQ, hF', hO'⟩, eL, ec, es, hC'⟩, st⟩ := X.specialBackS hx hy1 hown (mvT hZ wl) (mvT hZ ws) (mvT hZ wc) hy bk (g := mkF m pc Ls stk) rfl hsz (Steps.refl _) (a := a) (argsL := argsL) (rest := rest) hlen hst (by show 2 * 0 + _ ≤ _; omega) hd (fun _ _ => ⟨has, eT, hc, hs⟩)
  dsimp only [Pt.U, Pt.locs, Pt.cells, Pt.slots] at X' hS' hgr hQ hO' eL ec es hC' st
  subst eL ec es
  exact Go.of (fun _ q => st.trans q) (go v U U.vm U.heap ⟨hx, rfl, State.Warmed39.trans (t := s.setVm V) hZ hS'.1, by rw [hS'.1.alike.findClass]; exact hown, hO', hE, hC.trans hC', hlk, _, _, X', hS.trans hS' (Nat.le_trans hk (eT ▸ hgr)), Nat.le_refl _, hF.app hF'⟩ hC' hQ)
theorem g_virtual {C : String} (S : St p l e R s m args below meth c Z a0 EL n0 own T V h k n) (K : CtrV l Z EL n0 z bytes maxL ret rm as' h sfs QQ) (hsf : ∀ x ∈ sfs, x < h.size ∧ Safe Z EL V h x) (wl : (Cond.methodLink own index y).before a0 Z = true) (wd : (Cond.declares y).before a0 Z = true) (wse : (Cond.selects C y z).before a0 Z = true) (ws : (Cond.instanceMethod z).before a0 Z = true) (wi : (Cond.initialized z.cls).before a0 Z = true) (wc : (Cond.code z bytes maxL ret).before a0 Z = true) (hy : y.cls ≠ "java/lang/invoke/MethodHandle" ∧ y.cls ≠ "java/lang/invoke/VarHandle")
    (hnf : ∀ s' : State, (Cond.selects C y z).before args s' = true → NotFace s' y) (hd : decode c.code pc = .ok (.invokevirtual index, 3)) (hsz : Ls.size = c.maxLocals) (a : Addr) (E : Exa Z h a C) (argsL : List Value) (hlen : ∀ sig, parseMethodDescriptor y.desc = some sig → argsL.length = sig.parameters.length) (hst : stk = argsL.reverse ++ .ref a :: rest) (has : (.ref a :: argsL).toArray = as') (hf : rm.frames + 1 ≤ R.frames) (hl : (rest.map fun v => v.category).sum + (maxL + 11) + rm.locals ≤ R.locals) (hc : k + rm.cells ≤ R.cells) (hs : n + rm.slots ≤ R.slots)
    (go : ∀ v T' V' h', St p l e R s m args below meth c Z a0 EL n0 own T' V' h' (k + rm.cells) (n + rm.slots) → CHr Z EL V h V' h' → QQ v h' V' → Go p e below Q (T'.setTop (mkF m (pc + 3) Ls (v.toList ++ rest)))) : Go p e below Q (T.setTop (mkF m pc Ls stk)) := by
  obtain ⟨hx, eT, hZ, hown, hO, hE, hC, hlk, locs, k0, X, hS, hk, hF⟩ := S
  have bk := backOfSf (s := s) (R := R) (p := p) (e := e) (below := below) (args := args) (W := (rest.map fun v => v.category).sum) (QB := fun v h' vm L => QQ v h' vm ∧ Fr n0 L ∧ Old Z n0 h') (K []) hZ wc wi hf hl hE hC.1 hsf
  obtain ⟨cq, kq, q1, q2, q3⟩ := isOf (s := s.setVm V) hZ eT E
  obtain ⟨v, vm1, ⟨U, Lc, kc, sc⟩, hW1, X', hS', hgr, ⟨L, ⟨hQ, hF', hO'⟩, eL, ec, es, hC'⟩, st⟩ := X.virtualBackS hx hown (mvT hZ wl) (mvT hZ wd) (hnf _ (mvT hZ wse)) (mvT hZ wse) (mvT hZ ws) hy bk q1 q3 (g := mkF m pc Ls stk) rfl hsz (Steps.refl _) (argsL := argsL) (rest := rest) hlen hst (by show 2 * 0 + _ ≤ _; omega) hd (fun _ _ => ⟨has, eT, hc, hs⟩)
  dsimp only [Pt.U, Pt.locs, Pt.cells, Pt.slots] at X' hS' hgr hQ hO' eL ec es hC' st
  subst eL ec es
  exact Go.of (fun _ q => st.trans q) (go v U U.vm U.heap ⟨hx, rfl, State.Warmed39.trans (t := s.setVm V) hZ hS'.1, by rw [hS'.1.alike.findClass]; exact hown, hO', hE, hC.trans hC', hlk, _, _, X', hS.trans hS' (Nat.le_trans hk (eT ▸ hgr)), Nat.le_refl _, hF.app hF'⟩ hC' hQ)
/-- a callee that is paid by a narrow law of the library's (or of a pasted text's): rc cells, rs slots -/
abbrev BkC (l : Launch) (R : Room) (p : Program) (e : Env) (below : List Frame) (s : State) (args : Array Value) (y : MethodName) (W : Nat) (as' : Array Value) (h : Heap) (rc rs : Nat) (QB : Option Value → Heap → List Loc → Prop) : Prop :=
  Back l R p e below s args y 3 W (fun A a => a = as' ∧ A.U.heap = h ∧ A.cells + rc ≤ R.cells ∧ A.slots + rs ≤ R.slots) (fun A _ v B => ∃ L, QB v B.U.heap L ∧ B.locs = A.locs ++ L ∧ B.cells = A.cells + rc ∧ B.slots = A.slots + rs)
theorem g_staticB {rc rs : Nat} {QB : Option Value → Heap → List Loc → Prop} (S : St p l e R s m args below meth c Z a0 EL n0 own T V h k n) {W : Nat} (B : ∀ s' : State, Z.Warmed39 s'.vm → BkC l R p e below s' args y W as' h rc rs QB) (wl : (Cond.methodLink own index y).before a0 Z = true) (ws : (Cond.static y).before a0 Z = true) (wi : (Cond.initialized y.cls).before a0 Z = true) (wc : (Cond.code y bytes maxL ret).before a0 Z = true) (hy : y.cls ≠ "java/lang/invoke/MethodHandle" ∧ y.cls ≠ "java/lang/invoke/VarHandle")
    (hd : decode c.code pc = .ok (.invokestatic index, 3)) (hsz : Ls.size = c.maxLocals) (argsL : List Value) (hlen : ∀ sig, parseMethodDescriptor y.desc = some sig → argsL.length = sig.parameters.length) (hst : stk = argsL.reverse ++ rest) (has : argsL.toArray = as') (hW : (rest.map fun v => v.category).sum ≤ W) (hc : k + rc ≤ R.cells) (hs : n + rs ≤ R.slots)
    (hq : ∀ v h' L, QB v h' L → Fr n0 L ∧ ∃ xs, Keep h h' xs ∧ (∀ x ∈ xs, Safe Z EL V h x) ∧ ∀ x ∈ xs, n0 ≤ x)
    (go : ∀ v T' h' L, St p l e R s m args below meth c Z a0 EL n0 own T' V h' (k + rc) (n + rs) → QB v h' L → Go p e below Q (T'.setTop (mkF m (pc + 3) Ls (v.toList ++ rest)))) : Go p e below Q (T.setTop (mkF m pc Ls stk)) := by
  obtain ⟨hx, eT, hZ, hown, hO, hE, hC, hlk, locs, k0, X, hS, hk, hF⟩ := S
  obtain ⟨v, vm1, ⟨U, Lc, kc, sc⟩, hW1, X', ⟨L, hQ, eL, ec, es⟩, st⟩ := Jvm.LawKit.callS X hx hown (mvT hZ wl) (mvT hZ ws) (mvT hZ wi) (mvT hZ wc) hy (B (s.setVm V) hZ) (g := mkF m pc Ls stk) rfl hsz (argsL := argsL) (rest := rest) hlen hst (by show 2 * 0 + _ ≤ _; omega) hd (fun _ _ => ⟨has, eT, hc, hs⟩)
  dsimp only [Pt.U, Pt.locs, Pt.cells, Pt.slots] at X' hQ eL ec es st
  subst eL ec es
  obtain ⟨hF', xs, K, sf, nx⟩ := hq _ _ _ hQ
  exact Go.of st (go v U U.heap L ⟨hx, rfl, hZ, hown, hO.keep K nx, hE, hC.trans (CHr.keep K sf hC.1), hlk, _, _, X', hS, Nat.le_trans hk K.1, hF.app hF'⟩ hQ)
theorem g_specialB {rc rs : Nat} {QB : Option Value → Heap → List Loc → Prop} (S : St p l e R s m args below meth c Z a0 EL n0 own T V h k n) {W : Nat} (B : ∀ s' : State, Z.Warmed39 s'.vm → BkC l R p e below s' args y W as' h rc rs QB) (hy1 : y.name = "<init>") (wl : (Cond.methodLink own index y).before a0 Z = true) (ws : (Cond.instanceMethod y).before a0 Z = true) (wc : (Cond.code y bytes maxL none).before a0 Z = true) (hy : y.cls ≠ "java/lang/invoke/MethodHandle" ∧ y.cls ≠ "java/lang/invoke/VarHandle")
    (hd : decode c.code pc = .ok (.invokespecial index, 3)) (hsz : Ls.size = c.maxLocals) (a : Addr) (argsL : List Value) (hlen : ∀ sig, parseMethodDescriptor y.desc = some sig → argsL.length = sig.parameters.length) (hst : stk = argsL.reverse ++ .ref a :: rest) (has : (.ref a :: argsL).toArray = as') (hW : (rest.map fun v => v.category).sum ≤ W) (hc : k + rc ≤ R.cells) (hs : n + rs ≤ R.slots)
    (hq : ∀ v h' L, QB v h' L → Fr n0 L ∧ ∃ xs, Keep h h' xs ∧ (∀ x ∈ xs, Safe Z EL V h x) ∧ ∀ x ∈ xs, n0 ≤ x)
    (go : ∀ v T' h' L, St p l e R s m args below meth c Z a0 EL n0 own T' V h' (k + rc) (n + rs) → QB v h' L → Go p e below Q (T'.setTop (mkF m (pc + 3) Ls (v.toList ++ rest)))) : Go p e below Q (T.setTop (mkF m pc Ls stk)) := by
  obtain ⟨hx, eT, hZ, hown, hO, hE, hC, hlk, locs, k0, X, hS, hk, hF⟩ := S
  obtain ⟨v, vm1, ⟨U, Lc, kc, sc⟩, hW1, X', ⟨L, hQ, eL, ec, es⟩, st⟩ := X.specialBack hx hy1 hown (mvT hZ wl) (mvT hZ ws) (mvT hZ wc) hy (B (s.setVm V) hZ) (g := mkF m pc Ls stk) rfl hsz (Steps.refl _) (a := a) (argsL := argsL) (rest := rest) hlen hst (by show 2 * 0 + _ ≤ _; omega) hd (fun _ _ => ⟨has, eT, hc, hs⟩)
  dsimp only [Pt.U, Pt.locs, Pt.cells, Pt.slots] at X' hQ eL ec es st
  subst eL ec es
  obtain ⟨hF', xs, K, sf, nx⟩ := hq _ _ _ hQ
  exact Go.of (fun _ q => st.trans q) (go v U U.heap L ⟨hx, rfl, hZ, hown, hO.keep K nx, hE, hC.trans (CHr.keep K sf hC.1), hlk, _, _, X', hS, Nat.le_trans hk K.1, hF.app hF'⟩ hQ)
theorem g_virtualB {C : String} {rc rs : Nat} {QB : Option Value → Heap → List Loc → Prop} (S : St p l e R s m args below meth c Z a0 EL n0 own T V h k n) {W : Nat} (B : ∀ s' : State, Z.Warmed39 s'.vm → BkC l R p e below s' args z W as' h rc rs QB) (wl : (Cond.methodLink own index y).before a0 Z = true) (wd : (Cond.declares y).before a0 Z = true) (wse : (Cond.selects C y z).before a0 Z = true) (ws : (Cond.instanceMethod z).before a0 Z = true) (hy : y.cls ≠ "java/lang/invoke/MethodHandle" ∧ y.cls ≠ "java/lang/invoke/VarHandle")
    (hnf : ∀ s' : State, (Cond.selects C y z).before args s' = true → NotFace s' y) (hd : decode c.code pc = .ok (.invokevirtual index, 3)) (hsz : Ls.size = c.maxLocals) (a : Addr) (E : Exa Z h a C) (argsL : List Value) (hlen : ∀ sig, parseMethodDescriptor y.desc = some sig → argsL.length = sig.parameters.length) (hst : stk = argsL.reverse ++ .ref a :: rest) (has : (.ref a :: argsL).toArray = as') (hW : (rest.map fun v => v.category).sum ≤ W) (hc : k + rc ≤ R.cells) (hs : n + rs ≤ R.slots)
    (hq : ∀ v h' L, QB v h' L → Fr n0 L ∧ ∃ xs, Keep h h' xs ∧ (∀ x ∈ xs, Safe Z EL V h x) ∧ ∀ x ∈ xs, n0 ≤ x)
    (go : ∀ v T' h' L, St p l e R s m args below meth c Z a0 EL n0 own T' V h' (k + rc) (n + rs) → QB v h' L → Go p e below Q (T'.setTop (mkF m (pc + 3) Ls (v.toList ++ rest)))) : Go p e below Q (T.setTop (mkF m pc Ls stk)) := by
  obtain ⟨hx, eT, hZ, hown, hO, hE, hC, hlk, locs, k0, X, hS, hk, hF⟩ := S
  obtain ⟨cq, kq, q1, q2, q3⟩ := isOf (s := s.setVm V) hZ eT E
  obtain ⟨v, vm1, ⟨U, Lc, kc, sc⟩, hW1, X', ⟨L, hQ, eL, ec, es⟩, st⟩ := X.virtualBack hx hown (mvT hZ wl) (mvT hZ wd) (hnf _ (mvT hZ wse)) (mvT hZ wse) (mvT hZ ws) hy (B (s.setVm V) hZ) q1 q3 (g := mkF m pc Ls stk) rfl hsz (Steps.refl _) (argsL := argsL) (rest := rest) hlen hst (by show 2 * 0 + _ ≤ _; omega) hd (fun _ _ => ⟨has, eT, hc, hs⟩)
  dsimp only [Pt.U, Pt.locs, Pt.cells, Pt.slots] at X' hQ eL ec es st
  subst eL ec es
  obtain ⟨hF', xs, K, sf, nx⟩ := hq _ _ _ hQ
  exact Go.of (fun _ q => st.trans q) (go v U U.heap L ⟨hx, rfl, hZ, hown, hO.keep K nx, hE, hC.trans (CHr.keep K sf hC.1), hlk, _, _, X', hS, Nat.le_trans hk K.1, hF.app hF'⟩ hQ)
end Calls
theorem g_icmp (S : St p l e R s m args below meth c Z a0 EL n0 own T V h k n) {cd : ClassFile.Cond} {x y : Int32} {o : Int} {pcT : Nat} (hd : decode c.code pc = .ok (.if_icmp cd o, 3)) (ho : 0 ≤ (pc : Int) + o) (hp : ((pc : Int) + o).toNat = pcT) (yes : if_icmp.holds cd x y = true → Go p e below Q (T.setTop (mkF m pcT Ls rest))) (no : if_icmp.holds cd x y = false → Go p e below Q (T.setTop (mkF m (pc + 3) Ls rest))) : Go p e below Q (T.setTop (mkF m pc Ls (.int y :: .int x :: rest))) := by
  cases q : if_icmp.holds cd x y
  · exact Go.of (fun _ r => XS.icmpNo S.here S.hx rfl hd rfl q r) (no q)
  · exact Go.of (fun _ r => XS.icmpYes S.here S.hx rfl (pc0 := pc) (pc' := pcT) rfl hd rfl q ho hp r) (yes q)
theorem g_if (S : St p l e R s m args below meth c Z a0 EL n0 own T V h k n) {cd : ClassFile.Cond} {x : Int32} {o : Int} {pcT : Nat} (hd : decode c.code pc = .ok (.ifCond cd o, 3)) (ho : 0 ≤ (pc : Int) + o) (hp : ((pc : Int) + o).toNat = pcT) (yes : if_icmp.holds cd x 0 = true → Go p e below Q (T.setTop (mkF m pcT Ls rest))) (no : if_icmp.holds cd x 0 = false → Go p e below Q (T.setTop (mkF m (pc + 3) Ls rest))) : Go p e below Q (T.setTop (mkF m pc Ls (.int x :: rest))) := by
  cases q : if_icmp.holds cd x 0
  · exact Go.of (fun _ r => XS.ifNo S.here S.hx rfl hd rfl ((if0 _ _).trans q) r) (no q)
  · exact Go.of (fun _ r => XS.ifYes S.here S.hx rfl (pc0 := pc) (pc' := pcT) rfl hd rfl ((if0 _ _).trans q) ho hp r) (yes q)
theorem icT_eq {x y : Int32} (h : if_icmp.holds .eq x y = true) : x = y := by simpa [if_icmp.holds] using h
theorem icF_eq {x y : Int32} (h : if_icmp.holds .eq x y = false) : ¬ x = y := by simpa [if_icmp.holds] using h
theorem icT_ne {x y : Int32} (h : if_icmp.holds .ne x y = true) : ¬ x = y := by simpa [if_icmp.holds] using h
theorem icF_ne {x y : Int32} (h : if_icmp.holds .ne x y = false) : x = y := by simpa [if_icmp.holds] using h
theorem icT_lt {x y : Int32} (h : if_icmp.holds .lt x y = true) : x < y := by simpa [if_icmp.holds] using h
theorem icF_lt {x y : Int32} (h : if_icmp.holds .lt x y = false) : ¬ x < y := by simpa [if_icmp.holds] using h
theorem icT_ge {x y : Int32} (h : if_icmp.holds .ge x y = true) : ¬ x < y := fun q => by rw [(tlt q).2.1] at h; cases h
theorem icF_ge {x y : Int32} (h : if_icmp.holds .ge x y = false) : x < y := Decidable.byContradiction fun q => by rw [(flt q).2.1] at h; cases h
theorem icT_gt {x y : Int32} (h : if_icmp.holds .gt x y = true) : y < x := Decidable.byContradiction fun q => by rw [(flt q).2.2.1] at h; cases h
theorem icF_gt {x y : Int32} (h : if_icmp.holds .gt x y = false) : ¬ y < x := fun q => by rw [(tlt q).2.2.1] at h; cases h
theorem icT_le {x y : Int32} (h : if_icmp.holds .le x y = true) : ¬ y < x := fun q => by rw [(tlt q).2.2.2] at h; cases h
theorem icF_le {x y : Int32} (h : if_icmp.holds .le x y = false) : y < x := Decidable.byContradiction fun q => by rw [(flt q).2.2.2] at h; cases h
theorem g_caload (S : St p l e R s m args below meth c Z a0 EL n0 own T V h k n) {a : Addr} {kc : ClassId} {z : Int32} {vs : List Value} {dv : Value} (A : Arv Z h a kc .char z vs dv) {j : Int32} (hj : ¬ j < 0 ∧ j < z) {x : Int32} (hv : vs.getD j.toNatClampNeg dv = .int x) (hd : decode c.code pc = .ok (.caload, 1)) (go : Go p e below Q (T.setTop (mkF m (pc + 1) Ls (.int x :: rest)))) : Go p e below Q (T.setTop (mkF m pc Ls (.int j :: .ref a :: rest))) := by
  obtain ⟨hx, eT, hZ, hown, hO, hE, hC, hlk, locs, k0, X, hS, hk, hF⟩ := S
  obtain ⟨cl, Ar, q1, q2, q3, q4, q5⟩ := A
  have hin := inb_of q2 hj
  exact Go.of (fun _ q => X.caload hx (j := j) (v := .int x) (by rw [eT]; exact Ar.1) (State.isArrayOf_alike (T := s.setVm V) hZ.alike Ar.2.1) Ar.2.2 hin (q4.at hin hv) (g := mkF m pc Ls (.int j :: .ref a :: rest)) rfl rfl hd _ q) go
theorem g_len (S : St p l e R s m args below meth c Z a0 EL n0 own T V h k n) {a : Addr} {kc : ClassId} {ty : FieldType} {z : Int32} {vs : List Value} {dv : Value} (A : Arv Z h a kc ty z vs dv) (hd : decode c.code pc = .ok (.arraylength, 1)) (go : Go p e below Q (T.setTop (mkF m (pc + 1) Ls (.int z :: rest)))) : Go p e below Q (T.setTop (mkF m pc Ls (.ref a :: rest))) := by
  obtain ⟨hx, eT, hZ, hown, hO, hE, hC, hlk, locs, k0, X, hS, hk, hF⟩ := S
  obtain ⟨cl, Ar, q1, q2, q3, q4, q5⟩ := A
  rw [← len_of q2 q3] at go
  exact Go.of (fun _ q => X.arraylength hx (by rw [eT]; exact Ar.1) (State.isArrayOf_alike (T := s.setVm V) hZ.alike Ar.2.1) (g := mkF m pc Ls (.ref a :: rest)) rfl rfl hd _ q) go
theorem s_iload {i : Nat} {v : Int32} (S : St p l e R s m args below meth c Z a0 EL n0 own T V h k n) (hd : decode c.code pc = .ok (.iload i, 2)) (hv : Ls[i]? = some (.val (.int v))) {pc' : Nat} (hp : pc + 2 = pc') (go : Go p e below Q (T.setTop (mkF m pc' Ls (.int v :: rest)))) : Go p e below Q (T.setTop (mkF m pc Ls rest)) := by
  subst hp; exact Go.of (fun _ q => XS.iload S.here S.hx rfl hd hv q) go
theorem s_iloadN {i : Fin 4} {v : Int32} (S : St p l e R s m args below meth c Z a0 EL n0 own T V h k n) (hd : decode c.code pc = .ok (.iload_n i, 1)) (hv : Ls[i.val]? = some (.val (.int v))) {pc' : Nat} (hp : pc + 1 = pc') (go : Go p e below Q (T.setTop (mkF m pc' Ls (.int v :: rest)))) : Go p e below Q (T.setTop (mkF m pc Ls rest)) := by
  subst hp; exact Go.of (fun _ q => XS.iloadN S.here S.hx rfl hd hv q) go
theorem s_lload {i : Nat} {v : Int64} (S : St p l e R s m args below meth c Z a0 EL n0 own T V h k n) (hd : decode c.code pc = .ok (.lload i, 2)) (hv : Ls[i]? = some (.val (.long v))) {pc' : Nat} (hp : pc + 2 = pc') (go : Go p e below Q (T.setTop (mkF m pc' Ls (.long v :: rest)))) : Go p e below Q (T.setTop (mkF m pc Ls rest)) := by
  subst hp; exact Go.of (fun _ q => XS.lload S.here S.hx rfl hd hv q) go
theorem s_lloadN {i : Fin 4} {v : Int64} (S : St p l e R s m args below meth c Z a0 EL n0 own T V h k n) (hd : decode c.code pc = .ok (.lload_n i, 1)) (hv : Ls[i.val]? = some (.val (.long v))) {pc' : Nat} (hp : pc + 1 = pc') (go : Go p e below Q (T.setTop (mkF m pc' Ls (.long v :: rest)))) : Go p e below Q (T.setTop (mkF m pc Ls rest)) := by
  subst hp; exact Go.of (fun _ q => XS.lloadN S.here S.hx rfl hd hv q) go
theorem s_aload {i : Nat} {v : Value} (S : St p l e R s m args below meth c Z a0 EL n0 own T V h k n) (hd : decode c.code pc = .ok (.aload i, 2)) (hv : Ls[i]? = some (.val v)) (hr : v.isRef = true) {pc' : Nat} (hp : pc + 2 = pc') (go : Go p e below Q (T.setTop (mkF m pc' Ls (v :: rest)))) : Go p e below Q (T.setTop (mkF m pc Ls rest)) := by
  subst hp; exact Go.of (fun _ q => XS.aload S.here S.hx rfl hd hv hr q) go
theorem s_aloadN {i : Fin 4} {v : Value} (S : St p l e R s m args below meth c Z a0 EL n0 own T V h k n) (hd : decode c.code pc = .ok (.aload_n i, 1)) (hv : Ls[i.val]? = some (.val v)) (hr : v.isRef = true) {pc' : Nat} (hp : pc + 1 = pc') (go : Go p e below Q (T.setTop (mkF m pc' Ls (v :: rest)))) : Go p e below Q (T.setTop (mkF m pc Ls rest)) := by
  subst hp; exact Go.of (fun _ q => XS.aloadN S.here S.hx rfl hd hv hr q) go
theorem s_istore {i : Nat} {v : Int32} {L' : Array Slot} (S : St p l e R s m args below meth c Z a0 EL n0 own T V h k n) (hd : decode c.code pc = .ok (.istore i, 2)) (hl : storeLocals Ls i (.int v) = some L') {pc' : Nat} (hp : pc + 2 = pc') (go : Go p e below Q (T.setTop (mkF m pc' L' rest))) : Go p e below Q (T.setTop (mkF m pc Ls (.int v :: rest))) := by
  subst hp; exact Go.of (fun _ q => XS.istore S.here S.hx rfl hd rfl hl q) go
theorem s_istoreN {i : Fin 4} {v : Int32} {L' : Array Slot} (S : St p l e R s m args below meth c Z a0 EL n0 own T V h k n) (hd : decode c.code pc = .ok (.istore_n i, 1)) (hl : storeLocals Ls i.val (.int v) = some L') {pc' : Nat} (hp : pc + 1 = pc') (go : Go p e below Q (T.setTop (mkF m pc' L' rest))) : Go p e below Q (T.setTop (mkF m pc Ls (.int v :: rest))) := by
  subst hp; exact Go.of (fun _ q => XS.istoreN S.here S.hx rfl hd rfl hl q) go
theorem s_lstore {i : Nat} {v : Int64} {L' : Array Slot} (S : St p l e R s m args below meth c Z a0 EL n0 own T V h k n) (hd : decode c.code pc = .ok (.lstore i, 2)) (hl : storeLocals Ls i (.long v) = some L') {pc' : Nat} (hp : pc + 2 = pc') (go : Go p e below Q (T.setTop (mkF m pc' L' rest))) : Go p e below Q (T.setTop (mkF m pc Ls (.long v :: rest))) := by
  subst hp; exact Go.of (fun _ q => XS.lstore S.here S.hx rfl hd rfl hl q) go
theorem s_lstoreN {i : Fin 4} {v : Int64} {L' : Array Slot} (S : St p l e R s m args below meth c Z a0 EL n0 own T V h k n) (hd : decode c.code pc = .ok (.lstore_n i, 1)) (hl : storeLocals Ls i.val (.long v) = some L') {pc' : Nat} (hp : pc + 1 = pc') (go : Go p e below Q (T.setTop (mkF m pc' L' rest))) : Go p e below Q (T.setTop (mkF m pc Ls (.long v :: rest))) := by
  subst hp; exact Go.of (fun _ q => XS.lstoreN S.here S.hx rfl hd rfl hl q) go
theorem s_astore {i : Nat} {v : Value} {L' : Array Slot} (S : St p l e R s m args below meth c Z a0 EL n0 own T V h k n) (hd : decode c.code pc = .ok (.astore i, 2)) (hr : v.isRef = true) (hl : storeLocals Ls i v = some L') {pc' : Nat} (hp : pc + 2 = pc') (go : Go p e below Q (T.setTop (mkF m pc' L' rest))) : Go p e below Q (T.setTop (mkF m pc Ls (v :: rest))) := by
  subst hp; exact Go.of (fun _ q => XS.astore S.here S.hx rfl hd rfl hr hl q) go
theorem s_astoreN {i : Fin 4} {v : Value} {L' : Array Slot} (S : St p l e R s m args below meth c Z a0 EL n0 own T V h k n) (hd : decode c.code pc = .ok (.astore_n i, 1)) (hr : v.isRef = true) (hl : storeLocals Ls i.val v = some L') {pc' : Nat} (hp : pc + 1 = pc') (go : Go p e below Q (T.setTop (mkF m pc' L' rest))) : Go p e below Q (T.setTop (mkF m pc Ls (v :: rest))) := by
  subst hp; exact Go.of (fun _ q => XS.astoreN S.here S.hx rfl hd rfl hr hl q) go
theorem s_iconst {i : Int} {v : Int32} (S : St p l e R s m args below meth c Z a0 EL n0 own T V h k n) (hd : decode c.code pc = .ok (.iconst i, 1)) (hv : Int32.ofInt i = v) {pc' : Nat} (hp : pc + 1 = pc') (go : Go p e below Q (T.setTop (mkF m pc' Ls (.int v :: rest)))) : Go p e below Q (T.setTop (mkF m pc Ls rest)) := by
  subst hp hv; exact Go.of (fun _ q => XS.iconst S.here S.hx rfl hd q) go
theorem s_bipush {i : Int} {v : Int32} (S : St p l e R s m args below meth c Z a0 EL n0 own T V h k n) (hd : decode c.code pc = .ok (.bipush i, 2)) (hv : (Int8.ofInt i).toInt32 = v) {pc' : Nat} (hp : pc + 2 = pc') (go : Go p e below Q (T.setTop (mkF m pc' Ls (.int v :: rest)))) : Go p e below Q (T.setTop (mkF m pc Ls rest)) := by
  subst hp hv; exact Go.of (fun _ q => XS.bipush S.here S.hx rfl hd q) go
theorem s_sipush {i : Int} {v : Int32} (S : St p l e R s m args below meth c Z a0 EL n0 own T V h k n) (hd : decode c.code pc = .ok (.sipush i, 3)) (hv : (Int16.ofInt i).toInt32 = v) {pc' : Nat} (hp : pc + 3 = pc') (go : Go p e below Q (T.setTop (mkF m pc' Ls (.int v :: rest)))) : Go p e below Q (T.setTop (mkF m pc Ls rest)) := by
  subst hp hv; exact Go.of (fun _ q => XS.sipush S.here S.hx rfl hd q) go
theorem s_null  (S : St p l e R s m args below meth c Z a0 EL n0 own T V h k n) (hd : decode c.code pc = .ok (.aconst_null, 1))  {pc' : Nat} (hp : pc + 1 = pc') (go : Go p e below Q (T.setTop (mkF m pc' Ls (.null :: rest)))) : Go p e below Q (T.setTop (mkF m pc Ls rest)) := by
  subst hp; exact Go.of (fun _ q => XS.aconstNull S.here S.hx rfl hd q) go
theorem s_dup {v : Value} (S : St p l e R s m args below meth c Z a0 EL n0 own T V h k n) (hd : decode c.code pc = .ok (.dup, 1)) (hc : v.category = 1) {pc' : Nat} (hp : pc + 1 = pc') (go : Go p e below Q (T.setTop (mkF m pc' Ls (v :: v :: rest)))) : Go p e below Q (T.setTop (mkF m pc Ls (v :: rest))) := by
  subst hp; exact Go.of (fun _ q => XS.dup S.here S.hx rfl hd rfl hc q) go
theorem s_pop {v : Value} (S : St p l e R s m args below meth c Z a0 EL n0 own T V h k n) (hd : decode c.code pc = .ok (.pop, 1)) (hc : v.category = 1) {pc' : Nat} (hp : pc + 1 = pc') (go : Go p e below Q (T.setTop (mkF m pc' Ls rest))) : Go p e below Q (T.setTop (mkF m pc Ls (v :: rest))) := by
  subst hp; exact Go.of (fun _ q => XS.pop S.here S.hx rfl hd rfl hc q) go
theorem s_dupX1 {v u : Value} (S : St p l e R s m args below meth c Z a0 EL n0 own T V h k n) (hd : decode c.code pc = .ok (.dup_x1, 1)) (hc : v.category = 1) (hu : u.category = 1) {pc' : Nat} (hp : pc + 1 = pc') (go : Go p e below Q (T.setTop (mkF m pc' Ls (v :: u :: v :: rest)))) : Go p e below Q (T.setTop (mkF m pc Ls (v :: u :: rest))) := by
  subst hp; exact Go.of (fun _ q => XS.dupX1 S.here S.hx rfl hd rfl hc hu q) go
theorem s_iadd {x y z : Int32} (S : St p l e R s m args below meth c Z a0 EL n0 own T V h k n) (hd : decode c.code pc = .ok (.iadd, 1)) (hv : x + y = z) {pc' : Nat} (hp : pc + 1 = pc') (go : Go p e below Q (T.setTop (mkF m pc' Ls (.int z :: rest)))) : Go p e below Q (T.setTop (mkF m pc Ls (.int y :: .int x :: rest))) := by
  subst hp hv; exact Go.of (fun _ q => XS.iadd S.here S.hx rfl hd rfl q) go
theorem s_isub {x y z : Int32} (S : St p l e R s m args below meth c Z a0 EL n0 own T V h k n) (hd : decode c.code pc = .ok (.isub, 1)) (hv : x - y = z) {pc' : Nat} (hp : pc + 1 = pc') (go : Go p e below Q (T.setTop (mkF m pc' Ls (.int z :: rest)))) : Go p e below Q (T.setTop (mkF m pc Ls (.int y :: .int x :: rest))) := by
  subst hp hv; exact Go.of (fun _ q => XS.isub S.here S.hx rfl hd rfl q) go
theorem s_imul {x y z : Int32} (S : St p l e R s m args below meth c Z a0 EL n0 own T V h k n) (hd : decode c.code pc = .ok (.imul, 1)) (hv : x * y = z) {pc' : Nat} (hp : pc + 1 = pc') (go : Go p e below Q (T.setTop (mkF m pc' Ls (.int z :: rest)))) : Go p e below Q (T.setTop (mkF m pc Ls (.int y :: .int x :: rest))) := by
  subst hp hv; exact Go.of (fun _ q => XS.imul S.here S.hx rfl hd rfl q) go
theorem s_iand {x y z : Int32} (S : St p l e R s m args below meth c Z a0 EL n0 own T V h k n) (hd : decode c.code pc = .ok (.iand, 1)) (hv : x &&& y = z) {pc' : Nat} (hp : pc + 1 = pc') (go : Go p e below Q (T.setTop (mkF m pc' Ls (.int z :: rest)))) : Go p e below Q (T.setTop (mkF m pc Ls (.int y :: .int x :: rest))) := by
  subst hp hv; exact Go.of (fun _ q => XS.iand S.here S.hx rfl hd rfl q) go
theorem s_ior {x y z : Int32} (S : St p l e R s m args below meth c Z a0 EL n0 own T V h k n) (hd : decode c.code pc = .ok (.ior, 1)) (hv : x ||| y = z) {pc' : Nat} (hp : pc + 1 = pc') (go : Go p e below Q (T.setTop (mkF m pc' Ls (.int z :: rest)))) : Go p e below Q (T.setTop (mkF m pc Ls (.int y :: .int x :: rest))) := by
  subst hp hv; exact Go.of (fun _ q => XS.ior S.here S.hx rfl hd rfl q) go
theorem s_ixor {x y z : Int32} (S : St p l e R s m args below meth c Z a0 EL n0 own T V h k n) (hd : decode c.code pc = .ok (.ixor, 1)) (hv : x ^^^ y = z) {pc' : Nat} (hp : pc + 1 = pc') (go : Go p e below Q (T.setTop (mkF m pc' Ls (.int z :: rest)))) : Go p e below Q (T.setTop (mkF m pc Ls (.int y :: .int x :: rest))) := by
  subst hp hv; exact Go.of (fun _ q => XS.ixor S.here S.hx rfl hd rfl q) go
theorem s_ladd {x y z : Int64} (S : St p l e R s m args below meth c Z a0 EL n0 own T V h k n) (hd : decode c.code pc = .ok (.ladd, 1)) (hv : x + y = z) {pc' : Nat} (hp : pc + 1 = pc') (go : Go p e below Q (T.setTop (mkF m pc' Ls (.long z :: rest)))) : Go p e below Q (T.setTop (mkF m pc Ls (.long y :: .long x :: rest))) := by
  subst hp hv; exact Go.of (fun _ q => XS.ladd S.here S.hx rfl hd rfl q) go
theorem s_lsub {x y z : Int64} (S : St p l e R s m args below meth c Z a0 EL n0 own T V h k n) (hd : decode c.code pc = .ok (.lsub, 1)) (hv : x - y = z) {pc' : Nat} (hp : pc + 1 = pc') (go : Go p e below Q (T.setTop (mkF m pc' Ls (.long z :: rest)))) : Go p e below Q (T.setTop (mkF m pc Ls (.long y :: .long x :: rest))) := by
  subst hp hv; exact Go.of (fun _ q => XS.lsub S.here S.hx rfl hd rfl q) go
theorem s_lmul {x y z : Int64} (S : St p l e R s m args below meth c Z a0 EL n0 own T V h k n) (hd : decode c.code pc = .ok (.lmul, 1)) (hv : x * y = z) {pc' : Nat} (hp : pc + 1 = pc') (go : Go p e below Q (T.setTop (mkF m pc' Ls (.long z :: rest)))) : Go p e below Q (T.setTop (mkF m pc Ls (.long y :: .long x :: rest))) := by
  subst hp hv; exact Go.of (fun _ q => XS.lmul S.here S.hx rfl hd rfl q) go
theorem s_land {x y z : Int64} (S : St p l e R s m args below meth c Z a0 EL n0 own T V h k n) (hd : decode c.code pc = .ok (.land, 1)) (hv : x &&& y = z) {pc' : Nat} (hp : pc + 1 = pc') (go : Go p e below Q (T.setTop (mkF m pc' Ls (.long z :: rest)))) : Go p e below Q (T.setTop (mkF m pc Ls (.long y :: .long x :: rest))) := by
  subst hp hv; exact Go.of (fun _ q => XS.land S.here S.hx rfl hd rfl q) go
theorem s_lor {x y z : Int64} (S : St p l e R s m args below meth c Z a0 EL n0 own T V h k n) (hd : decode c.code pc = .ok (.lor, 1)) (hv : x ||| y = z) {pc' : Nat} (hp : pc + 1 = pc') (go : Go p e below Q (T.setTop (mkF m pc' Ls (.long z :: rest)))) : Go p e below Q (T.setTop (mkF m pc Ls (.long y :: .long x :: rest))) := by
  subst hp hv; exact Go.of (fun _ q => XS.lor S.here S.hx rfl hd rfl q) go
theorem s_lxor {x y z : Int64} (S : St p l e R s m args below meth c Z a0 EL n0 own T V h k n) (hd : decode c.code pc = .ok (.lxor, 1)) (hv : x ^^^ y = z) {pc' : Nat} (hp : pc + 1 = pc') (go : Go p e below Q (T.setTop (mkF m pc' Ls (.long z :: rest)))) : Go p e below Q (T.setTop (mkF m pc Ls (.long y :: .long x :: rest))) := by
  subst hp hv; exact Go.of (fun _ q => XS.lxor S.here S.hx rfl hd rfl q) go
theorem s_ishl {x y z : Int32} (S : St p l e R s m args below meth c Z a0 EL n0 own T V h k n) (hd : decode c.code pc = .ok (.ishl, 1)) (hv : x <<< (y &&& 31) = z) {pc' : Nat} (hp : pc + 1 = pc') (go : Go p e below Q (T.setTop (mkF m pc' Ls (.int z :: rest)))) : Go p e below Q (T.setTop (mkF m pc Ls (.int y :: .int x :: rest))) := by
  subst hp hv; exact Go.of (fun _ q => XS.ishl S.here S.hx rfl hd rfl q) go
theorem s_ishr {x y z : Int32} (S : St p l e R s m args below meth c Z a0 EL n0 own T V h k n) (hd : decode c.code pc = .ok (.ishr, 1)) (hv : x >>> (y &&& 31) = z) {pc' : Nat} (hp : pc + 1 = pc') (go : Go p e below Q (T.setTop (mkF m pc' Ls (.int z :: rest)))) : Go p e below Q (T.setTop (mkF m pc Ls (.int y :: .int x :: rest))) := by
  subst hp hv; exact Go.of (fun _ q => XS.ishr S.here S.hx rfl hd rfl q) go
theorem s_iushr {x y z : Int32} (S : St p l e R s m args below meth c Z a0 EL n0 own T V h k n) (hd : decode c.code pc = .ok (.iushr, 1)) (hv : (x.toUInt32 >>> (y &&& 31).toUInt32).toInt32 = z) {pc' : Nat} (hp : pc + 1 = pc') (go : Go p e below Q (T.setTop (mkF m pc' Ls (.int z :: rest)))) : Go p e below Q (T.setTop (mkF m pc Ls (.int y :: .int x :: rest))) := by
  subst hp hv; exact Go.of (fun _ q => XS.iushr S.here S.hx rfl hd rfl q) go
theorem s_lshl {x z : Int64} {y : Int32} (S : St p l e R s m args below meth c Z a0 EL n0 own T V h k n) (hd : decode c.code pc = .ok (.lshl, 1)) (hv : x <<< (y &&& 0x3f).toInt64 = z) {pc' : Nat} (hp : pc + 1 = pc') (go : Go p e below Q (T.setTop (mkF m pc' Ls (.long z :: rest)))) : Go p e below Q (T.setTop (mkF m pc Ls (.int y :: .long x :: rest))) := by
  subst hp hv; exact Go.of (fun _ q => XS.lshl S.here S.hx rfl hd rfl q) go
theorem s_lshr {x z : Int64} {y : Int32} (S : St p l e R s m args below meth c Z a0 EL n0 own T V h k n) (hd : decode c.code pc = .ok (.lshr, 1)) (hv : x >>> (y &&& 0x3f).toInt64 = z) {pc' : Nat} (hp : pc + 1 = pc') (go : Go p e below Q (T.setTop (mkF m pc' Ls (.long z :: rest)))) : Go p e below Q (T.setTop (mkF m pc Ls (.int y :: .long x :: rest))) := by
  subst hp hv; exact Go.of (fun _ q => XS.lshr S.here S.hx rfl hd rfl q) go
theorem s_lushr {x z : Int64} {y : Int32} (S : St p l e R s m args below meth c Z a0 EL n0 own T V h k n) (hd : decode c.code pc = .ok (.lushr, 1)) (hv : (x.toUInt64 >>> (y &&& 0x3f).toInt64.toUInt64).toInt64 = z) {pc' : Nat} (hp : pc + 1 = pc') (go : Go p e below Q (T.setTop (mkF m pc' Ls (.long z :: rest)))) : Go p e below Q (T.setTop (mkF m pc Ls (.int y :: .long x :: rest))) := by
  subst hp hv; exact Go.of (fun _ q => XS.lushr S.here S.hx rfl hd rfl q) go
theorem s_i2c {x z : Int32} (S : St p l e R s m args below meth c Z a0 EL n0 own T V h k n) (hd : decode c.code pc = .ok (.i2c, 1)) (hv : x.toUInt32.toUInt16.toUInt32.toInt32 = z) {pc' : Nat} (hp : pc + 1 = pc') (go : Go p e below Q (T.setTop (mkF m pc' Ls (.int z :: rest)))) : Go p e below Q (T.setTop (mkF m pc Ls (.int x :: rest))) := by
  subst hp hv; exact Go.of (fun _ q => XS.i2c S.here S.hx rfl hd rfl q) go
theorem s_i2b {x z : Int32} (S : St p l e R s m args below meth c Z a0 EL n0 own T V h k n) (hd : decode c.code pc = .ok (.i2b, 1)) (hv : x.toInt8.toInt32 = z) {pc' : Nat} (hp : pc + 1 = pc') (go : Go p e below Q (T.setTop (mkF m pc' Ls (.int z :: rest)))) : Go p e below Q (T.setTop (mkF m pc Ls (.int x :: rest))) := by
  subst hp hv; exact Go.of (fun _ q => XS.i2b S.here S.hx rfl hd rfl q) go
theorem s_i2s {x z : Int32} (S : St p l e R s m args below meth c Z a0 EL n0 own T V h k n) (hd : decode c.code pc = .ok (.i2s, 1)) (hv : x.toInt16.toInt32 = z) {pc' : Nat} (hp : pc + 1 = pc') (go : Go p e below Q (T.setTop (mkF m pc' Ls (.int z :: rest)))) : Go p e below Q (T.setTop (mkF m pc Ls (.int x :: rest))) := by
  subst hp hv; exact Go.of (fun _ q => XS.i2s S.here S.hx rfl hd rfl q) go
theorem s_i2l {x : Int32} {z : Int64} (S : St p l e R s m args below meth c Z a0 EL n0 own T V h k n) (hd : decode c.code pc = .ok (.i2l, 1)) (hv : x.toInt64 = z) {pc' : Nat} (hp : pc + 1 = pc') (go : Go p e below Q (T.setTop (mkF m pc' Ls (.long z :: rest)))) : Go p e below Q (T.setTop (mkF m pc Ls (.int x :: rest))) := by
  subst hp hv; exact Go.of (fun _ q => XS.i2l S.here S.hx rfl hd rfl q) go
theorem s_l2i {x : Int64} {z : Int32} (S : St p l e R s m args below meth c Z a0 EL n0 own T V h k n) (hd : decode c.code pc = .ok (.l2i, 1)) (hv : x.toInt32 = z) {pc' : Nat} (hp : pc + 1 = pc') (go : Go p e below Q (T.setTop (mkF m pc' Ls (.int z :: rest)))) : Go p e below Q (T.setTop (mkF m pc Ls (.long x :: rest))) := by
  subst hp hv; exact Go.of (fun _ q => XS.l2i S.here S.hx rfl hd rfl q) go
theorem s_lcmp {x y : Int64} {z : Int32} (S : St p l e R s m args below meth c Z a0 EL n0 own T V h k n) (hd : decode c.code pc = .ok (.lcmp, 1)) (hv : lcmpW x y = z) {pc' : Nat} (hp : pc + 1 = pc') (go : Go p e below Q (T.setTop (mkF m pc' Ls (.int z :: rest)))) : Go p e below Q (T.setTop (mkF m pc Ls (.long y :: .long x :: rest))) := by
  subst hp hv; exact Go.of (fun _ q => XS.lcmp S.here S.hx rfl hd rfl q) go
theorem s_idiv {x y z : Int32} (S : St p l e R s m args below meth c Z a0 EL n0 own T V h k n) (hd : decode c.code pc = .ok (.idiv, 1)) (h0 : y ≠ 0) (hv : x / y = z) {pc' : Nat} (hp : pc + 1 = pc') (go : Go p e below Q (T.setTop (mkF m pc' Ls (.int z :: rest)))) : Go p e below Q (T.setTop (mkF m pc Ls (.int y :: .int x :: rest))) := by
  subst hp hv; exact Go.of (fun _ q => XS.idiv S.here S.hx rfl hd rfl h0 q) go
theorem s_ldiv {x y z : Int64} (S : St p l e R s m args below meth c Z a0 EL n0 own T V h k n) (hd : decode c.code pc = .ok (.ldiv, 1)) (h0 : y ≠ 0) (hv : x / y = z) {pc' : Nat} (hp : pc + 1 = pc') (go : Go p e below Q (T.setTop (mkF m pc' Ls (.long z :: rest)))) : Go p e below Q (T.setTop (mkF m pc Ls (.long y :: .long x :: rest))) := by
  subst hp hv; exact Go.of (fun _ q => XS.ldiv S.here S.hx rfl hd rfl h0 q) go
theorem s_irem {x y z : Int32} (S : St p l e R s m args below meth c Z a0 EL n0 own T V h k n) (hd : decode c.code pc = .ok (.irem, 1)) (h0 : y ≠ 0) (hv : x % y = z) {pc' : Nat} (hp : pc + 1 = pc') (go : Go p e below Q (T.setTop (mkF m pc' Ls (.int z :: rest)))) : Go p e below Q (T.setTop (mkF m pc Ls (.int y :: .int x :: rest))) := by
  subst hp hv; rw [← irem_eq_mod] at go; exact Go.of (fun _ q => XS.irem S.here S.hx rfl hd rfl h0 q) go
theorem s_goto (S : St p l e R s m args below meth c Z a0 EL n0 own T V h k n) {o : Int} {pcT : Nat} (hd : decode c.code pc = .ok (.goto o, 3)) (ho : 0 ≤ (pc : Int) + o) (hp : ((pc : Int) + o).toNat = pcT) (go : Go p e below Q (T.setTop (mkF m pcT Ls rest))) : Go p e below Q (T.setTop (mkF m pc Ls rest)) := Go.of (fun _ q => XS.goto S.here S.hx rfl (pc0 := pc) (pc' := pcT) rfl hd ho hp q) go
theorem s_iinc {i : Nat} {d : Int} {v z : Int32} {L' : Array Slot} (S : St p l e R s m args below meth c Z a0 EL n0 own T V h k n) (hd : decode c.code pc = .ok (.iinc i d, 3)) (hv : Ls[i]? = some (.val (.int v))) (hz : v + Int32.ofInt d = z) (hl : storeLocals Ls i (.int z) = some L') {pc' : Nat} (hp : pc + 3 = pc') (go : Go p e below Q (T.setTop (mkF m pc' L' rest))) : Go p e below Q (T.setTop (mkF m pc Ls rest)) := by
  subst hp hz; exact Go.of (fun _ q => XS.iinc S.here S.hx rfl hd hv hl q) go
theorem s_icmpY (S : St p l e R s m args below meth c Z a0 EL n0 own T V h k n) {cd : ClassFile.Cond} {x y : Int32} {o : Int} {pcT : Nat} (hd : decode c.code pc = .ok (.if_icmp cd o, 3)) (hc : if_icmp.holds cd x y = true) (ho : 0 ≤ (pc : Int) + o) (hp : ((pc : Int) + o).toNat = pcT) (go : Go p e below Q (T.setTop (mkF m pcT Ls rest))) : Go p e below Q (T.setTop (mkF m pc Ls (.int y :: .int x :: rest))) := Go.of (fun _ r => XS.icmpYes S.here S.hx rfl (pc0 := pc) (pc' := pcT) rfl hd rfl hc ho hp r) go
theorem s_icmpN (S : St p l e R s m args below meth c Z a0 EL n0 own T V h k n) {cd : ClassFile.Cond} {x y : Int32} {o : Int} (hd : decode c.code pc = .ok (.if_icmp cd o, 3)) (hc : if_icmp.holds cd x y = false) {pc' : Nat} (hp : pc + 3 = pc') (go : Go p e below Q (T.setTop (mkF m pc' Ls rest))) : Go p e below Q (T.setTop (mkF m pc Ls (.int y :: .int x :: rest))) := by
  subst hp; exact Go.of (fun _ r => XS.icmpNo S.here S.hx rfl hd rfl hc r) go
theorem s_ifY (S : St p l e R s m args below meth c Z a0 EL n0 own T V h k n) {cd : ClassFile.Cond} {x : Int32} {o : Int} {pcT : Nat} (hd : decode c.code pc = .ok (.ifCond cd o, 3)) (hc : ifCond.holds cd x = true) (ho : 0 ≤ (pc : Int) + o) (hp : ((pc : Int) + o).toNat = pcT) (go : Go p e below Q (T.setTop (mkF m pcT Ls rest))) : Go p e below Q (T.setTop (mkF m pc Ls (.int x :: rest))) := Go.of (fun _ r => XS.ifYes S.here S.hx rfl (pc0 := pc) (pc' := pcT) rfl hd rfl hc ho hp r) go
theorem s_ifN (S : St p l e R s m args below meth c Z a0 EL n0 own T V h k n) {cd : ClassFile.Cond} {x : Int32} {o : Int} (hd : decode c.code pc = .ok (.ifCond cd o, 3)) (hc : ifCond.holds cd x = false) {pc' : Nat} (hp : pc + 3 = pc') (go : Go p e below Q (T.setTop (mkF m pc' Ls rest))) : Go p e below Q (T.setTop (mkF m pc Ls (.int x :: rest))) := by
  subst hp; exact Go.of (fun _ r => XS.ifNo S.here S.hx rfl hd rfl hc r) go
theorem s_nullY (S : St p l e R s m args below meth c Z a0 EL n0 own T V h k n) {o : Int} {pcT : Nat} (hd : decode c.code pc = .ok (.ifnull o, 3)) (ho : 0 ≤ (pc : Int) + o) (hp : ((pc : Int) + o).toNat = pcT) (go : Go p e below Q (T.setTop (mkF m pcT Ls rest))) : Go p e below Q (T.setTop (mkF m pc Ls (.null :: rest))) := Go.of (fun _ r => XS.ifnullYes S.here S.hx rfl (pc0 := pc) (pc' := pcT) rfl hd rfl ho hp r) go
theorem s_nullN (S : St p l e R s m args below meth c Z a0 EL n0 own T V h k n) {o : Int} {b : Addr} (hd : decode c.code pc = .ok (.ifnull o, 3)) {pc' : Nat} (hp : pc + 3 = pc') (go : Go p e below Q (T.setTop (mkF m pc' Ls rest))) : Go p e below Q (T.setTop (mkF m pc Ls (.ref b :: rest))) := by
  subst hp; exact Go.of (fun _ r => XS.ifnullNo S.here S.hx rfl hd rfl r) go
theorem s_nonnullY (S : St p l e R s m args below meth c Z a0 EL n0 own T V h k n) {o : Int} {b : Addr} {pcT : Nat} (hd : decode c.code pc = .ok (.ifnonnull o, 3)) (ho : 0 ≤ (pc : Int) + o) (hp : ((pc : Int) + o).toNat = pcT) (go : Go p e below Q (T.setTop (mkF m pcT Ls rest))) : Go p e below Q (T.setTop (mkF m pc Ls (.ref b :: rest))) := Go.of (fun _ r => XS.ifnonnullYes S.here S.hx rfl (pc0 := pc) (pc' := pcT) rfl hd rfl ho hp r) go
theorem s_nonnullN (S : St p l e R s m args below meth c Z a0 EL n0 own T V h k n) {o : Int} (hd : decode c.code pc = .ok (.ifnonnull o, 3)) {pc' : Nat} (hp : pc + 3 = pc') (go : Go p e below Q (T.setTop (mkF m pc' Ls rest))) : Go p e below Q (T.setTop (mkF m pc Ls (.null :: rest))) := by
  subst hp; exact Go.of (fun _ r => XS.ifnonnullNo S.here S.hx rfl hd rfl r) go
theorem s_acmp (S : St p l e R s m args below meth c Z a0 EL n0 own T V h k n) {cd : ACond} {x y : Value} (h1 : x.isRef = true) (h2 : y.isRef = true) {o : Int} {pcT : Nat} {same : Bool} (hd : decode c.code pc = .ok (.if_acmp cd o, 3)) (hq : decide (x = y) = same) (ho : 0 ≤ (pc : Int) + o) (hp : pcT = if acV cd same = true then ((pc : Int) + o).toNat else pc + 3) (go : Go p e below Q (T.setTop (mkF m pcT Ls rest))) : Go p e below Q (T.setTop (mkF m pc Ls (y :: x :: rest))) := by
  obtain ⟨hx, eT, hZ, hown, hO, hE, hC, hlk, locs, k0, X, hS, hk, hF⟩ := S
  exact Go.of (fun _ r => Jvm.RoadKit.acmp (g := mkF m pc Ls (y :: x :: rest)) X hx rfl h1 h2 (pc0 := pc) (pc' := pcT) (same := same) rfl hd rfl hq ho hp r) go
theorem g_bastore (S : St p l e R s m args below meth c Z a0 EL n0 own T V h k n) {a : Addr} {kc : ClassId} {z : Int32} {vs : List Value} {dv : Value} (A : Arv Z h a kc .byte z vs dv) {j : Int32} {x : Int32} (hj : ¬ j < 0 ∧ j < z) (i : Nat) (hi : j.toNatClampNeg = i) (hlt : i < vs.length) (na : n0 ≤ a) (sf : Safe Z EL V h a) (hd : decode c.code pc = .ok (.bastore, 1))
    (go : ∀ T' h', St p l e R s m args below meth c Z a0 EL n0 own T' V h' k n → Keep h h' [a] → Arv Z h' a kc .byte z (vs.set i (.int (nar .byte x))) dv → Safe Z EL V h' a → Go p e below Q (T'.setTop (mkF m (pc + 1) Ls rest))) : Go p e below Q (T.setTop (mkF m pc Ls ((.int x) :: .int j :: .ref a :: rest))) := by
  obtain ⟨hx, eT, hZ, hown, hO, hE, hC, hlk, locs, k0, X, hS, hk, hF⟩ := S
  skip
  obtain ⟨cl, Ar, q1, q2, q3, q4, q5⟩ := A
  obtain ⟨T', h', X', e', W, st⟩ := stB X hx hZ eT Ar (j := j) (x := x) (inb_of q2 hj) (g := mkF m pc Ls ((.int x) :: .int j :: .ref a :: rest)) rfl rfl hd
  have K := Keep.of_wr W
  exact Go.of st (go T' h' ⟨hx, e', hZ, hown, hO.wr W na, hE, hC.trans (CHr.wr W sf hC.1), hlk, _, k0, X', hS, Nat.le_trans hk K.1, Fr.snoc X' hF na⟩ K (Arv.set Ar q1 q2 q3 q4 q5 (fits_nar_byte x) W i hi hlt) (Safe.wr W sf hC.1 sf))
theorem g_iastore (S : St p l e R s m args below meth c Z a0 EL n0 own T V h k n) {a : Addr} {kc : ClassId} {z : Int32} {vs : List Value} {dv : Value} (A : Arv Z h a kc .int z vs dv) {j : Int32} {x : Int32} (hj : ¬ j < 0 ∧ j < z) (i : Nat) (hi : j.toNatClampNeg = i) (hlt : i < vs.length) (na : n0 ≤ a) (hd : decode c.code pc = .ok (.iastore, 1))
    (go : ∀ T' h', St p l e R s m args below meth c Z a0 EL n0 own T' V h' k n → Keep h h' [a] → Arv Z h' a kc .int z (vs.set i (.int x)) dv → Safe Z EL V h' a → Go p e below Q (T'.setTop (mkF m (pc + 1) Ls rest))) : Go p e below Q (T.setTop (mkF m pc Ls ((.int x) :: .int j :: .ref a :: rest))) := by
  obtain ⟨hx, eT, hZ, hown, hO, hE, hC, hlk, locs, k0, X, hS, hk, hF⟩ := S
  have sf : Safe Z EL V h a := Safe.arv hZ.alike A (by decide)
  obtain ⟨cl, Ar, q1, q2, q3, q4, q5⟩ := A
  obtain ⟨T', h', X', e', W, st⟩ := stI X hx hZ eT Ar (j := j) (x := x) (inb_of q2 hj) (g := mkF m pc Ls ((.int x) :: .int j :: .ref a :: rest)) rfl rfl hd
  have K := Keep.of_wr W
  exact Go.of st (go T' h' ⟨hx, e', hZ, hown, hO.wr W na, hE, hC.trans (CHr.wr W sf hC.1), hlk, _, k0, X', hS, Nat.le_trans hk K.1, Fr.snoc X' hF na⟩ K (Arv.set Ar q1 q2 q3 q4 q5 rfl W i hi hlt) (Safe.wr W sf hC.1 sf))
theorem g_lastore (S : St p l e R s m args below meth c Z a0 EL n0 own T V h k n) {a : Addr} {kc : ClassId} {z : Int32} {vs : List Value} {dv : Value} (A : Arv Z h a kc .long z vs dv) {j : Int32} {x : Int64} (hj : ¬ j < 0 ∧ j < z) (i : Nat) (hi : j.toNatClampNeg = i) (hlt : i < vs.length) (na : n0 ≤ a) (hd : decode c.code pc = .ok (.lastore, 1))
    (go : ∀ T' h', St p l e R s m args below meth c Z a0 EL n0 own T' V h' k n → Keep h h' [a] → Arv Z h' a kc .long z (vs.set i (.long x)) dv → Safe Z EL V h' a → Go p e below Q (T'.setTop (mkF m (pc + 1) Ls rest))) : Go p e below Q (T.setTop (mkF m pc Ls ((.long x) :: .int j :: .ref a :: rest))) := by
  obtain ⟨hx, eT, hZ, hown, hO, hE, hC, hlk, locs, k0, X, hS, hk, hF⟩ := S
  have sf : Safe Z EL V h a := Safe.arv hZ.alike A (by decide)
  obtain ⟨cl, Ar, q1, q2, q3, q4, q5⟩ := A
  obtain ⟨T', h', X', e', W, st⟩ := stJ X hx hZ eT Ar (j := j) (x := x) (inb_of q2 hj) (g := mkF m pc Ls ((.long x) :: .int j :: .ref a :: rest)) rfl rfl hd
  have K := Keep.of_wr W
  exact Go.of st (go T' h' ⟨hx, e', hZ, hown, hO.wr W na, hE, hC.trans (CHr.wr W sf hC.1), hlk, _, k0, X', hS, Nat.le_trans hk K.1, Fr.snoc X' hF na⟩ K (Arv.set Ar q1 q2 q3 q4 q5 rfl W i hi hlt) (Safe.wr W sf hC.1 sf))
theorem g_iaload (S : St p l e R s m args below meth c Z a0 EL n0 own T V h k n) {a : Addr} {kc : ClassId} {z : Int32} {vs : List Value} {dv : Value} (A : Arv Z h a kc .int z vs dv) {j : Int32} (hj : ¬ j < 0 ∧ j < z) {x : Int32} (hv : vs.getD j.toNatClampNeg dv = (.int x)) (hd : decode c.code pc = .ok (.iaload, 1)) (go : Go p e below Q (T.setTop (mkF m (pc + 1) Ls ((.int x) :: rest)))) : Go p e below Q (T.setTop (mkF m pc Ls (.int j :: .ref a :: rest))) := by
  obtain ⟨hx, eT, hZ, hown, hO, hE, hC, hlk, locs, k0, X, hS, hk, hF⟩ := S
  obtain ⟨cl, Ar, q1, q2, q3, q4, q5⟩ := A
  have hin := inb_of q2 hj
  exact Go.of (fun _ q => X.iaload hx (j := j) (v := (.int x)) (by rw [eT]; exact Ar.1) (State.isArrayOf_alike (T := s.setVm V) hZ.alike Ar.2.1) Ar.2.2 hin (q4.at hin hv) (g := mkF m pc Ls (.int j :: .ref a :: rest)) rfl rfl hd _ q) go
theorem g_laload (S : St p l e R s m args below meth c Z a0 EL n0 own T V h k n) {a : Addr} {kc : ClassId} {z : Int32} {vs : List Value} {dv : Value} (A : Arv Z h a kc .long z vs dv) {j : Int32} (hj : ¬ j < 0 ∧ j < z) {x : Int64} (hv : vs.getD j.toNatClampNeg dv = (.long x)) (hd : decode c.code pc = .ok (.laload, 1)) (go : Go p e below Q (T.setTop (mkF m (pc + 1) Ls ((.long x) :: rest)))) : Go p e below Q (T.setTop (mkF m pc Ls (.int j :: .ref a :: rest))) := by
  obtain ⟨hx, eT, hZ, hown, hO, hE, hC, hlk, locs, k0, X, hS, hk, hF⟩ := S
  obtain ⟨cl, Ar, q1, q2, q3, q4, q5⟩ := A
  have hin := inb_of q2 hj
  exact Go.of (fun _ q => X.laload hx (j := j) (v := (.long x)) (by rw [eT]; exact Ar.1) (State.isArrayOf_alike (T := s.setVm V) hZ.alike Ar.2.1) Ar.2.2 hin (q4.at hin hv) (g := mkF m pc Ls (.int j :: .ref a :: rest)) rfl rfl hd _ q) go
theorem g_baload (S : St p l e R s m args below meth c Z a0 EL n0 own T V h k n) {a : Addr} {kc : ClassId} {z : Int32} {vs : List Value} {dv : Value} (A : Arv Z h a kc .byte z vs dv) {j : Int32} (hj : ¬ j < 0 ∧ j < z) {x : Int32} (hv : vs.getD j.toNatClampNeg dv = (.int x)) (hd : decode c.code pc = .ok (.baload, 1)) (go : Go p e below Q (T.setTop (mkF m (pc + 1) Ls ((.int x) :: rest)))) : Go p e below Q (T.setTop (mkF m pc Ls (.int j :: .ref a :: rest))) := by
  obtain ⟨hx, eT, hZ, hown, hO, hE, hC, hlk, locs, k0, X, hS, hk, hF⟩ := S
  obtain ⟨cl, Ar, q1, q2, q3, q4, q5⟩ := A
  have hin := inb_of q2 hj
  exact Go.of (fun _ q => X.baloadBytes hx (j := j) (v := (.int x)) (by rw [eT]; exact Ar.1) (State.isArrayOf_alike (T := s.setVm V) hZ.alike Ar.2.1) Ar.2.2 hin (q4.at hin hv) (g := mkF m pc Ls (.int j :: .ref a :: rest)) rfl rfl hd _ q) go
theorem g_instN (S : St p l e R s m args below meth c Z a0 EL n0 own T V h k n) {K C : String} {index : Nat} (w : (Cond.classLink own index K).before a0 Z = true) {a : Addr} (E : Exa Z h a C) (F : ∃ c t, Z.vm.findClass C = some c ∧ Z.vm.findClass K = some t ∧ Z.vm.assignable c t = false) (hd : decode c.code pc = .ok (.instanceof index, 3))
    (go : ∀ T', St p l e R s m args below meth c Z a0 EL n0 own T' V h k n → Go p e below Q (T'.setTop (mkF m (pc + 3) Ls (.int 0 :: rest)))) : Go p e below Q (T.setTop (mkF m pc Ls (.ref a :: rest))) := by
  obtain ⟨hx, eT, hZ, hown, hO, hE, hC, hlk, locs, k0, X, hS, hk, hF⟩ := S
  obtain ⟨T', X', e', st⟩ := instNo X hx hZ hown w eT E F (g := mkF m pc Ls (.ref a :: rest)) rfl rfl hd
  exact Go.of st (go T' ⟨hx, e', hZ, hown, hO, hE, hC, hlk, locs, k0, X', hS, hk, hF⟩)
theorem g_instNull (S : St p l e R s m args below meth c Z a0 EL n0 own T V h k n) {index : Nat} (hd : decode c.code pc = .ok (.instanceof index, 3)) (go : Go p e below Q (T.setTop (mkF m (pc + 3) Ls (.int 0 :: rest)))) : Go p e below Q (T.setTop (mkF m pc Ls (.null :: rest))) := by
  obtain ⟨hx, eT, hZ, hown, hO, hE, hC, hlk, locs, k0, X, hS, hk, hF⟩ := S
  exact Go.of (fun _ q => X.instanceofNull hx (g := mkF m pc Ls (.null :: rest)) rfl rfl hd _ q) go
end Steps
end Jvm.OwnKit
/- laws to paste: Road.backV, Road.lenW, Road.chN, Road.codOf (cut by pick.py; bodies as the Statement names them) -/
namespace Jvm.Pilot.@@N@@
namespace StrChars
open Jvm Sem ClassFile Op Lib Jvm.Stand Jvm.Free.XT Jvm.Free.ALB Jvm.Free.JM Jvm.Free
open Jvm.Lib.Cold (StaticIs)
/-- a char array whose places are chars -/
def Ch (a : Addr) (A : Cell) (U : State) : Prop := Arr .char a A U ∧ Typed .char A
theorem Ch.mv {a : Addr} {A : Cell} {U U' : State} (h : Ch a A U) (hal : U.vm.Alike U'.vm) (hh : U'.heap = U.heap) : Ch a A U' := ⟨h.1.mv hal hh, h.2⟩
theorem Ch.keep {a : Addr} {A : Cell} {U U' : State} (h : Ch a A U) (hal : U.vm.Alike U'.vm) (hk : U'.heap[a]? = some A) : Ch a A U' := ⟨h.1.keep hal hk, h.2⟩
/-- what place i of a char[]'s cell holds -/
def cv (A : Cell) (i : Nat) : Int32 := match A.slots[i]? with | some (.int x) => x | _ => 0
theorem Ch.get {a : Addr} {A : Cell} {U : State} (h : Ch a A U) {i : Nat} (hi : i < A.slots.size) : A.slots[i]? = some (.int (cv A i)) := by
  have e := Array.getElem?_eq_getElem hi
  have f := h.2 i _ e
  unfold cv; rw [e]
  generalize A.slots[i] = v at f
  cases v <;> simp [fits] at f ⊢
/-- the byte that i2b leaves of a char -/
def lo8 (x : Int32) : Int32 := x.toInt8.toInt32
theorem fits_lo8 (y : Int32) : fits .byte (.int (lo8 y)) = true := by
  have h1 := y.toInt8.le_toInt
  have h2 := y.toInt8.toInt_lt
  simp only [lo8, fits, Bool.and_eq_true, decide_eq_true_eq, Int32.le_iff_toInt_le, Int8.toInt_toInt32, show (-128 : Int32).toInt = -128 from by decide, show (127 : Int32).toInt = 127 from by decide]
  omega
/-- A' is A but that each place j of lo .. hi - 1 holds f j -/
def Laid (A A' : Cell) (lo hi : Nat) (f : Nat → Value) : Prop := A'.cls = A.cls ∧ A'.vm = A.vm ∧ A'.slots.size = A.slots.size ∧ ∀ i, A'.slots[i]? = if lo ≤ i ∧ i < hi then some (f i) else A.slots[i]?
theorem Laid.zero (A : Cell) (lo : Nat) (f : Nat → Value) : Laid A A lo (lo + 0) f := ⟨rfl, rfl, rfl, fun i => by rw [if_neg (by omega)]⟩
theorem Laid.step {A Ak : Cell} {lo k : Nat} {f : Nat → Value} {v : Value} (h : Laid A Ak lo k f) (hlo : lo ≤ k) (hk : k < Ak.slots.size) (hv : v = f k) : Laid A (Ak.setSlot k v) lo (k + 1) f := by
  refine ⟨h.1, h.2.1, by simpa [Cell.setSlot] using h.2.2.1, fun i => ?_⟩
  by_cases e : k = i
  · subst e; rw [Cell.slots_setSlot_self v hk, if_pos (by omega), hv]
  · rw [Cell.slots_setSlot_ne v e, h.2.2.2 i]
    by_cases q : lo ≤ i ∧ i < k
    · rw [if_pos q, if_pos (by omega)]
    · rw [if_neg q, if_neg (by omega)]
def U16 : String := "java/lang/StringUTF16"
namespace Cmp5
def yN : MethodName := ⟨"java/lang/StringUTF16", "compress", "([CI[BII)I"⟩
abbrev yB : ByteArray := jdk_52_method_21_code
theorem d0 : decode yB 0 = .ok (.iconst 0, 1) := by decide +kernel
theorem d1 : decode yB 1 = .ok (.istore 5, 2) := by decide +kernel
theorem d3 : decode yB 3 = .ok (.iload 5, 2) := by decide +kernel
theorem d5 : decode yB 5 = .ok (.iload 4, 2) := by decide +kernel
theorem d7 : decode yB 7 = .ok (.if_icmp (.ge) 37, 3) := by decide +kernel
theorem d10 : decode yB 10 = .ok (.aload_n 0, 1) := by decide +kernel
theorem d11 : decode yB 11 = .ok (.iload_n 1, 1) := by decide +kernel
theorem d12 : decode yB 12 = .ok (.caload, 1) := by decide +kernel
theorem d13 : decode yB 13 = .ok (.istore 6, 2) := by decide +kernel
theorem d15 : decode yB 15 = .ok (.iload 6, 2) := by decide +kernel
theorem d17 : decode yB 17 = .ok (.sipush 255, 3) := by decide +kernel
theorem d20 : decode yB 20 = .ok (.if_icmp (.le) 6, 3) := by decide +kernel
theorem d26 : decode yB 26 = .ok (.aload_n 2, 1) := by decide +kernel
theorem d27 : decode yB 27 = .ok (.iload_n 3, 1) := by decide +kernel
theorem d28 : decode yB 28 = .ok (.iload 6, 2) := by decide +kernel
theorem d30 : decode yB 30 = .ok (.i2b, 1) := by decide +kernel
theorem d31 : decode yB 31 = .ok (.bastore, 1) := by decide +kernel
theorem d32 : decode yB 32 = .ok (.iinc 1 1, 3) := by decide +kernel
theorem d35 : decode yB 35 = .ok (.iinc 3 1, 3) := by decide +kernel
theorem d38 : decode yB 38 = .ok (.iinc 5 1, 3) := by decide +kernel
theorem d41 : decode yB 41 = .ok (.goto (-38), 3) := by decide +kernel
theorem d44 : decode yB 44 = .ok (.iload 4, 2) := by decide +kernel
theorem d46 : decode yB 46 = .ok (.ireturn, 1) := by decide +kernel
def site : List Cond := []
def tab : Cond := tabOf yN yB 7 (some .int) site
def P (b : Addr) (A : Cell) (d : Addr) (B : Cell) (o q len : Nat) (args : Array Value) (s : State) : Prop := args = #[.ref b, .int (Int32.ofNat o), .ref d, .int (Int32.ofNat q), .int (Int32.ofNat len)] ∧ Ch b A s ∧ Arr .byte d B s ∧ b ≠ d ∧ o + len ≤ A.slots.size ∧ q + len ≤ B.slots.size ∧ ∀ i, i < len → ¬ 255 < cv A (o + i)
def E (b : Addr) (A : Cell) (d : Addr) (B : Cell) (o q len : Nat) (r : Option Value) (s u : State) : Prop := r = some (.int (Int32.ofNat len)) ∧ ∃ B', Put d B' s u ∧ Laid B B' q (q + len) (fun j => Value.int (lo8 (cv A (o + (j - q)))))
/-- no char of the range above 255: len; the places written hold each char's low byte -/
theorem law (l : Launch) (b : Addr) (A : Cell) (d : Addr) (B : Cell) (o q len : Nat) : Law l yN 5 5 0 0 yB 7 (some .int) site (P b A d B o q len) (E b A d B o q len) (copyLocs d q len) 0 0 := by
  refine Law.of_walk (plainFor_of_name (by decide +kernel)) (by decide +kernel) (by decide +kernel) (by decide) (fun _ _ h => by rw [h.1]; rfl) (fun _ U U' hal hh h => ⟨h.1, h.2.1.mv hal hh, h.2.2.1.mv hal hh, h.2.2.2⟩) (fun r U U' V V' h1 hal h2 h => ⟨h.1, h.2.elim fun B' q => ⟨B', q.1.mv h1 h2, q.2⟩⟩) ?_
  intro p e s m args below meth c s₁ X0 hexec hbytes hml hret hlk hnm hown hh0 W hP
  obtain ⟨rfl, hA, hB, hne, l1, l2, hp⟩ := hP
  have c1 : Steps p.tables e below (s₁.setTop (entryFrame m #[.ref b, .int (Int32.ofNat o), .ref d, .int (Int32.ofNat q), .int (Int32.ofNat len)] 7)) (s₁.setTop (mkF m 0 #[.val (.ref b), .val (.int (Int32.ofNat o)), .val (.ref d), .val (.int (Int32.ofNat q)), .val (.int (Int32.ofNat len)), .unset, .unset] [])) := entry rfl
  have hA0 := hA.1.mv X0.warmed.alike hh0
  have hB0 := hB.mv X0.warmed.alike hh0
  have a31 := hA.1.2.2.2
  have c2 : Steps p.tables e below (s₁.setTop (entryFrame m #[.ref b, .int (Int32.ofNat o), .ref d, .int (Int32.ofNat q), .int (Int32.ofNat len)] 7)) (s₁.setTop (mkF m 3 #[.val (.ref b), .val (.int (Int32.ofNat o)), .val (.ref d), .val (.int (Int32.ofNat q)), .val (.int (Int32.ofNat len)), .val (.int 0), .unset] [])) := c1.trans (by
    refine iconstV X0.here hexec rfl 0 (hb hbytes d0) (by decide) ?_
    refine XS.istore X0.here hexec rfl (hb hbytes d1) rfl rfl ?_
    exact Steps.refl _)
  have loop : ∀ (r i : Nat), i + r = len → ∀ (z : Slot), (z = .unset ∨ ∃ w, z = .val w ∧ w.category = 1) → ∀ (Tl : State) (Bk : Cell), Stand p l e { frames := 0, locals := 0, cells := 0, slots := 0 } s m #[.ref b, .int (Int32.ofNat o), .ref d, .int (Int32.ofNat q), .int (Int32.ofNat len)] below meth c Tl ([] ++ copyLocs d q i) 0 0 → Put d Bk s₁ Tl → Laid B Bk q (q + i) (fun j => Value.int (lo8 (cv A (o + (j - q))))) →
      Steps p.tables e below (s₁.setTop (entryFrame m #[.ref b, .int (Int32.ofNat o), .ref d, .int (Int32.ofNat q), .int (Int32.ofNat len)] 7)) (Tl.setTop (mkF m 3 #[.val (.ref b), .val (.int (Int32.ofNat (o + i))), .val (.ref d), .val (.int (Int32.ofNat (q + i))), .val (.int (Int32.ofNat len)), .val (.int (Int32.ofNat i)), z] [])) → ∃ (T' : State) (B' : Cell) (z' : Slot), Stand p l e { frames := 0, locals := 0, cells := 0, slots := 0 } s m #[.ref b, .int (Int32.ofNat o), .ref d, .int (Int32.ofNat q), .int (Int32.ofNat len)] below meth c T' ([] ++ copyLocs d q len) 0 0 ∧ Put d B' s₁ T' ∧ Laid B B' q (q + len) (fun j => Value.int (lo8 (cv A (o + (j - q))))) ∧
      Steps p.tables e below (s₁.setTop (entryFrame m #[.ref b, .int (Int32.ofNat o), .ref d, .int (Int32.ofNat q), .int (Int32.ofNat len)] 7)) (T'.setTop (mkF m 3 #[.val (.ref b), .val (.int (Int32.ofNat (o + len))), .val (.ref d), .val (.int (Int32.ofNat (q + len))), .val (.int (Int32.ofNat len)), .val (.int (Int32.ofNat len)), z'] [])) := by
    intro r
    induction r with
    | zero =>
      intro i hi z hz Tl Bk Xl pl fl cl
      have hil : i = len := by omega
      rw [hil] at Xl fl cl
      exact ⟨Tl, Bk, z, Xl, pl, fl, cl⟩
    | succ r ih =>
      intro i hi z hz Tl Bk Xl pl fl cl
      have all := X0.warmed.alike.symm.trans Xl.warmed.alike
      have hAl := hA0.keep all (pl.other hne hA0.1)
      have hBk := hB0.like all pl.1 fl.1 fl.2.1 fl.2.2.1
      have hlt : q + i < Bk.slots.size := by rw [fl.2.2.1]; omega
      have c3 : Steps p.tables e below (s₁.setTop (entryFrame m #[.ref b, .int (Int32.ofNat o), .ref d, .int (Int32.ofNat q), .int (Int32.ofNat len)] 7)) (Tl.setTop (mkF m 12 #[.val (.ref b), .val (.int (Int32.ofNat (o + i))), .val (.ref d), .val (.int (Int32.ofNat (q + i))), .val (.int (Int32.ofNat len)), .val (.int (Int32.ofNat i)), z] [.int (Int32.ofNat (o + i)), .ref b])) := cl.trans (by
        refine XS.iload Xl.here hexec rfl (hb hbytes d3) rfl ?_
        refine XS.iload Xl.here hexec rfl (hb hbytes d5) rfl ?_
        refine XS.icmpNo Xl.here hexec rfl (hb hbytes d7) rfl (ii_ge_f (lt32 (by omega) (by omega))) ?_
        refine XS.aloadN Xl.here hexec rfl (hb hbytes d10) rfl rfl ?_
        refine XS.iloadN Xl.here hexec rfl (hb hbytes d11) rfl ?_
        exact Steps.refl _)
      have c4 : Steps p.tables e below (s₁.setTop (entryFrame m #[.ref b, .int (Int32.ofNat o), .ref d, .int (Int32.ofNat q), .int (Int32.ofNat len)] 7)) (Tl.setTop (mkF m 13 #[.val (.ref b), .val (.int (Int32.ofNat (o + i))), .val (.ref d), .val (.int (Int32.ofNat (q + i))), .val (.int (Int32.ofNat len)), .val (.int (Int32.ofNat i)), z] [.int (cv A (o + i))])) := c3.trans (by
        refine Xl.aget hexec hAl rfl (hA.get (i := o + i) (by omega)) rfl rfl (hb hbytes d12) ?_
        exact Steps.refl _)
      have c5 : Steps p.tables e below (s₁.setTop (entryFrame m #[.ref b, .int (Int32.ofNat o), .ref d, .int (Int32.ofNat q), .int (Int32.ofNat len)] 7)) (Tl.setTop (mkF m 15 #[.val (.ref b), .val (.int (Int32.ofNat (o + i))), .val (.ref d), .val (.int (Int32.ofNat (q + i))), .val (.int (Int32.ofNat len)), .val (.int (Int32.ofNat i)), .val (.int (cv A (o + i)))] [])) := c4.trans (by
        refine XS.istoreS Xl.here hexec rfl (hb hbytes d13) rfl rfl hz ?_
        exact Steps.refl _)
      have c6 : Steps p.tables e below (s₁.setTop (entryFrame m #[.ref b, .int (Int32.ofNat o), .ref d, .int (Int32.ofNat q), .int (Int32.ofNat len)] 7)) (Tl.setTop (mkF m 31 #[.val (.ref b), .val (.int (Int32.ofNat (o + i))), .val (.ref d), .val (.int (Int32.ofNat (q + i))), .val (.int (Int32.ofNat len)), .val (.int (Int32.ofNat i)), .val (.int (cv A (o + i)))] [.int (lo8 (cv A (o + i))), .int (Int32.ofNat (q + i)), .ref d])) := c5.trans (by
        refine XS.iload Xl.here hexec rfl (hb hbytes d15) rfl ?_
        refine sipushV Xl.here hexec rfl 255 (hb hbytes d17) (by decide) ?_
        refine XS.icmpYes Xl.here hexec rfl (pc0 := 20) rfl (hb hbytes d20) rfl (ii_le_t (hp i (by omega))) (by decide) rfl ?_
        refine XS.aloadN Xl.here hexec rfl (hb hbytes d26) rfl rfl ?_
        refine XS.iloadN Xl.here hexec rfl (hb hbytes d27) rfl ?_
        refine XS.iload Xl.here hexec rfl (hb hbytes d28) rfl ?_
        refine i2b Xl.here hexec rfl (hb hbytes d30) rfl ?_
        exact Steps.refl _)
      obtain ⟨T7, X7, p7, st7⟩ := Xl.aput hexec hBk rfl hlt rfl (fits_lo8 (cv A (o + i))) (g := (mkF m 31 #[.val (.ref b), .val (.int (Int32.ofNat (o + i))), .val (.ref d), .val (.int (Int32.ofNat (q + i))), .val (.int (Int32.ofNat len)), .val (.int (Int32.ofNat i)), .val (.int (cv A (o + i)))] [.int (lo8 (cv A (o + i))), .int (Int32.ofNat (q + i)), .ref d])) rfl (rest := []) rfl (hb hbytes d31)
      have c8 : Steps p.tables e below (s₁.setTop (entryFrame m #[.ref b, .int (Int32.ofNat o), .ref d, .int (Int32.ofNat q), .int (Int32.ofNat len)] 7)) (T7.setTop (mkF m 32 #[.val (.ref b), .val (.int (Int32.ofNat (o + i))), .val (.ref d), .val (.int (Int32.ofNat (q + i))), .val (.int (Int32.ofNat len)), .val (.int (Int32.ofNat i)), .val (.int (cv A (o + i)))] [])) := c6.trans (st7 _ (Steps.refl _))
      have c9 : Steps p.tables e below (s₁.setTop (entryFrame m #[.ref b, .int (Int32.ofNat o), .ref d, .int (Int32.ofNat q), .int (Int32.ofNat len)] 7)) (T7.setTop (mkF m 3 #[.val (.ref b), .val (.int (Int32.ofNat (o + i) + 1)), .val (.ref d), .val (.int (Int32.ofNat (q + i) + 1)), .val (.int (Int32.ofNat len)), .val (.int (Int32.ofNat i + 1)), .val (.int (cv A (o + i)))] [])) := c8.trans (by
        refine iincV X7.here hexec rfl 1 (hb hbytes d32) (by decide) rfl rfl ?_
        refine iincV X7.here hexec rfl 1 (hb hbytes d35) (by decide) rfl rfl ?_
        refine iincV X7.here hexec rfl 1 (hb hbytes d38) (by decide) rfl rfl ?_
        refine XS.goto X7.here hexec rfl (pc0 := 41) rfl (hb hbytes d41) (by decide) rfl ?_
        exact Steps.refl _)
      have c10 : Steps p.tables e below (s₁.setTop (entryFrame m #[.ref b, .int (Int32.ofNat o), .ref d, .int (Int32.ofNat q), .int (Int32.ofNat len)] 7)) (T7.setTop (mkF m 3 #[.val (.ref b), .val (.int (Int32.ofNat (o + (i + 1)))), .val (.ref d), .val (.int (Int32.ofNat (q + (i + 1)))), .val (.int (Int32.ofNat len)), .val (.int (Int32.ofNat (i + 1))), .val (.int (cv A (o + i)))] [])) := by
        have := c9
        rw [succ32, succ32, succ32] at this
        exact this
      exact ih (i + 1) (by omega) _ (Or.inr ⟨_, rfl, rfl⟩) T7 _ (by rw [copyLocs_step, ← List.append_assoc]; exact X7) (pl.trans p7) (fl.step (by omega) hlt (by simp)) c10
  obtain ⟨T9, B9, z9, X9, p9, f9, g9⟩ := loop len 0 (by omega) .unset (Or.inl rfl) s₁ B (by simpa [copyLocs] using X0) ⟨hB0.1, fun _ _ => rfl, rfl⟩ (Laid.zero _ _ _) c2
  have c11 : Steps p.tables e below (s₁.setTop (entryFrame m #[.ref b, .int (Int32.ofNat o), .ref d, .int (Int32.ofNat q), .int (Int32.ofNat len)] 7)) (T9.setTop (mkF m 46 #[.val (.ref b), .val (.int (Int32.ofNat (o + len))), .val (.ref d), .val (.int (Int32.ofNat (q + len))), .val (.int (Int32.ofNat len)), .val (.int (Int32.ofNat len)), z9] [.int (Int32.ofNat len)])) := g9.trans (by
    refine XS.iload X9.here hexec rfl (hb hbytes d3) rfl ?_
    refine XS.iload X9.here hexec rfl (hb hbytes d5) rfl ?_
    refine XS.icmpYes X9.here hexec rfl (pc0 := 7) rfl (hb hbytes d7) rfl (ii_ge_t (nlt32 (by omega) (Nat.le_refl _))) (by decide) rfl ?_
    refine XS.iload X9.here hexec rfl (hb hbytes d44) rfl ?_
    exact Steps.refl _)
  exact ⟨T9, some (.int (Int32.ofNat len)), _, _, _, X9, by simp, rfl, rfl, (fun h => by cases h), ⟨rfl, B9, p9.from hh0, f9⟩, fun fs hl => c11.trans (X9.ireturnOut hexec hret rfl (Or.inl rfl) (hb hbytes d46) hl)⟩
end Cmp5
namespace Cmp3
def yN : MethodName := ⟨"java/lang/StringUTF16", "compress", "([CII)[B"⟩
abbrev yB : ByteArray := jdk_52_method_16_code
theorem d0 : decode yB 0 = .ok (.iload_n 2, 1) := by decide +kernel
theorem d1 : decode yB 1 = .ok (.newarray .byte, 2) := by decide +kernel
theorem d3 : decode yB 3 = .ok (.astore_n 3, 1) := by decide +kernel
theorem d4 : decode yB 4 = .ok (.aload_n 0, 1) := by decide +kernel
theorem d5 : decode yB 5 = .ok (.iload_n 1, 1) := by decide +kernel
theorem d6 : decode yB 6 = .ok (.aload_n 3, 1) := by decide +kernel
theorem d7 : decode yB 7 = .ok (.iconst 0, 1) := by decide +kernel
theorem d8 : decode yB 8 = .ok (.iload_n 2, 1) := by decide +kernel
theorem d9 : decode yB 9 = .ok (.invokestatic 115, 3) := by decide +kernel
theorem d12 : decode yB 12 = .ok (.istore 4, 2) := by decide +kernel
theorem d14 : decode yB 14 = .ok (.iload 4, 2) := by decide +kernel
theorem d16 : decode yB 16 = .ok (.iload_n 2, 1) := by decide +kernel
theorem d17 : decode yB 17 = .ok (.if_icmp (.eq) 40, 3) := by decide +kernel
theorem d57 : decode yB 57 = .ok (.aload_n 3, 1) := by decide +kernel
theorem d58 : decode yB 58 = .ok (.areturn, 1) := by decide +kernel
def site : List Cond := [.arrayClass .byte, Cmp5.tab] ++ staticW U16 115 Cmp5.yN
def tab : Cond := tabOf yN yB 6 (some (.array .byte)) site
def P (b : Addr) (A : Cell) (o len : Nat) (args : Array Value) (s : State) : Prop := args = #[.ref b, .int (Int32.ofNat o), .int (Int32.ofNat len)] ∧ Ch b A s ∧ o + len ≤ A.slots.size ∧ len ≤ 536870912 ∧ ∀ i, i < len → ¬ 255 < cv A (o + i)
def E (b : Addr) (A : Cell) (o len : Nat) (r : Option Value) (s u : State) : Prop := NewArr .byte "[B" len (fun j => .int (lo8 (cv A (o + j)))) r s u ∧ u.heap.size = s.heap.size + 1
/-- no char of the range above 255: a new byte[] of their low bytes -/
theorem law (l : Launch) (b : Addr) (A : Cell) (o len : Nat) : Law l yN 3 3 1 18 yB 6 (some (.array .byte)) site (P b A o len) (E b A o len) [] 1 len := by
  refine Law.of_walk (plainFor_of_name (by decide +kernel)) (by decide +kernel) (by decide +kernel) (by decide) (fun _ _ h => by rw [h.1]; rfl) (fun _ U U' hal hh h => ⟨h.1, h.2.1.mv hal hh, h.2.2⟩) (fun r U U' V V' h1 hal h2 h => ⟨NewArr.mv r U U' V V' h1 hal h2 h.1, by rw [h1, h2]; exact h.2⟩) ?_
  intro p e s m args below meth c s₁ X0 hexec hbytes hml hret hlk hnm hown hh0 W hP
  obtain ⟨rfl, hA, l1, l2, hp⟩ := hP
  have a31 := hA.1.2.2.2
  have c1 : Steps p.tables e below (s₁.setTop (entryFrame m #[.ref b, .int (Int32.ofNat o), .int (Int32.ofNat len)] 6)) (s₁.setTop (mkF m 0 #[.val (.ref b), .val (.int (Int32.ofNat o)), .val (.int (Int32.ofNat len)), .unset, .unset, .unset] [])) := entry rfl
  have c2 : Steps p.tables e below (s₁.setTop (entryFrame m #[.ref b, .int (Int32.ofNat o), .int (Int32.ofNat len)] 6)) (s₁.setTop (mkF m 1 #[.val (.ref b), .val (.int (Int32.ofNat o)), .val (.int (Int32.ofNat len)), .unset, .unset, .unset] [.int (Int32.ofNat len)])) := c1.trans (by
    refine XS.iloadN X0.here hexec rfl (hb hbytes d0) rfl ?_
    exact Steps.refl _)
  obtain ⟨T3, B3, X3, ba3, bs3, bv3, bh3, bf3, st3⟩ := X0.anew hexec (atype := .byte) (wk W (.arrayClass .byte)) rfl (by show len * 1 ≤ _; omega) (by omega) (g := (mkF m 1 #[.val (.ref b), .val (.int (Int32.ofNat o)), .val (.int (Int32.ofNat len)), .unset, .unset, .unset] [.int (Int32.ofNat len)])) rfl (hb hbytes d1) (rest := []) rfl (Nat.le_refl _) (by show 0 + len ≤ len; omega)
  rw [hh0] at ba3 st3
  have kp3 : XT.Kept s T3 := (XT.Kept.of_eq hh0).push bh3
  have hA3 := hA.keep X3.warmed.alike (kp3 _ _ hA.1.1)
  have hne : b ≠ s.heap.size := hA.1.ne
  have c4 : Steps p.tables e below (s₁.setTop (entryFrame m #[.ref b, .int (Int32.ofNat o), .int (Int32.ofNat len)] 6)) (T3.setTop (mkF m 3 #[.val (.ref b), .val (.int (Int32.ofNat o)), .val (.int (Int32.ofNat len)), .unset, .unset, .unset] [.ref s.heap.size])) := c2.trans (st3 _ (Steps.refl _))
  have c5 : Steps p.tables e below (s₁.setTop (entryFrame m #[.ref b, .int (Int32.ofNat o), .int (Int32.ofNat len)] 6)) (T3.setTop (mkF m 9 #[.val (.ref b), .val (.int (Int32.ofNat o)), .val (.int (Int32.ofNat len)), .val (.ref s.heap.size), .unset, .unset] [.int (Int32.ofNat len), .int 0, .ref s.heap.size, .int (Int32.ofNat o), .ref b])) := c4.trans (by
    refine XS.astoreN X3.here hexec rfl (hb hbytes d3) rfl rfl rfl ?_
    refine XS.aloadN X3.here hexec rfl (hb hbytes d4) rfl rfl ?_
    refine XS.iloadN X3.here hexec rfl (hb hbytes d5) rfl ?_
    refine XS.aloadN X3.here hexec rfl (hb hbytes d6) rfl rfl ?_
    refine iconstV X3.here hexec rfl 0 (hb hbytes d7) (by decide) ?_
    refine XS.iloadN X3.here hexec rfl (hb hbytes d8) rfl ?_
    exact Steps.refl _)
  obtain ⟨v6, T6, X6, E6, g6⟩ := X3.callS hexec (Cmp5.law l b A s.heap.size B3 o 0 len) hown (wks W (staticW U16 115 Cmp5.yN)) (wk W Cmp5.tab) (W := 0) (Nat.le_of_ble_eq_true rfl) (Nat.le_of_ble_eq_true rfl) (Nat.le_refl _) (by show 0 + len + 0 ≤ len; omega) (g := (mkF m 9 #[.val (.ref b), .val (.int (Int32.ofNat o)), .val (.int (Int32.ofNat len)), .val (.ref s.heap.size), .unset, .unset] [.int (Int32.ofNat len), .int (Int32.ofNat 0), .ref s.heap.size, .int (Int32.ofNat o), .ref b])) rfl (by rw [hml]; rfl) c5 (argsL := [.ref b, .int (Int32.ofNat o), .ref s.heap.size, .int (Int32.ofNat 0), .int (Int32.ofNat len)]) (rest := []) rfl rfl (by show 2 * 0 + 0 ≤ _; decide) (hb hbytes d9) (⟨rfl, hA3, ba3, hne, l1, by rw [bs3]; simp, hp⟩)
  obtain ⟨rfl, B6, p6, f6⟩ := E6
  have c7 : Steps p.tables e below (s₁.setTop (entryFrame m #[.ref b, .int (Int32.ofNat o), .int (Int32.ofNat len)] 6)) (T6.setTop (mkF m 12 #[.val (.ref b), .val (.int (Int32.ofNat o)), .val (.int (Int32.ofNat len)), .val (.ref s.heap.size), .unset, .unset] [.int (Int32.ofNat len)])) := g6
  have c8 : Steps p.tables e below (s₁.setTop (entryFrame m #[.ref b, .int (Int32.ofNat o), .int (Int32.ofNat len)] 6)) (T6.setTop (mkF m 58 #[.val (.ref b), .val (.int (Int32.ofNat o)), .val (.int (Int32.ofNat len)), .val (.ref s.heap.size), .val (.int (Int32.ofNat len)), .unset] [.ref s.heap.size])) := c7.trans (by
    refine XS.istore X6.here hexec rfl (hb hbytes d12) rfl rfl ?_
    refine XS.iload X6.here hexec rfl (hb hbytes d14) rfl ?_
    refine XS.iloadN X6.here hexec rfl (hb hbytes d16) rfl ?_
    refine XS.icmpYes X6.here hexec rfl (pc0 := 17) rfl (hb hbytes d17) rfl (ii_eq_t rfl) (by decide) rfl ?_
    refine XS.aloadN X6.here hexec rfl (hb hbytes d57) rfl rfl ?_
    exact Steps.refl _)
  have X8 := X6.wide (L' := []) (cells' := 1) (slots' := len) (fun x hx hlt => by
    simp only [List.nil_append, copyLocs, List.mem_map, List.mem_range] at hx
    obtain ⟨i, -, rfl⟩ := hx
    exact absurd hlt (Nat.lt_irrefl _)) (Nat.le_refl _) (by omega)
  exact ⟨T6, some (.ref s.heap.size), _, _, _, X8, rfl, rfl, rfl, (fun h => by cases h), ⟨⟨rfl, B6, ba3.like (X3.warmed.alike.symm.trans X6.warmed.alike) p6.1 f6.1 f6.2.1 f6.2.2.1, f6.2.1.trans bv3, by rw [X6.warmed.alike.findClass, f6.1]; exact bf3, by rw [f6.2.2.1, bs3]; simp, fun j hj => by rw [f6.2.2.2 j, if_pos (by omega)]; rfl, kp3.put p6 (Nat.le_refl _)⟩, by rw [p6.2.2, bh3, hh0]; simp⟩, fun fs hl => c8.trans (X8.areturnOut hexec rfl hret rfl (hb hbytes d58) hl)⟩
end Cmp3
namespace CodL
def yN : MethodName := ⟨"java/lang/StringUTF16", "coderFromArrayLen", "([BI)B"⟩
abbrev yB : ByteArray := jdk_52_method_15_code
theorem d0 : decode yB 0 = .ok (.iload_n 1, 1) := by decide +kernel
theorem d1 : decode yB 1 = .ok (.aload_n 0, 1) := by decide +kernel
theorem d2 : decode yB 2 = .ok (.arraylength, 1) := by decide +kernel
theorem d3 : decode yB 3 = .ok (.isub, 1) := by decide +kernel
theorem d4 : decode yB 4 = .ok (.bipush 31, 2) := by decide +kernel
theorem d6 : decode yB 6 = .ok (.iushr, 1) := by decide +kernel
theorem d7 : decode yB 7 = .ok (.i2b, 1) := by decide +kernel
theorem d8 : decode yB 8 = .ok (.ireturn, 1) := by decide +kernel
def site : List Cond := []
def tab : Cond := tabOf yN yB 2 (some .byte) site
def P (d : Addr) (B : Cell) (args : Array Value) (s : State) : Prop := args = #[.ref d, .int (Int32.ofNat B.slots.size)] ∧ Arr .byte d B s
def E (r : Option Value) (s u : State) : Prop := XT.PureE (some (.int 0)) r s u
/-- an array as long as the number of chars: LATIN1 -/
theorem law (l : Launch) (d : Addr) (B : Cell) : Law l yN 2 2 0 0 yB 2 (some .byte) site (P d B) E [] 0 0 := by
  refine Law.of_walk (plainFor_of_name (by decide +kernel)) (by decide +kernel) (by decide +kernel) (by decide) (fun _ _ h => by rw [h.1]; rfl) (fun _ U U' hal hh h => ⟨h.1, h.2.mv hal hh⟩) (fun r U U' V V' h1 hal h2 h => XT.PureE.mv r U U' V V' h1 hal h2 h) ?_
  intro p e s m args below meth c s₁ X0 hexec hbytes hml hret hlk hnm hown hh0 W hP
  obtain ⟨rfl, hB⟩ := hP
  have hB0 := hB.mv X0.warmed.alike hh0
  have c1 : Steps p.tables e below (s₁.setTop (entryFrame m #[.ref d, .int (Int32.ofNat B.slots.size)] 2)) (s₁.setTop (mkF m 0 #[.val (.ref d), .val (.int (Int32.ofNat B.slots.size))] [])) := entry rfl
  have c2 : Steps p.tables e below (s₁.setTop (entryFrame m #[.ref d, .int (Int32.ofNat B.slots.size)] 2)) (s₁.setTop (mkF m 2 #[.val (.ref d), .val (.int (Int32.ofNat B.slots.size))] [.ref d, .int (Int32.ofNat B.slots.size)])) := c1.trans (by
    refine XS.iloadN X0.here hexec rfl (hb hbytes d0) rfl ?_
    refine XS.aloadN X0.here hexec rfl (hb hbytes d1) rfl rfl ?_
    exact Steps.refl _)
  have c3 : Steps p.tables e below (s₁.setTop (entryFrame m #[.ref d, .int (Int32.ofNat B.slots.size)] 2)) (s₁.setTop (mkF m 8 #[.val (.ref d), .val (.int (Int32.ofNat B.slots.size))] [.int (lo8 (ushr (Int32.ofNat B.slots.size - Int32.ofNat B.slots.size) 31))])) := c2.trans (by
    refine X0.alen hexec hB0 rfl rfl (hb hbytes d2) ?_
    refine XS.isub X0.here hexec rfl (hb hbytes d3) rfl ?_
    refine bipushV X0.here hexec rfl 31 (hb hbytes d4) (by decide) ?_
    refine iushr X0.here hexec rfl (hb hbytes d6) rfl ?_
    refine i2b X0.here hexec rfl (hb hbytes d7) rfl ?_
    exact Steps.refl _)
  have e0 : lo8 (ushr (Int32.ofNat B.slots.size - Int32.ofNat B.slots.size) 31) = 0 := by rw [Int32.sub_self]; decide
  rw [e0] at c3
  exact ⟨s₁, some (.int 0), _, _, _, X0, rfl, rfl, rfl, (fun h => by cases h), ⟨rfl, hh0⟩, fun fs hl => c3.trans (X0.ireturnOut hexec hret rfl (Or.inr (Or.inr (Or.inl rfl))) (hb hbytes d8) hl)⟩
end CodL
/-- the String at a is Latin-1 over a new byte[] (the heap's one new cell): the low bytes of the len chars of A from o on; every cell but a is kept -/
def Got (a : Addr) (D : Cell) (fV fC : Field) (A : Cell) (o len : Nat) (r : Option Value) (s u : State) : Prop := r = none ∧ ∃ D' V : Cell, Blank "java/lang/String" a D' u ∧ Same D D' [fV.slot, fC.slot] ∧ D'.slots[fV.slot]? = some (.ref s.heap.size) ∧ D'.slots[fC.slot]? = some (.int 0) ∧ Arr .byte s.heap.size V u ∧ V.vm = .none ∧ u.vm.findClass "[B" = some V.cls ∧ V.slots.size = len ∧ (∀ j, j < len → V.slots[j]? = some (.int (lo8 (cv A (o + j))))) ∧ (∀ (y : Addr) (c : Cell), y ≠ a → s.heap[y]? = some c → u.heap[y]? = some c) ∧ u.heap.size = s.heap.size + 1
theorem Got.mv {a : Addr} {D A : Cell} {fV fC : Field} {o len : Nat} : ∀ r (U U' V V' : State), U'.heap = U.heap → V.vm.Alike V'.vm → V'.heap = V.heap → Got a D fV fC A o len r U V → Got a D fV fC A o len r U' V' :=
  fun r U U' V V' h1 hal h2 ⟨e0, D', X, a1, a2, a3, a4, a5, a6, a7, a8, a9, a10, a11⟩ => ⟨e0, D', X, a1.mv hal h2, a2, by rw [h1]; exact a3, a4, by rw [h1]; exact a5.mv hal h2, a6, by rw [hal.findClass]; exact a7, a8, a9, by rw [h1, h2]; exact a10, by rw [h1, h2]; exact a11⟩
namespace New4
def yN : MethodName := ⟨"java/lang/String", "<init>", "([CIILjava/lang/Void;)V"⟩
abbrev yB : ByteArray := jdk_42_method_149_code
theorem d0 : decode yB 0 = .ok (.aload_n 0, 1) := by decide +kernel
theorem d1 : decode yB 1 = .ok (.invokespecial 1, 3) := by decide +kernel
theorem d4 : decode yB 4 = .ok (.iload_n 3, 1) := by decide +kernel
theorem d5 : decode yB 5 = .ok (.ifCond (.ne) 22, 3) := by decide +kernel
theorem d27 : decode yB 27 = .ok (.getstatic 38, 3) := by decide +kernel
theorem d30 : decode yB 30 = .ok (.ifCond (.eq) 28, 3) := by decide +kernel
theorem d33 : decode yB 33 = .ok (.aload_n 1, 1) := by decide +kernel
theorem d34 : decode yB 34 = .ok (.iload_n 2, 1) := by decide +kernel
theorem d35 : decode yB 35 = .ok (.iload_n 3, 1) := by decide +kernel
theorem d36 : decode yB 36 = .ok (.invokestatic 177, 3) := by decide +kernel
theorem d39 : decode yB 39 = .ok (.astore 5, 2) := by decide +kernel
theorem d41 : decode yB 41 = .ok (.aload_n 0, 1) := by decide +kernel
theorem d42 : decode yB 42 = .ok (.aload 5, 2) := by decide +kernel
theorem d44 : decode yB 44 = .ok (.iload_n 3, 1) := by decide +kernel
theorem d45 : decode yB 45 = .ok (.invokestatic 47, 3) := by decide +kernel
theorem d48 : decode yB 48 = .ok (.putfield 15, 3) := by decide +kernel
theorem d51 : decode yB 51 = .ok (.aload_n 0, 1) := by decide +kernel
theorem d52 : decode yB 52 = .ok (.aload 5, 2) := by decide +kernel
theorem d54 : decode yB 54 = .ok (.putfield 9, 3) := by decide +kernel
theorem d57 : decode yB 57 = .ok (.return_, 1) := by decide +kernel
def site : List Cond := [.fieldLink "java/lang/String" 38 "java/lang/String" "COMPACT_STRINGS" "Z", Cmp3.tab, CodL.tab, .laysFinal "java/lang/String" "java/lang/String" "value" "[B", .fieldLink "java/lang/String" 9 "java/lang/String" "value" "[B", .laysFinal "java/lang/String" "java/lang/String" "coder" "B", .fieldLink "java/lang/String" 15 "java/lang/String" "coder" "B"] ++ objW "java/lang/String" 1 ++ staticW "java/lang/String" 177 Cmp3.yN ++ staticW "java/lang/String" 47 CodL.yN
def tab : Cond := tabOf yN yB 6 none site
def P (a : Addr) (D : Cell) (fV fC : Field) (b : Addr) (A : Cell) (z : Int32) (o len : Nat) (args : Array Value) (s : State) : Prop := args = #[.ref a, .ref b, .int (Int32.ofNat o), .int (Int32.ofNat len), .null] ∧ Blank "java/lang/String" a D s ∧ Found "java/lang/String" "value" "[B" fV s ∧ Found "java/lang/String" "coder" "B" fC s ∧ Ch b A s ∧ StaticIs s "java/lang/String" "COMPACT_STRINGS" "Z" (.int z) ∧ ¬ z = 0 ∧ 0 < len ∧ o + len ≤ A.slots.size ∧ len ≤ 536870912 ∧ ∀ i, i < len → ¬ 255 < cv A (o + i)
def E (a : Addr) (D : Cell) (fV fC : Field) (A : Cell) (o len : Nat) (r : Option Value) (s u : State) : Prop := Got a D fV fC A o len r s u
/-- len > 0, no char of the range above 255: a Latin-1 String of their low bytes -/
theorem law (l : Launch) (a : Addr) (D : Cell) (fV fC : Field) (b : Addr) (A : Cell) (z : Int32) (o len : Nat) : Law l yN 5 4 2 35 yB 6 none site (P a D fV fC b A z o len) (E a D fV fC A o len) [⟨a, fC.slot⟩, ⟨a, fV.slot⟩] 1 len := by
  refine Law.of_walk (plainFor_of_name (by decide +kernel)) (by decide +kernel) (by decide +kernel) (by decide) (fun _ _ h => by rw [h.1]; rfl) (fun _ U U' hal hh h => ⟨h.1, h.2.1.mv hal hh, h.2.2.1.al hal, h.2.2.2.1.al hal, h.2.2.2.2.1.mv hal hh, h.2.2.2.2.2.1.there hal hh, h.2.2.2.2.2.2⟩) (fun r U U' V V' h1 hal h2 h => Got.mv r U U' V V' h1 hal h2 h) ?_
  intro p e s m args below meth c s₁ X0 hexec hbytes hml hret hlk hnm hown hh0 W hP
  obtain ⟨rfl, hB, f1, f2, hA, s1, hz, l0, l1, l2, hp⟩ := hP
  have a31 := hA.1.2.2.2
  have c1 : Steps p.tables e below (s₁.setTop (entryFrame m #[.ref a, .ref b, .int (Int32.ofNat o), .int (Int32.ofNat len), .null] 6)) (s₁.setTop (mkF m 0 #[.val (.ref a), .val (.ref b), .val (.int (Int32.ofNat o)), .val (.int (Int32.ofNat len)), .val .null, .unset] [])) := entry rfl
  have c2 : Steps p.tables e below (s₁.setTop (entryFrame m #[.ref a, .ref b, .int (Int32.ofNat o), .int (Int32.ofNat len), .null] 6)) (s₁.setTop (mkF m 1 #[.val (.ref a), .val (.ref b), .val (.int (Int32.ofNat o)), .val (.int (Int32.ofNat len)), .val .null, .unset] [.ref a])) := c1.trans (by
    refine XS.aloadN X0.here hexec rfl (hb hbytes d0) rfl rfl ?_
    exact Steps.refl _)
  obtain ⟨T3, X3, q3, st3⟩ := X0.oinit hexec hown (wks W (objW "java/lang/String" 1)) (g := (mkF m 1 #[.val (.ref a), .val (.ref b), .val (.int (Int32.ofNat o)), .val (.int (Int32.ofNat len)), .val .null, .unset] [.ref a])) rfl (by rw [hml]; rfl) (rest := []) rfl (hb hbytes d1) (W := 0) (by show 2 * 0 + 0 ≤ _; decide) (Nat.le_of_ble_eq_true rfl) (Nat.le_of_ble_eq_true rfl)
  have hh3 := q3.trans hh0
  have c4 : Steps p.tables e below (s₁.setTop (entryFrame m #[.ref a, .ref b, .int (Int32.ofNat o), .int (Int32.ofNat len), .null] 6)) (T3.setTop (mkF m 27 #[.val (.ref a), .val (.ref b), .val (.int (Int32.ofNat o)), .val (.int (Int32.ofNat len)), .val .null, .unset] [])) := (c2.trans (st3 _ (Steps.refl _))).trans (by
    refine XS.iloadN X3.here hexec rfl (hb hbytes d4) rfl ?_
    refine XS.ifYes X3.here hexec rfl (pc0 := 5) rfl (hb hbytes d5) rfl (i0_ne_t (nz32 (by omega) l0)) (by decide) rfl ?_
    exact Steps.refl _)
  obtain ⟨T5, X5, q5, st5⟩ := X3.sget hexec hown (wk W (.fieldLink "java/lang/String" 38 "java/lang/String" "COMPACT_STRINGS" "Z")) s1 (fun _ _ h => by rw [hh3]; exact h) (g := (mkF m 27 #[.val (.ref a), .val (.ref b), .val (.int (Int32.ofNat o)), .val (.int (Int32.ofNat len)), .val .null, .unset] [])) rfl (hb hbytes d27)
  have hh5 := q5.trans hh3
  have c6 : Steps p.tables e below (s₁.setTop (entryFrame m #[.ref a, .ref b, .int (Int32.ofNat o), .int (Int32.ofNat len), .null] 6)) (T5.setTop (mkF m 30 #[.val (.ref a), .val (.ref b), .val (.int (Int32.ofNat o)), .val (.int (Int32.ofNat len)), .val .null, .unset] [.int z])) := c4.trans (st5 _ (Steps.refl _))
  have c7 : Steps p.tables e below (s₁.setTop (entryFrame m #[.ref a, .ref b, .int (Int32.ofNat o), .int (Int32.ofNat len), .null] 6)) (T5.setTop (mkF m 36 #[.val (.ref a), .val (.ref b), .val (.int (Int32.ofNat o)), .val (.int (Int32.ofNat len)), .val .null, .unset] [.int (Int32.ofNat len), .int (Int32.ofNat o), .ref b])) := c6.trans (by
    refine XS.ifNo X5.here hexec rfl (hb hbytes d30) rfl (i0_eq_f hz) ?_
    refine XS.aloadN X5.here hexec rfl (hb hbytes d33) rfl rfl ?_
    refine XS.iloadN X5.here hexec rfl (hb hbytes d34) rfl ?_
    refine XS.iloadN X5.here hexec rfl (hb hbytes d35) rfl ?_
    exact Steps.refl _)
  obtain ⟨v8, T8, X8, E8, g8⟩ := X5.callS hexec (Cmp3.law l b A o len) hown (wks W (staticW "java/lang/String" 177 Cmp3.yN)) (wk W Cmp3.tab) (W := 0) (Nat.le_of_ble_eq_true rfl) (Nat.le_of_ble_eq_true rfl) (Nat.le_refl _) (by show 0 + len ≤ len; omega) (g := (mkF m 36 #[.val (.ref a), .val (.ref b), .val (.int (Int32.ofNat o)), .val (.int (Int32.ofNat len)), .val .null, .unset] [.int (Int32.ofNat len), .int (Int32.ofNat o), .ref b])) rfl (by rw [hml]; rfl) c7 (argsL := [.ref b, .int (Int32.ofNat o), .int (Int32.ofNat len)]) (rest := []) rfl rfl (by show 2 * 0 + 0 ≤ _; decide) (hb hbytes d36) (⟨rfl, hA.mv X5.warmed.alike hh5, l1, l2, hp⟩)
  obtain ⟨e8, z8⟩ := E8
  obtain ⟨rfl, N, n1, n2, n3, n4, n5, n6⟩ := NewArr.mv _ T5 s _ _ hh5.symm (Vm.Alike.refl _) rfl e8
  rw [hh5] at z8
  have hB1 := hB.keep X8.warmed.alike (n6 _ _ hB.1)
  have hne : s.heap.size ≠ a := (Nat.ne_of_lt (Array.getElem?_eq_some_iff.mp hB.1).1).symm
  have c9 : Steps p.tables e below (s₁.setTop (entryFrame m #[.ref a, .ref b, .int (Int32.ofNat o), .int (Int32.ofNat len), .null] 6)) (T8.setTop (mkF m 39 #[.val (.ref a), .val (.ref b), .val (.int (Int32.ofNat o)), .val (.int (Int32.ofNat len)), .val .null, .unset] [.ref s.heap.size])) := g8
  have c10 : Steps p.tables e below (s₁.setTop (entryFrame m #[.ref a, .ref b, .int (Int32.ofNat o), .int (Int32.ofNat len), .null] 6)) (T8.setTop (mkF m 45 #[.val (.ref a), .val (.ref b), .val (.int (Int32.ofNat o)), .val (.int (Int32.ofNat len)), .val .null, .val (.ref s.heap.size)] [.int (Int32.ofNat N.slots.size), .ref s.heap.size, .ref a])) := by
    have hc : Steps p.tables e below (s₁.setTop (entryFrame m #[.ref a, .ref b, .int (Int32.ofNat o), .int (Int32.ofNat len), .null] 6)) (T8.setTop (mkF m 45 #[.val (.ref a), .val (.ref b), .val (.int (Int32.ofNat o)), .val (.int (Int32.ofNat len)), .val .null, .val (.ref s.heap.size)] [.int (Int32.ofNat len), .ref s.heap.size, .ref a])) := c9.trans (by
      refine XS.astore X8.here hexec rfl (hb hbytes d39) rfl rfl rfl ?_
      refine XS.aloadN X8.here hexec rfl (hb hbytes d41) rfl rfl ?_
      refine XS.aload X8.here hexec rfl (hb hbytes d42) rfl rfl ?_
      refine XS.iloadN X8.here hexec rfl (hb hbytes d44) rfl ?_
      exact Steps.refl _)
    rw [n4]; exact hc
  obtain ⟨v11, T11, X11, E11, g11⟩ := X8.callS hexec (CodL.law l s.heap.size N) hown (wks W (staticW "java/lang/String" 47 CodL.yN)) (wk W CodL.tab) (W := 1) (Nat.le_of_ble_eq_true rfl) (Nat.le_of_ble_eq_true rfl) (Nat.le_refl _) (by show 0 + len + 0 ≤ len; omega) (g := (mkF m 45 #[.val (.ref a), .val (.ref b), .val (.int (Int32.ofNat o)), .val (.int (Int32.ofNat len)), .val .null, .val (.ref s.heap.size)] [.int (Int32.ofNat N.slots.size), .ref s.heap.size, .ref a])) rfl (by rw [hml]; rfl) c10 (argsL := [.ref s.heap.size, .int (Int32.ofNat N.slots.size)]) (rest := [.ref a]) rfl rfl (by show 2 * 0 + (1 + 0) ≤ _; decide) (hb hbytes d45) (⟨rfl, n1⟩)
  obtain ⟨rfl, q11⟩ := E11
  have hB11 := hB1.mv (X8.warmed.alike.symm.trans X11.warmed.alike) q11
  have c12 : Steps p.tables e below (s₁.setTop (entryFrame m #[.ref a, .ref b, .int (Int32.ofNat o), .int (Int32.ofNat len), .null] 6)) (T11.setTop (mkF m 48 #[.val (.ref a), .val (.ref b), .val (.int (Int32.ofNat o)), .val (.int (Int32.ofNat len)), .val .null, .val (.ref s.heap.size)] [.int 0, .ref a])) := g11
  obtain ⟨T13, X13, p13, bl13, sl13, st13⟩ := X11.finit hexec hown (wk W (.fieldLink "java/lang/String" 15 "java/lang/String" "coder" "B")) (Or.inr ⟨_, (wk W (.laysFinal "java/lang/String" "java/lang/String" "coder" "B"))⟩) (Or.inl ⟨rfl, hnm⟩) f2 (Or.inl rfl) hB11 (t := .byte) (by decide +kernel) rfl (g := (mkF m 48 #[.val (.ref a), .val (.ref b), .val (.int (Int32.ofNat o)), .val (.int (Int32.ofNat len)), .val .null, .val (.ref s.heap.size)] [.int 0, .ref a])) rfl (rest := []) rfl (hb hbytes d48)
  have c14 : Steps p.tables e below (s₁.setTop (entryFrame m #[.ref a, .ref b, .int (Int32.ofNat o), .int (Int32.ofNat len), .null] 6)) (T13.setTop (mkF m 54 #[.val (.ref a), .val (.ref b), .val (.int (Int32.ofNat o)), .val (.int (Int32.ofNat len)), .val .null, .val (.ref s.heap.size)] [.ref s.heap.size, .ref a])) := (c12.trans (st13 _ (Steps.refl _))).trans (by
    refine XS.aloadN X13.here hexec rfl (hb hbytes d51) rfl rfl ?_
    refine XS.aload X13.here hexec rfl (hb hbytes d52) rfl rfl ?_
    exact Steps.refl _)
  obtain ⟨T15, X15, p15, bl15, sl15, st15⟩ := X13.finit hexec hown (wk W (.fieldLink "java/lang/String" 9 "java/lang/String" "value" "[B")) (Or.inr ⟨_, (wk W (.laysFinal "java/lang/String" "java/lang/String" "value" "[B"))⟩) (Or.inl ⟨rfl, hnm⟩) f1 (Or.inl rfl) bl13 (t := (.array .byte)) (by decide +kernel) rfl (g := (mkF m 54 #[.val (.ref a), .val (.ref b), .val (.int (Int32.ofNat o)), .val (.int (Int32.ofNat len)), .val .null, .val (.ref s.heap.size)] [.ref s.heap.size, .ref a])) rfl (rest := []) rfl (hb hbytes d54)
  have c16 : Steps p.tables e below (s₁.setTop (entryFrame m #[.ref a, .ref b, .int (Int32.ofNat o), .int (Int32.ofNat len), .null] 6)) (T15.setTop (mkF m 57 #[.val (.ref a), .val (.ref b), .val (.int (Int32.ofNat o)), .val (.int (Int32.ofNat len)), .val .null, .val (.ref s.heap.size)] [])) := c14.trans (st15 _ (Steps.refl _))
  have ap := apart (Or.inr ⟨_, (wk W (.laysFinal "java/lang/String" "java/lang/String" "value" "[B"))⟩) (Or.inr ⟨_, (wk W (.laysFinal "java/lang/String" "java/lang/String" "coder" "B"))⟩) f1 f2 (t₁ := .array .byte) (t₂ := .byte) (by decide +kernel) (by decide +kernel) (by decide)
  have al := X8.warmed.alike.symm.trans X15.warmed.alike
  have n7 : T11.heap[s.heap.size]? = some N := by rw [q11]; exact n1.1
  exact ⟨T15, none, _, _, _, X15, by simp, rfl, by omega, (fun _ => rfl), ⟨rfl, _, N, bl15, ((Same.refl D _).set _ (by simp)).set _ (by simp), sl15, (Cell.slots_setSlot_ne _ ap).trans sl13, n1.keep al (p15.other hne (p13.other hne n7)), n2, by rw [al.findClass]; exact n3, n4, n5, fun y c h1 h2 => p15.other h1 (p13.other h1 (by rw [q11]; exact n6 y c h2)), by rw [p15.2.2, p13.2.2, q11]; exact z8⟩, fun fs hl => c16.trans (X15.returnOut hexec hret (hb hbytes d57) hl)⟩
end New4
namespace New1
def yN : MethodName := ⟨"java/lang/String", "<init>", "([C)V"⟩
abbrev yB : ByteArray := jdk_42_method_3_code
theorem d0 : decode yB 0 = .ok (.aload_n 0, 1) := by decide +kernel
theorem d1 : decode yB 1 = .ok (.aload_n 1, 1) := by decide +kernel
theorem d2 : decode yB 2 = .ok (.iconst 0, 1) := by decide +kernel
theorem d3 : decode yB 3 = .ok (.aload_n 1, 1) := by decide +kernel
theorem d4 : decode yB 4 = .ok (.arraylength, 1) := by decide +kernel
theorem d5 : decode yB 5 = .ok (.aconst_null, 1) := by decide +kernel
theorem d6 : decode yB 6 = .ok (.invokespecial 27, 3) := by decide +kernel
theorem d9 : decode yB 9 = .ok (.return_, 1) := by decide +kernel
def site : List Cond := [New4.tab] ++ initW "java/lang/String" 27 New4.yN
def tab : Cond := tabOf yN yB 2 none site
def P (a : Addr) (D : Cell) (fV fC : Field) (b : Addr) (A : Cell) (z : Int32) (args : Array Value) (s : State) : Prop := args = #[.ref a, .ref b] ∧ Blank "java/lang/String" a D s ∧ Found "java/lang/String" "value" "[B" fV s ∧ Found "java/lang/String" "coder" "B" fC s ∧ Ch b A s ∧ StaticIs s "java/lang/String" "COMPACT_STRINGS" "Z" (.int z) ∧ ¬ z = 0 ∧ 0 < A.slots.size ∧ A.slots.size ≤ 536870912 ∧ ∀ i, i < A.slots.size → ¬ 255 < cv A i
def E (a : Addr) (D : Cell) (fV fC : Field) (A : Cell) (r : Option Value) (s u : State) : Prop := Got a D fV fC A 0 A.slots.size r s u
/-- new String(chars), not empty, no char above 255: a Latin-1 String of their low bytes -/
theorem law (l : Launch) (a : Addr) (D : Cell) (fV fC : Field) (b : Addr) (A : Cell) (z : Int32) : Law l yN 2 1 3 52 yB 2 none site (P a D fV fC b A z) (E a D fV fC A) [⟨a, fC.slot⟩, ⟨a, fV.slot⟩] 1 A.slots.size := by
  refine Law.of_walk (plainFor_of_name (by decide +kernel)) (by decide +kernel) (by decide +kernel) (by decide) (fun _ _ h => by rw [h.1]; rfl) (fun _ U U' hal hh h => ⟨h.1, h.2.1.mv hal hh, h.2.2.1.al hal, h.2.2.2.1.al hal, h.2.2.2.2.1.mv hal hh, h.2.2.2.2.2.1.there hal hh, h.2.2.2.2.2.2⟩) (fun r U U' V V' h1 hal h2 h => Got.mv r U U' V V' h1 hal h2 h) ?_
  intro p e s m args below meth c s₁ X0 hexec hbytes hml hret hlk hnm hown hh0 W hP
  obtain ⟨rfl, hB, f1, f2, hA, s1, hz, l0, l2, hp⟩ := hP
  have c1 : Steps p.tables e below (s₁.setTop (entryFrame m #[.ref a, .ref b] 2)) (s₁.setTop (mkF m 0 #[.val (.ref a), .val (.ref b)] [])) := entry rfl
  have c2 : Steps p.tables e below (s₁.setTop (entryFrame m #[.ref a, .ref b] 2)) (s₁.setTop (mkF m 6 #[.val (.ref a), .val (.ref b)] [.null, .int (Int32.ofNat A.slots.size), .int 0, .ref b, .ref a])) := c1.trans (by
    refine XS.aloadN X0.here hexec rfl (hb hbytes d0) rfl rfl ?_
    refine XS.aloadN X0.here hexec rfl (hb hbytes d1) rfl rfl ?_
    refine iconstV X0.here hexec rfl 0 (hb hbytes d2) (by decide) ?_
    refine XS.aloadN X0.here hexec rfl (hb hbytes d3) rfl rfl ?_
    refine X0.alen hexec (hA.1.mv X0.warmed.alike hh0) rfl rfl (hb hbytes d4) ?_
    refine XS.aconstNull X0.here hexec rfl (hb hbytes d5) ?_
    exact Steps.refl _)
  obtain ⟨v3, T3, X3, E3, g3⟩ := X0.callN hexec (New4.law l a D fV fC b A z 0 A.slots.size) rfl hown (wks W (initW "java/lang/String" 27 New4.yN)) (W New4.tab (by simp only [site, List.mem_cons, List.mem_append, true_or, or_true])) (W := 0) (Nat.le_of_ble_eq_true rfl) (Nat.le_of_ble_eq_true rfl) (Nat.le_refl _) (by show 0 + A.slots.size ≤ A.slots.size; omega) (g := (mkF m 6 #[.val (.ref a), .val (.ref b)] [.null, .int (Int32.ofNat A.slots.size), .int (Int32.ofNat 0), .ref b, .ref a])) rfl (by rw [hml]; rfl) c2 (argsL := [.ref b, .int (Int32.ofNat 0), .int (Int32.ofNat A.slots.size), .null]) (rest := []) rfl rfl (by show 2 * 0 + 0 ≤ _; decide) (hb hbytes d6) (⟨rfl, hB.mv X0.warmed.alike hh0, f1.al X0.warmed.alike, f2.al X0.warmed.alike, hA.mv X0.warmed.alike hh0, s1.there X0.warmed.alike hh0, hz, l0, by omega, l2, fun i hi => by rw [Nat.zero_add]; exact hp i hi⟩)
  have e0 := Got.mv _ s₁ s _ _ hh0.symm (Vm.Alike.refl _) rfl E3
  obtain rfl := e0.1
  have c4 : Steps p.tables e below (s₁.setTop (entryFrame m #[.ref a, .ref b] 2)) (T3.setTop (mkF m 9 #[.val (.ref a), .val (.ref b)] [])) := g3
  exact ⟨T3, none, _, _, _, X3, by simp, rfl, by omega, (fun _ => rfl), e0, fun fs hl => c4.trans (X3.returnOut hexec hret (hb hbytes d9) hl)⟩
theorem pays {l : Launch} {R : Room} {p : Program} {e : Env} {below : List Frame} {s : State} {sargs : Array Value} {len W : Nat} (a : Addr) (D : Cell) (fV fC : Field) (b : Addr) (A : Cell) (z : Int32) (htab : tab.before sargs s = true) (hfr : 4 ≤ R.frames) (hlo : W + 65 ≤ R.locals) :
    Back l R p e below s sargs yN len W (fun A₁ a₁ => A₁.cells + 1 ≤ R.cells ∧ A₁.slots + A.slots.size ≤ R.slots ∧ P a D fV fC b A z a₁ A₁.U) (fun A₁ _ v₁ B₁ => E a D fV fC A v₁ A₁.U B₁.U ∧ B₁.locs = A₁.locs ++ [⟨a, fC.slot⟩, ⟨a, fV.slot⟩] ∧ B₁.cells = A₁.cells + 1 ∧ B₁.slots = A₁.slots + A.slots.size) :=
  (law l a D fV fC b A z).pays htab hfr (by omega)
end New1
/-- the byte, read back as charAt reads it, is the char -/
theorem lo8_mask {x : Int32} (h0 : ¬ x < 0) (h1 : ¬ 255 < x) : lo8 x &&& 255 = x := by
  have t : ∀ k : Fin 256, lo8 (Int32.ofNat k.val) &&& 255 = Int32.ofNat k.val := by decide +kernel
  rw [Int32.lt_iff_toInt_lt] at h0 h1
  have e0 : (0 : Int32).toInt = 0 := rfl
  have e1 : (255 : Int32).toInt = 255 := rfl
  obtain ⟨k, hk⟩ : ∃ k : Nat, x.toInt = k := ⟨x.toInt.toNat, by omega⟩
  have hx : x = Int32.ofNat k := Int32.toInt_inj.mp (by rw [hk, Int32.toInt_ofNat_small (by omega)])
  rw [hx]
  exact t ⟨k, by omega⟩
end StrChars
namespace StrChars.Road
open Jvm Sem ClassFile Op Lib Jvm.Stand Jvm.Free Jvm.Free.XT
open Jvm.Lib.Cold (StaticIs)
abbrev ST : String := "java/lang/String"
/-- every table word that New1's law asks, flat -/
abbrev words : List Jvm.Cond := [.code New1.yN New1.yB 2 none, .initialized ST, .methodLink ST 27 New4.yN, .instanceMethod New4.yN,
  .code New4.yN New4.yB 6 none, .fieldLink ST 38 ST "COMPACT_STRINGS" "Z", .laysFinal ST ST "value" "[B", .fieldLink ST 9 ST "value" "[B", .laysFinal ST ST "coder" "B", .fieldLink ST 15 ST "coder" "B",
  .methodLink ST 1 Lib.objectInit, .instanceMethod Lib.objectInit, .code Lib.objectInit ⟨#[0xb1]⟩ 1 none, .methodLink ST 177 Cmp3.yN, .static Cmp3.yN, .methodLink ST 47 CodL.yN, .static CodL.yN,
  .code Cmp3.yN Cmp3.yB 6 (some (.array .byte)), .initialized U16, .arrayClass .byte, .methodLink U16 115 Cmp5.yN, .static Cmp5.yN, .code Cmp5.yN Cmp5.yB 7 (some .int), .code CodL.yN CodL.yB 2 (some .byte)]
theorem tab_of {a : Array Value} {s : State} (h : ∀ w ∈ words, w.before a s = true) : New1.tab.before a s = true := by
  have h5 : Cmp5.tab.before a s = true := unparts (wk h (.code Cmp5.yN Cmp5.yB 7 (some .int))) (wks h (.initialized Cmp5.yN.cls :: Cmp5.site))
  have hc : CodL.tab.before a s = true := unparts (wk h (.code CodL.yN CodL.yB 2 (some .byte))) (wks h (.initialized CodL.yN.cls :: CodL.site))
  have q5 : ∀ w ∈ Cmp5.tab :: words, w.before a s = true := fun w hw => (List.mem_cons.mp hw).elim (fun e => e ▸ h5) (h w)
  have h3 : Cmp3.tab.before a s = true := unparts (wk q5 (.code Cmp3.yN Cmp3.yB 6 (some (.array .byte)))) (wks q5 (.initialized Cmp3.yN.cls :: Cmp3.site))
  have q3 : ∀ w ∈ Cmp3.tab :: CodL.tab :: words, w.before a s = true := fun w hw => (List.mem_cons.mp hw).elim (fun e => e ▸ h3) fun hw => (List.mem_cons.mp hw).elim (fun e => e ▸ hc) (h w)
  have h4 : New4.tab.before a s = true := unparts (wk q3 (.code New4.yN New4.yB 6 none)) (wks q3 (.initialized New4.yN.cls :: New4.site))
  have q4 : ∀ w ∈ New4.tab :: words, w.before a s = true := fun w hw => (List.mem_cons.mp hw).elim (fun e => e ▸ h4) (h w)
  exact unparts (wk q4 (.code New1.yN New1.yB 2 none)) (wks q4 (.initialized New1.yN.cls :: New1.site))
/-- the words ride from the start Z to the walk's own state -/
theorem moved {Z s : State} {a0 args : Array Value} (hZ : Z.Warmed39 s.vm) (hw : ∀ d ∈ words, d.before a0 Z = true) : ∀ d ∈ words, d.before args s = true := fun d hd => by
  have q := hw d hd
  have t : ∀ d ∈ words, d = .arrayClass .byte ∨ (d.onTables && d.keepsFace) = true := by decide +kernel
  rcases t d hd with rfl | t
  · exact RoadKit.mvA hZ q
  · exact RoadKit.mv hZ q t
/-- WHAT COMES BACK, over the tables of the start Z: h the heap at the call, h' behind it -/
def Q (Z : State) (x : Addr) (A : Cell) (h : Heap) (v : Option Value) (h' : Heap) (L : List Loc) : Prop := v = none ∧ (∀ y ∈ L, y.base = x) ∧ RoadKit.Keep h h' [x] ∧ h'.size = h.size + 1 ∧ RoadKit.Exa Z h' x ST ∧ RoadKit.Fld Z h' x ST "value" "[B" (.ref h.size) ∧ RoadKit.Fld Z h' x ST "coder" "B" (.int 0) ∧
  (∃ V : Cell, RoadKit.Arr Z h' h.size V .byte ∧ V.vm = .none ∧ Z.vm.findClass "[B" = some V.cls ∧ V.slots.size = A.slots.size ∧ ∀ j, j < A.slots.size → V.slots[j]? = some (.int (lo8 (cv A j)))) ∧
  ∀ (O n d : String) (w : Value), RoadKit.Fld Z h x O n d w → RoadKit.slotOf Z O n d ≠ RoadKit.slotOf Z ST "value" "[B" → RoadKit.slotOf Z O n d ≠ RoadKit.slotOf Z ST "coder" "B" → RoadKit.Fld Z h' x O n d w
/-- **new String(chars) AT A CALL, IN THE ROAD'S FORM**: for specialBack behind newO: x the fresh String, b the char[] with the cell A -/
theorem back {p : Program} {l : Launch} {e : Env} {R : Room} {s : State} {args : Array Value} {below : List Frame} {len W : Nat} {Z : State} {a0 : Array Value} {h : Heap} (hZ : Z.Warmed39 s.vm) (hw : ∀ d ∈ words, d.before a0 Z = true) {kI : Nat} (wi : (Jvm.Cond.instantiable ST kI).before a0 Z = true)
    {x b : Addr} {A : Cell} {z : Int32} {v0 c0 : Value} (E : RoadKit.Exa Z h x ST) (V : RoadKit.Fld Z h x ST "value" "[B" v0) (C : RoadKit.Fld Z h x ST "coder" "B" c0) (K : RoadKit.Arr Z h b A .char) (hty : Typed .char A) (S : RoadKit.Sta Z h ST "COMPACT_STRINGS" "Z" (.int z)) (hz : ¬ z = 0)
    (l0 : 0 < A.slots.size) (l2 : A.slots.size ≤ 536870912) (hp : ∀ i, i < A.slots.size → ¬ 255 < cv A i) (hfr : 4 ≤ R.frames) (hlo : W + 65 ≤ R.locals) :
    Back l R p e below s args New1.yN len W (fun P a => a = #[.ref x, .ref b] ∧ P.U.heap = h ∧ P.cells + 1 ≤ R.cells ∧ P.slots + A.slots.size ≤ R.slots)
      (fun P _ v B => ∃ L, Q Z x A h v B.U.heap L ∧ B.locs = P.locs ++ L ∧ B.cells = P.cells + 1 ∧ B.slots = P.slots + A.slots.size) := by
  intro m meth c P g ig mk a X hg hsize hdg hW hn hp'
  obtain ⟨rfl, rfl, r1, r2⟩ := hp'
  have al : Z.vm.Alike P.U.vm := hZ.alike.trans X.warmed.alike
  obtain ⟨D, cfV, kV, iV, fV, hD, gV, stV, knV, obV, asV, slV⟩ := id V
  obtain ⟨D', cfC, kC, iC, fC, hD', gC, stC, -, -, asC, slC⟩ := id C
  cases hD.symm.trans hD'
  obtain ⟨D2, kD, e1, e2, e3, e4, e5⟩ := id E
  cases hD.symm.trans e1
  obtain ⟨c2, k2, i1, i2, i3, -⟩ := Cond.instantiable_spec wi
  cases e2.symm.trans i1
  cases e3.symm.trans i2
  obtain ⟨kU, u1, u2⟩ := al.2.2 _ _ e3
  have hB : Blank ST x D P.U := ⟨hD, ⟨knV, fun q hq => by rw [hq] at obV; cases obV⟩, by rw [al.findClass]; exact e2, kU, u1, by rw [u2]; exact i3, by rw [u2]; exact e5 i3⟩
  have F1 : Found ST "value" "[B" fV P.U := ⟨SBG.found_only al ⟨cfV, kV, iV, gV⟩, stV⟩
  have F2 : Found ST "coder" "B" fC P.U := ⟨SBG.found_only al ⟨cfC, kC, iC, gC⟩, stC⟩
  have hA : Ch b A P.U := ⟨⟨K.1, State.isArrayOf_alike al K.2.1, K.2.2, by omega⟩, hty⟩
  have hS : StaticIs P.U ST "COMPACT_STRINGS" "Z" (.int z) := by
    obtain ⟨cfS, iS, kS, fS, st, cS, t1, t2, t3, t4, t5, t6, t7⟩ := S
    exact StaticIs.there (s := { Z with heap := P.U.heap }) ⟨cfS, iS, kS, fS, st, cS, t1, t2, t3, t4, t5, (fun q => by rw [q] at t6; cases t6), t7⟩ al rfl
  obtain ⟨v, B, X', ⟨⟨hv, E', V', q1, q2, q3, q4, q5, q6, q7, q8, q9, q10, q11⟩, hl, hc, hs⟩, st⟩ := New1.pays x D fV fC b A z (tab_of (moved hZ hw)) hfr hlo m meth c P g ig mk _ X hg hsize hdg hW hn ⟨r1, r2, rfl, hB, F1, F2, hA, hS, hz, l0, l2, hp⟩
  have al' : Z.vm.Alike B.U.vm := hZ.alike.trans X'.warmed.alike
  have hsz : E'.slots.size = D.slots.size := by
    obtain ⟨-, -, -, kB, w1, w2, w3⟩ := q1
    obtain ⟨kB', y1, y2⟩ := al'.2.2 _ _ e3
    rw [q2.2.1] at w1
    cases w1.symm.trans y1
    rw [w3, e5 i3, y2]
  refine ⟨v, B, X', ⟨_, ⟨hv, ?_, ⟨by omega, fun y cy hy hn' => q10 y cy (by simpa using hn') hy, fun y cy hy => ?_⟩, q11, ⟨E', _, q1.1, by rw [q2.2.1]; exact e2, by rw [q2.2.1]; exact e3, by rw [q2.1]; exact obV, fun _ => by rw [hsz]; exact e5 i3⟩,
    ⟨E', cfV, kV, iV, fV, q1.1, gV, stV, by rw [q2.1]; exact knV, by rw [q2.1]; exact obV, by rw [q2.2.1]; exact asV, q3⟩, ⟨E', cfC, kC, iC, fC, q1.1, gC, stC, by rw [q2.1]; exact knV, by rw [q2.1]; exact obV, by rw [q2.2.1]; exact asC, q4⟩,
    ⟨V', ⟨q5.1, State.isArrayOf_alike al'.symm q5.2.1, q5.2.2.1⟩, q6, by rw [← al'.findClass]; exact q7, q8, fun j hj => by have := q9 j hj; rwa [Nat.zero_add] at this⟩, fun O n d w F n1 n2 => ?_⟩, hl, hc, hs⟩, st⟩
  · intro y hy
    simp only [List.mem_cons, List.not_mem_nil, or_false] at hy
    rcases hy with rfl | rfl <;> rfl
  · by_cases q : y = x
    · subst q
      cases hD.symm.trans hy
      exact ⟨E', q1.1, q2.2.1, q2.1, hsz⟩
    · exact ⟨cy, q10 y cy q hy, rfl, rfl, rfl⟩
  · obtain ⟨D3, cf, k, i, f, g1, g2, g3, g4, g5, g6, g7⟩ := F
    cases hD.symm.trans g1
    simp only [RoadKit.slotOf, g2, gV, gC, Option.map_some, Option.getD_some] at n1 n2
    exact ⟨E', cf, k, i, f, q1.1, g2, g3, by rw [q2.1]; exact g4, by rw [q2.1]; exact g5, by rw [q2.2.1]; exact g6, by rw [q2.2.2 f.slot (by simp [n1, n2])]; exact g7⟩
end StrChars.Road
namespace StrChars.Road
open Jvm Sem ClassFile Op Lib Jvm.Stand Jvm.Free Jvm.Free.XT
/-- WHAT COMES BACK, the byte[] as a list of values -/
def QA (Z : State) (x : Addr) (zn : Int32) (cs : List Int32) (h : Heap) (v : Option Value) (h' : Heap) (L : List Loc) : Prop := v = none ∧ (∀ y ∈ L, y.base = x) ∧ RoadKit.Keep h h' [x] ∧ h'.size = h.size + 1 ∧ RoadKit.Exa Z h' x ST ∧ RoadKit.Fld Z h' x ST "value" "[B" (.ref h.size) ∧ RoadKit.Fld Z h' x ST "coder" "B" (.int 0) ∧
  (∃ kb, Z.vm.findClass "[B" = some kb ∧ RoadKit.Arv Z h' h.size kb .byte zn (cs.map fun c => .int (lo8 c)) (.int 0)) ∧
  ∀ (O n d : String) (w : Value), RoadKit.Fld Z h x O n d w → RoadKit.slotOf Z O n d ≠ RoadKit.slotOf Z ST "value" "[B" → RoadKit.slotOf Z O n d ≠ RoadKit.slotOf Z ST "coder" "B" → RoadKit.Fld Z h' x O n d w
/-- **new String(chars) AT A CALL, THE ARRAYS AS LISTS**: the char[] at b holds cs, not empty, no char above 255 -/
theorem backArv {p : Program} {l : Launch} {e : Env} {R : Room} {s : State} {args : Array Value} {below : List Frame} {len W : Nat} {Z : State} {a0 : Array Value} {h : Heap} (hZ : Z.Warmed39 s.vm) (hw : ∀ d ∈ words, d.before a0 Z = true) {kI : Nat} (wi : (Jvm.Cond.instantiable ST kI).before a0 Z = true)
    {x b : Addr} {k : ClassId} {zn z : Int32} {cs : List Int32} {dv v0 c0 : Value} (E : RoadKit.Exa Z h x ST) (V : RoadKit.Fld Z h x ST "value" "[B" v0) (C : RoadKit.Fld Z h x ST "coder" "B" c0) (K : RoadKit.Arv Z h b k .char zn (cs.map Value.int) dv) (S : RoadKit.Sta Z h ST "COMPACT_STRINGS" "Z" (.int z)) (hz : ¬ z = 0)
    (hlen : zn.toNatClampNeg = cs.length) (h0 : 0 < cs.length) (hbig : cs.length ≤ 536870912) (hall : ∀ c ∈ cs, ¬ 255 < c) (hfr : 4 ≤ R.frames) (hlo : W + 65 ≤ R.locals) :
    Back l R p e below s args New1.yN len W (fun P a => a = #[.ref x, .ref b] ∧ P.U.heap = h ∧ P.cells + 1 ≤ R.cells ∧ P.slots + cs.length ≤ R.slots)
      (fun P _ v B => ∃ L, QA Z x zn cs h v B.U.heap L ∧ B.locs = P.locs ++ L ∧ B.cells = P.cells + 1 ∧ B.slots = P.slots + cs.length) := by
  obtain ⟨A, K1, K2, K3, K4, K5, K6⟩ := K
  have e : A.slots.size = cs.length := K3.trans hlen
  have hat : ∀ (i : Nat) (hi : i < cs.length), A.slots[i]? = some (.int cs[i]) := fun i hi => by rw [K5 i (by omega)]; simp [List.getD_eq_getElem?_getD, hi]
  have hcv : ∀ (i : Nat) (hi : i < cs.length), cv A i = cs[i] := fun i hi => by unfold cv; rw [hat i hi]
  have hty : Typed .char A := fun i v hv => by
    have hi : i < A.slots.size := (Array.getElem?_eq_some_iff.mp hv).1
    have q := K5 i hi
    rw [hv] at q
    rw [Option.some.inj q]
    exact K6 i hi
  refine Back.mono (back hZ hw wi E V C K1 hty S hz (by omega) (by omega) (fun i hi => by rw [hcv i (by omega)]; exact hall _ (List.getElem_mem _)) hfr hlo) (fun P a hp => ⟨hp.1, hp.2.1, hp.2.2.1, by rw [e]; exact hp.2.2.2⟩) (fun P a v B hp hq => ?_)
  obtain ⟨L, ⟨q1, q2, q3, q4, q5, q6, q7, ⟨V', v1, v2, v3, v4, v5⟩, q9⟩, hl, hc, hs⟩ := hq
  refine ⟨L, ⟨q1, q2, q3, q4, q5, q6, q7, ⟨V'.cls, v3, V', v1, rfl, by rw [v4, e, hlen], K4, fun i hi => ?_, fun i hi => ?_⟩, q9⟩, hl, hc, by rw [hs, e]⟩
  · have hi' : i < cs.length := by omega
    rw [v5 i (by omega), hcv i hi']; simp [List.getD_eq_getElem?_getD, hi']
  · have hi' : i < cs.length := by omega
    simp only [List.getD_eq_getElem?_getD, List.getElem?_map, List.getElem?_eq_getElem hi', Option.map_some, Option.getD_some]
    exact fits_lo8 _
end StrChars.Road
namespace StrChars.Road
open Jvm Sem ClassFile Op Lib Jvm.Stand Jvm.Free Jvm.Free.XT
/-- WHAT COMES BACK, in the writer's own shape -/
def QV (Z : State) (x : Addr) (N : Int32) (bs : List Int32) (h : Heap) (n0 : Nat) (v : Option Value) (h' : Heap) (L : List Loc) : Prop := v = none ∧ RoadKit.Fr n0 L ∧ RoadKit.Keep h h' [x] ∧ RoadKit.Exa Z h' x ST ∧ RoadKit.Fld Z h' x ST "coder" "B" (.int 0) ∧
  ∃ (t : Addr) (kb : ClassId), n0 ≤ t ∧ h.size ≤ t ∧ ¬ t = x ∧ RoadKit.Fld Z h' x ST "value" "[B" (.ref t) ∧ RoadKit.Arv Z h' t kb .byte N (bs.map Value.int) (.int 0)
/-- **new String(chars) AT A CALL, FOR THE WRITER**: a char[] of n known ints, each 0 to 255 -/
theorem backV {p : Program} {l : Launch} {e : Env} {R : Room} {s : State} {args : Array Value} {below : List Frame} {len W : Nat} {Z : State} {a0 : Array Value} {h : Heap} (hZ : Z.Warmed39 s.vm) (hw : ∀ d ∈ words, d.before a0 Z = true) {kI : Nat} (wi : (Jvm.Cond.instantiable ST kI).before a0 Z = true)
    {x b : Addr} {kC : ClassId} {cs bs : List Int32} {d v0 c0 : Value} {z N : Int32} {n n0 : Nat} (hx0 : n0 ≤ x) (hh0 : n0 ≤ h.size) (E : RoadKit.Exa Z h x ST) (V : RoadKit.Fld Z h x ST "value" "[B" v0) (C : RoadKit.Fld Z h x ST "coder" "B" c0) (K : RoadKit.Arv Z h b kC .char N (cs.map Value.int) d) (S : RoadKit.Sta Z h ST "COMPACT_STRINGS" "Z" (.int z)) (hz : ¬ z = 0)
    (hn : cs.length = n) (hN : N = Int32.ofNat n) (l0 : 0 < n) (l2 : n ≤ 4000) (hp : ∀ c ∈ cs, ¬ c < 0 ∧ ¬ (255 : Int32) < c) (hb : bs = cs.map (fun c => c.toInt8.toInt32)) (hfr : 4 ≤ R.frames) (hlo : W + 65 ≤ R.locals) :
    Back l R p e below s args (⟨"java/lang/String", "<init>", "([C)V"⟩ : MethodName) len W (fun P a => a = #[.ref x, .ref b] ∧ P.U.heap = h ∧ P.cells + 1 ≤ R.cells ∧ P.slots + n ≤ R.slots)
      (fun P _ v B => ∃ L, QV Z x N bs h n0 v B.U.heap L ∧ B.locs = P.locs ++ L ∧ B.cells = P.cells + 1 ∧ B.slots = P.slots + n) := by
  subst hn hN hb
  refine Back.mono (backArv hZ hw wi E V C K S hz (n32 (by omega)) l0 (by omega) (fun c hc => (hp c hc).2) hfr hlo) (fun P a hp => hp) (fun P a v B hp hq => ?_)
  obtain ⟨L, ⟨q1, q2, q3, q4, q5, q6, q7, ⟨kb, v1, v2⟩, q9⟩, hl, hc, hs⟩ := hq
  exact ⟨L, ⟨q1, fun y hy => by rw [q2 y hy]; exact hx0, q3, q5, q7, h.size, kb, hh0, Nat.le_refl _, Nat.ne_of_gt E.lt, q6, by rw [List.map_map]; exact v2⟩, hl, hc, hs⟩
end StrChars.Road
namespace StrChars
open Jvm Sem ClassFile Op Lib Jvm.Stand Jvm.Free.XT Jvm.Free.ALB Jvm.Free.JM Jvm.Free
open Jvm.Lib.Cold (StaticIs)
def hi8 (x : Int32) : Int32 := lo8 (x >>> ((8 : Int32) &&& 31))
/-- what StringUTF16.getChar makes of two bytes -/
def pairCh (u v : Int32) : Int32 := (((u &&& 255) <<< ((0 : Int32) &&& 31)) ||| ((v &&& 255) <<< ((8 : Int32) &&& 31))).toUInt32.toUInt16.toUInt32.toInt32
theorem shr0 (c : Int32) : c >>> ((0 : Int32) &&& 31) = c := by
  have e : ((0 : Int32) &&& 31) = 0 := by decide
  rw [e]
  apply Int32.toBitVec_inj.mp
  rw [Int32.toBitVec_shiftRight]
  have e1 : ((0 : Int32).toBitVec.smod 32) = 0#32 := by decide
  rw [e1, BitVec.sshiftRight_eq']
  exact BitVec.sshiftRight_zero
theorem lo8_and (x : Int32) : (lo8 x &&& 255).toBitVec.toNat = x.toBitVec.toNat % 256 := by
  have h : (lo8 x).toBitVec = (x.toBitVec.signExtend 8).signExtend 32 := by rw [lo8, Int8.toBitVec_toInt32, Int32.toBitVec_toInt8]
  rw [Int32.toBitVec_and, BitVec.toNat_and, h]
  have e : ((x.toBitVec.signExtend 8).signExtend 32).toNat % 256 = x.toBitVec.toNat % 256 := by
    rw [BitVec.toNat_signExtend]
    have hlt := x.toBitVec.isLt
    simp only [BitVec.toNat_setWidth, BitVec.toNat_signExtend]
    split <;> split <;> omega
  rw [← e]
  exact Nat.and_two_pow_sub_one_eq_mod _ 8
theorem pair_says {c : Int32} (h0 : ¬ c < 0) (h1 : ¬ 65535 < c) : pairCh (lo8 c) (hi8 c) = c := by
  rw [Int32.lt_iff_toInt_lt] at h0 h1
  have e0 : (0 : Int32).toInt = 0 := rfl
  have e1 : (65535 : Int32).toInt = 65535 := rfl
  have hc : c.toInt = c.toBitVec.toNat := by
    have := c.toBitVec.isLt
    have e : c.toInt = c.toBitVec.toInt := rfl
    rw [e] at h0 h1
    rw [e]
    rw [BitVec.toInt_eq_toNat_cond] at h0 h1 ⊢
    split at h0 <;> split <;> omega
  have hn : c.toBitVec.toNat < 65536 := by omega
  have a1 := lo8_and c
  have a2 : (hi8 c &&& 255).toBitVec.toNat = c.toBitVec.toNat / 256 := by
    rw [hi8, lo8_and]
    have e : ((8 : Int32) &&& 31) = 8 := by decide
    rw [e, Int32.toBitVec_shiftRight]
    have e2 : ((8 : Int32).toBitVec.smod 32) = 8#32 := by decide
    rw [e2, BitVec.sshiftRight_eq', BitVec.toNat_sshiftRight_of_msb_false (by rw [BitVec.msb_eq_false_iff_two_mul_lt]; omega)]
    show c.toBitVec.toNat >>> 8 % 256 = _
    rw [Nat.shiftRight_eq_div_pow]
    omega
  unfold pairCh
  apply Int32.toBitVec_inj.mp
  apply BitVec.eq_of_toNat_eq
  have f0 : ((0 : Int32) &&& 31) = 0 := by decide
  have f8 : ((8 : Int32) &&& 31) = 8 := by decide
  rw [f0, f8]
  have g : (((lo8 c &&& 255) <<< (0 : Int32)) ||| ((hi8 c &&& 255) <<< (8 : Int32))).toBitVec.toNat = c.toBitVec.toNat := by
    rw [Int32.toBitVec_or, Int32.toBitVec_shiftLeft, Int32.toBitVec_shiftLeft]
    have s0 : ((0 : Int32).toBitVec.smod 32) = 0#32 := by decide
    have s8 : ((8 : Int32).toBitVec.smod 32) = 8#32 := by decide
    rw [s0, s8, BitVec.toNat_or]
    simp only [BitVec.shiftLeft_eq', BitVec.toNat_shiftLeft, a1, a2]
    show (c.toBitVec.toNat % 256) <<< 0 % 2 ^ 32 ||| (c.toBitVec.toNat / 256) <<< 8 % 2 ^ 32 = _
    rw [Nat.shiftLeft_zero, Nat.mod_eq_of_lt (show c.toBitVec.toNat % 256 < 2 ^ 32 by omega), Nat.mod_eq_of_lt (show (c.toBitVec.toNat / 256) <<< 8 < 2 ^ 32 by rw [Nat.shiftLeft_eq]; omega), Nat.or_comm, ← Nat.shiftLeft_add_eq_or_of_lt (by omega), Nat.shiftLeft_eq]
    omega
  show BitVec.toNat (((((lo8 c &&& 255) <<< (0 : Int32)) ||| ((hi8 c &&& 255) <<< (8 : Int32))).toBitVec.setWidth 16).setWidth 32) = _
  rw [BitVec.toNat_setWidth, BitVec.toNat_setWidth, g]
  omega
end StrChars
namespace StrChars
open Jvm Sem ClassFile Op Lib Jvm.Stand Jvm.Free.XT Jvm.Free.ALB Jvm.Free.JM Jvm.Free
open Jvm.Lib.Cold (StaticIs)
theorem shr1 {n : Nat} (h : 2 * n < 2 ^ 31) : Int32.ofNat (2 * n) >>> ((1 : Int32) &&& 31) = Int32.ofNat n := by
  have e : ((1 : Int32) &&& 31) = 1 := by decide
  rw [e]
  apply Int32.toBitVec_inj.mp
  rw [Int32.toBitVec_shiftRight]
  have e1 : ((1 : Int32).toBitVec.smod 32) = 1#32 := by decide
  have hm : (BitVec.ofNat 32 (2 * n)).toNat = 2 * n := by rw [BitVec.toNat_ofNat, Nat.mod_eq_of_lt (by omega)]
  rw [e1, BitVec.sshiftRight_eq']
  apply BitVec.eq_of_toNat_eq
  show ((BitVec.ofNat 32 (2 * n)).sshiftRight 1).toNat = (BitVec.ofNat 32 n).toNat
  rw [BitVec.toNat_sshiftRight_of_msb_false (by rw [BitVec.msb_eq_false_iff_two_mul_lt, hm]; omega), hm, BitVec.toNat_ofNat, Nat.shiftRight_eq_div_pow]
  omega
/-- charAt's cast of a byte read back -/
def chr8 (u : Int32) : Int32 := (u &&& 255).toUInt32.toUInt16.toUInt32.toInt32
theorem chr8_lo8 {c : Int32} (h0 : ¬ c < 0) (h1 : ¬ 255 < c) : chr8 (lo8 c) = c := by
  have t : ∀ k : Fin 256, (Int32.ofNat k.val).toUInt32.toUInt16.toUInt32.toInt32 = Int32.ofNat k.val := by decide +kernel
  unfold chr8
  rw [lo8_mask h0 h1]
  rw [Int32.lt_iff_toInt_lt] at h0 h1
  have e0 : (0 : Int32).toInt = 0 := rfl
  have e1 : (255 : Int32).toInt = 255 := rfl
  obtain ⟨k, hk⟩ : ∃ k : Nat, c.toInt = k := ⟨c.toInt.toNat, by omega⟩
  have hx : c = Int32.ofNat k := Int32.toInt_inj.mp (by rw [hk, Int32.toInt_ofNat_small (by omega)])
  rw [hx]
  exact t ⟨k, by omega⟩
theorem narrow_ch {c : Int32} (h0 : ¬ c < 0) (h1 : ¬ 65535 < c) : narrow .char (.int c) = .int c := by
  have q : narrow .char (.int (pairCh (lo8 c) (hi8 c))) = .int (pairCh (lo8 c) (hi8 c)) := narrow_c _
  rwa [pair_says h0 h1] at q
/-- the array's cell V codes the n chars f 0 .. f (n - 1) by the coder cd, as the JDK does: coder 1 just where some char is above 255 -/
def Cod (cd : Int32) (n : Nat) (f : Nat → Int32) (V : Cell) : Prop := (cd = 0 ∧ V.slots.size = n ∧ ∀ j, j < n → V.slots[j]? = some (.int (lo8 (f j))) ∧ ¬ 255 < f j) ∨ (cd = 1 ∧ V.slots.size = 2 * n ∧ (∀ j, j < n → V.slots[2 * j]? = some (.int (lo8 (f j))) ∧ V.slots[2 * j + 1]? = some (.int (hi8 (f j)))) ∧ ∃ j, j < n ∧ 255 < f j)
theorem Cod.cd {cd : Int32} {n : Nat} {f : Nat → Int32} {V : Cell} (h : Cod cd n f V) : cd = 0 ∨ cd = 1 := h.imp (fun q => q.1) fun q => q.1
theorem Cod.len {cd : Int32} {n : Nat} {f : Nat → Int32} {V : Cell} (h : Cod cd n f V) (hs : V.slots.size < 2 ^ 31) : Int32.ofNat V.slots.size >>> (cd &&& 31) = Int32.ofNat n := by
  rcases h with ⟨rfl, h, -⟩ | ⟨rfl, h, -⟩
  · rw [shr0, h]
  · rw [h, shr1 (by omega)]
/-- **x is a String of the n chars f 0 .. f (n - 1)**, Latin-1 or UTF-16; its array at t has the cell V -/
def Txt (x t : Addr) (V : Cell) (cd : Int32) (n : Nat) (f : Nat → Int32) (U : State) : Prop := Exact "java/lang/String" x U ∧ Has x "java/lang/String" "value" "[B" (.ref t) U ∧ Has x "java/lang/String" "coder" "B" (.int cd) U ∧ XT.Arr .byte t V U ∧ Cod cd n f V ∧ ∀ j, j < n → ¬ f j < 0 ∧ ¬ 65535 < f j
theorem Txt.mv {x t : Addr} {V : Cell} {cd : Int32} {n : Nat} {f : Nat → Int32} {U U' : State} (h : Txt x t V cd n f U) (hal : U.vm.Alike U'.vm) (hh : U'.heap = U.heap) : Txt x t V cd n f U' := ⟨h.1.mv hal hh, h.2.1.mv hal hh, h.2.2.1.mv hal hh, h.2.2.2.1.mv hal hh, h.2.2.2.2⟩
namespace Cdr
def yN : MethodName := ⟨"java/lang/String", "coder", "()B"⟩
abbrev yB : ByteArray := jdk_42_method_152_code
theorem d0 : decode yB 0 = .ok (.getstatic 38, 3) := by decide +kernel
theorem d3 : decode yB 3 = .ok (.ifCond (.eq) 10, 3) := by decide +kernel
theorem d6 : decode yB 6 = .ok (.aload_n 0, 1) := by decide +kernel
theorem d7 : decode yB 7 = .ok (.getfield 15, 3) := by decide +kernel
theorem d10 : decode yB 10 = .ok (.goto 4, 3) := by decide +kernel
theorem d14 : decode yB 14 = .ok (.ireturn, 1) := by decide +kernel
def site : List Cond := [.fieldLink "java/lang/String" 38 "java/lang/String" "COMPACT_STRINGS" "Z", .fieldLink "java/lang/String" 15 "java/lang/String" "coder" "B"]
def tab : Cond := tabOf yN yB 1 (some .byte) site
def P (x : Addr) (cd z : Int32) (args : Array Value) (s : State) : Prop := args = #[.ref x] ∧ Has x "java/lang/String" "coder" "B" (.int cd) s ∧ (cd = 0 ∨ cd = 1) ∧ StaticIs s "java/lang/String" "COMPACT_STRINGS" "Z" (.int z) ∧ ¬ z = 0
def E (cd : Int32) (r : Option Value) (s u : State) : Prop := XT.PureE (some (.int cd)) r s u
theorem law (l : Launch) (x : Addr) (cd z : Int32) : Law l yN 1 0 0 0 yB 1 (some .byte) site (P x cd z) (E cd) [] 0 0 := by
  refine Law.of_walk (plainFor_of_name (by decide +kernel)) (by decide +kernel) (by decide +kernel) (by decide) (fun _ _ h => by rw [h.1]; rfl) (fun _ U U' hal hh h => ⟨h.1, h.2.1.mv hal hh, h.2.2.1, h.2.2.2.1.there hal hh, h.2.2.2.2⟩) (fun r U U' V V' h1 hal h2 h => XT.PureE.mv r U U' V V' h1 hal h2 h) ?_
  intro p e s m args below meth c s₁ X0 hexec hbytes hml hret hlk hnm hown hh0 W hP
  obtain ⟨rfl, hx, hc, s1, hz⟩ := hP
  have c1 : Steps p.tables e below (s₁.setTop (entryFrame m #[.ref x] 1)) (s₁.setTop (mkF m 0 #[.val (.ref x)] [])) := entry rfl
  obtain ⟨T2, X2, q2, st2⟩ := X0.sget hexec hown (wk W (.fieldLink "java/lang/String" 38 "java/lang/String" "COMPACT_STRINGS" "Z")) s1 (fun _ _ h => by rw [hh0]; exact h) (g := (mkF m 0 #[.val (.ref x)] [])) rfl (hb hbytes d0)
  have hh2 := q2.trans hh0
  have c3 : Steps p.tables e below (s₁.setTop (entryFrame m #[.ref x] 1)) (T2.setTop (mkF m 7 #[.val (.ref x)] [.ref x])) := (c1.trans (st2 _ (Steps.refl _))).trans (by
    refine XS.ifNo X2.here hexec rfl (hb hbytes d3) rfl (i0_eq_f hz) ?_
    refine XS.aloadN X2.here hexec rfl (hb hbytes d6) rfl rfl ?_
    exact Steps.refl _)
  obtain ⟨T4, X4, q4, st4⟩ := X2.hget hexec hown (wk W (.fieldLink "java/lang/String" 15 "java/lang/String" "coder" "B")) (hx.mv X2.warmed.alike hh2) (g := (mkF m 7 #[.val (.ref x)] [.ref x])) rfl (rest := []) rfl (hb hbytes d7)
  have c5 : Steps p.tables e below (s₁.setTop (entryFrame m #[.ref x] 1)) (T4.setTop (mkF m 14 #[.val (.ref x)] [.int cd])) := (c3.trans (st4 _ (Steps.refl _))).trans (by
    refine XS.goto X4.here hexec rfl (pc0 := 10) rfl (hb hbytes d10) (by decide) rfl ?_
    exact Steps.refl _)
  exact ⟨T4, some (.int cd), _, _, _, X4, rfl, rfl, rfl, (fun h => by cases h), ⟨rfl, q4.trans hh2⟩, fun fs hl => c5.trans (X4.ireturnOut hexec hret (by rcases hc with rfl | rfl <;> rfl) (Or.inr (Or.inr (Or.inl rfl))) (hb hbytes d14) hl)⟩
end Cdr
namespace Len
def yN : MethodName := ⟨"java/lang/String", "length", "()I"⟩
abbrev yB : ByteArray := jdk_42_method_54_code
theorem d0 : decode yB 0 = .ok (.aload_n 0, 1) := by decide +kernel
theorem d1 : decode yB 1 = .ok (.getfield 9, 3) := by decide +kernel
theorem d4 : decode yB 4 = .ok (.arraylength, 1) := by decide +kernel
theorem d5 : decode yB 5 = .ok (.aload_n 0, 1) := by decide +kernel
theorem d6 : decode yB 6 = .ok (.invokevirtual 335, 3) := by decide +kernel
theorem d9 : decode yB 9 = .ok (.ishr, 1) := by decide +kernel
theorem d10 : decode yB 10 = .ok (.ireturn, 1) := by decide +kernel
def site : List Cond := [.fieldLink "java/lang/String" 9 "java/lang/String" "value" "[B", Cdr.tab] ++ virtW "java/lang/String" 335 "java/lang/String" Cdr.yN Cdr.yN
def tab : Cond := tabOf yN yB 1 (some .int) site
def P (x t : Addr) (V : Cell) (cd : Int32) (n : Nat) (f : Nat → Int32) (z : Int32) (args : Array Value) (s : State) : Prop := args = #[.ref x] ∧ Txt x t V cd n f s ∧ StaticIs s "java/lang/String" "COMPACT_STRINGS" "Z" (.int z) ∧ ¬ z = 0
def E (n : Nat) (r : Option Value) (s u : State) : Prop := XT.PureE (some (.int (Int32.ofNat n))) r s u
/-- length() of a String of n chars, in either coding -/
theorem law (l : Launch) (x t : Addr) (V : Cell) (cd : Int32) (n : Nat) (f : Nat → Int32) (z : Int32) : Law l yN 1 0 1 13 yB 1 (some .int) site (P x t V cd n f z) (E n) [] 0 0 := by
  refine Law.of_walk (plainFor_of_name (by decide +kernel)) (by decide +kernel) (by decide +kernel) (by decide) (fun _ _ h => by rw [h.1]; rfl) (fun _ U U' hal hh h => ⟨h.1, h.2.1.mv hal hh, h.2.2.1.there hal hh, h.2.2.2⟩) (fun r U U' V V' h1 hal h2 h => XT.PureE.mv r U U' V V' h1 hal h2 h) ?_
  intro p e s m args below meth c s₁ X0 hexec hbytes hml hret hlk hnm hown hh0 W hP
  obtain ⟨rfl, hx, s1, hz⟩ := hP
  have v31 := hx.2.2.2.1.2.2.2
  have c1 : Steps p.tables e below (s₁.setTop (entryFrame m #[.ref x] 1)) (s₁.setTop (mkF m 1 #[.val (.ref x)] [.ref x])) := Steps.trans (entry rfl) (by
    show Steps p.tables e below (s₁.setTop (mkF m 0 #[.val (.ref x)] [])) _
    refine XS.aloadN X0.here hexec rfl (hb hbytes d0) rfl rfl ?_
    exact Steps.refl _)
  obtain ⟨T2, X2, q2, st2⟩ := X0.hget hexec hown (wk W (.fieldLink "java/lang/String" 9 "java/lang/String" "value" "[B")) (hx.mv X0.warmed.alike hh0).2.1 (g := (mkF m 1 #[.val (.ref x)] [.ref x])) rfl (rest := []) rfl (hb hbytes d1)
  have hh2 := q2.trans hh0
  have hx2 := hx.mv X2.warmed.alike hh2
  have c3 : Steps p.tables e below (s₁.setTop (entryFrame m #[.ref x] 1)) (T2.setTop (mkF m 6 #[.val (.ref x)] [.ref x, .int (Int32.ofNat V.slots.size)])) := (c1.trans (st2 _ (Steps.refl _))).trans (by
    refine X2.alen hexec hx2.2.2.2.1 rfl rfl (hb hbytes d4) ?_
    refine XS.aloadN X2.here hexec rfl (hb hbytes d5) rfl rfl ?_
    exact Steps.refl _)
  obtain ⟨v4, T4, X4, E4, g4⟩ := X2.callV hexec (Cdr.law l x cd z) hown (wks W (virtW "java/lang/String" 335 "java/lang/String" Cdr.yN Cdr.yN)) rfl (by decide) (wk W Cdr.tab) (W := 1) (Nat.le_of_ble_eq_true rfl) (Nat.le_of_ble_eq_true rfl) (Nat.le_refl _) (Nat.le_refl _) (hx2.1.fc X2.warmed.alike) hx2.1.is (g := (mkF m 6 #[.val (.ref x)] [.ref x, .int (Int32.ofNat V.slots.size)])) rfl (by rw [hml]; rfl) c3 (argsL := []) (rest := [.int (Int32.ofNat V.slots.size)]) rfl rfl (by show 2 * 0 + (1 + 0) ≤ _; decide) (hb hbytes d6) (⟨rfl, hx2.2.2.1, hx.2.2.2.2.1.cd, s1.there X2.warmed.alike hh2, hz⟩)
  obtain ⟨rfl, q4⟩ := E4
  have c5 : Steps p.tables e below (s₁.setTop (entryFrame m #[.ref x] 1)) (T4.setTop (mkF m 10 #[.val (.ref x)] [.int (Int32.ofNat V.slots.size >>> (cd &&& 31))])) := Steps.trans g4 (by
    refine ishr X4.here hexec rfl (hb hbytes d9) rfl ?_
    exact Steps.refl _)
  rw [hx.2.2.2.2.1.len v31] at c5
  exact ⟨T4, some (.int (Int32.ofNat n)), _, _, _, X4, rfl, rfl, rfl, (fun h => by cases h), ⟨rfl, q4.trans hh2⟩, fun fs hl => c5.trans (X4.ireturnOut hexec hret rfl (Or.inl rfl) (hb hbytes d10) hl)⟩
theorem pays {l : Launch} {R : Room} {p : Program} {e : Env} {below : List Frame} {s : State} {sargs : Array Value} {len W : Nat} (x t : Addr) (V : Cell) (cd : Int32) (n : Nat) (f : Nat → Int32) (z : Int32) (htab : tab.before sargs s = true) (hfr : 2 ≤ R.frames) (hlo : W + 25 ≤ R.locals) :
    Back l R p e below s sargs yN len W (fun A₁ a₁ => A₁.cells + 0 ≤ R.cells ∧ A₁.slots + 0 ≤ R.slots ∧ P x t V cd n f z a₁ A₁.U) (fun A₁ _ v₁ B₁ => E n v₁ A₁.U B₁.U ∧ B₁.locs = A₁.locs ++ [] ∧ B₁.cells = A₁.cells + 0 ∧ B₁.slots = A₁.slots + 0) :=
  (law l x t V cd n f z).pays htab hfr (by omega)
end Len
namespace IsL
def yN : MethodName := ⟨"java/lang/String", "isLatin1", "()Z"⟩
abbrev yB : ByteArray := jdk_42_method_154_code
theorem d0 : decode yB 0 = .ok (.getstatic 38, 3) := by decide +kernel
theorem d3 : decode yB 3 = .ok (.ifCond (.eq) 14, 3) := by decide +kernel
theorem d6 : decode yB 6 = .ok (.aload_n 0, 1) := by decide +kernel
theorem d7 : decode yB 7 = .ok (.getfield 15, 3) := by decide +kernel
theorem d10 : decode yB 10 = .ok (.ifCond (.ne) 7, 3) := by decide +kernel
theorem d13 : decode yB 13 = .ok (.iconst 1, 1) := by decide +kernel
theorem d14 : decode yB 14 = .ok (.goto 4, 3) := by decide +kernel
theorem d17 : decode yB 17 = .ok (.iconst 0, 1) := by decide +kernel
theorem d18 : decode yB 18 = .ok (.ireturn, 1) := by decide +kernel
def site : List Cond := [.fieldLink "java/lang/String" 38 "java/lang/String" "COMPACT_STRINGS" "Z", .fieldLink "java/lang/String" 15 "java/lang/String" "coder" "B"]
def tab : Cond := tabOf yN yB 1 (some .boolean) site
def P (x : Addr) (cd z : Int32) (args : Array Value) (s : State) : Prop := args = #[.ref x] ∧ Has x "java/lang/String" "coder" "B" (.int cd) s ∧ (cd = 0 ∨ cd = 1) ∧ StaticIs s "java/lang/String" "COMPACT_STRINGS" "Z" (.int z) ∧ ¬ z = 0
def E (cd : Int32) (r : Option Value) (s u : State) : Prop := XT.PureE (some (.int (1 - cd))) r s u
theorem law (l : Launch) (x : Addr) (cd z : Int32) : Law l yN 1 0 0 0 yB 1 (some .boolean) site (P x cd z) (E cd) [] 0 0 := by
  refine Law.of_walk (plainFor_of_name (by decide +kernel)) (by decide +kernel) (by decide +kernel) (by decide) (fun _ _ h => by rw [h.1]; rfl) (fun _ U U' hal hh h => ⟨h.1, h.2.1.mv hal hh, h.2.2.1, h.2.2.2.1.there hal hh, h.2.2.2.2⟩) (fun r U U' V V' h1 hal h2 h => XT.PureE.mv r U U' V V' h1 hal h2 h) ?_
  intro p e s m args below meth c s₁ X0 hexec hbytes hml hret hlk hnm hown hh0 W hP
  obtain ⟨rfl, hx, hc, s1, hz⟩ := hP
  have c1 : Steps p.tables e below (s₁.setTop (entryFrame m #[.ref x] 1)) (s₁.setTop (mkF m 0 #[.val (.ref x)] [])) := entry rfl
  obtain ⟨T2, X2, q2, st2⟩ := X0.sget hexec hown (wk W (.fieldLink "java/lang/String" 38 "java/lang/String" "COMPACT_STRINGS" "Z")) s1 (fun _ _ h => by rw [hh0]; exact h) (g := (mkF m 0 #[.val (.ref x)] [])) rfl (hb hbytes d0)
  have hh2 := q2.trans hh0
  have c3 : Steps p.tables e below (s₁.setTop (entryFrame m #[.ref x] 1)) (T2.setTop (mkF m 7 #[.val (.ref x)] [.ref x])) := (c1.trans (st2 _ (Steps.refl _))).trans (by
    refine XS.ifNo X2.here hexec rfl (hb hbytes d3) rfl (i0_eq_f hz) ?_
    refine XS.aloadN X2.here hexec rfl (hb hbytes d6) rfl rfl ?_
    exact Steps.refl _)
  obtain ⟨T4, X4, q4, st4⟩ := X2.hget hexec hown (wk W (.fieldLink "java/lang/String" 15 "java/lang/String" "coder" "B")) (hx.mv X2.warmed.alike hh2) (g := (mkF m 7 #[.val (.ref x)] [.ref x])) rfl (rest := []) rfl (hb hbytes d7)
  have c5 : Steps p.tables e below (s₁.setTop (entryFrame m #[.ref x] 1)) (T4.setTop (mkF m 10 #[.val (.ref x)] [.int cd])) := c3.trans (st4 _ (Steps.refl _))
  have c6 : Steps p.tables e below (s₁.setTop (entryFrame m #[.ref x] 1)) (T4.setTop (mkF m 18 #[.val (.ref x)] [.int (1 - cd)])) := by
    rcases hc with rfl | rfl
    · exact c5.trans (by
        refine XS.ifNo X4.here hexec rfl (hb hbytes d10) rfl (i0_ne_f rfl) ?_
        refine iconstV X4.here hexec rfl 1 (hb hbytes d13) (by decide) ?_
        refine XS.goto X4.here hexec rfl (pc0 := 14) rfl (hb hbytes d14) (by decide) rfl ?_
        exact Steps.refl _)
    · exact c5.trans (by
        refine XS.ifYes X4.here hexec rfl (pc0 := 10) rfl (hb hbytes d10) rfl (i0_ne_t (by decide)) (by decide) rfl ?_
        refine iconstV X4.here hexec rfl 0 (hb hbytes d17) (by decide) ?_
        exact Steps.refl _)
  exact ⟨T4, some (.int (1 - cd)), _, _, _, X4, rfl, rfl, rfl, (fun h => by cases h), ⟨rfl, q4.trans hh2⟩, fun fs hl => c6.trans (X4.ireturnOut hexec hret (by rcases hc with rfl | rfl <;> rfl) (Or.inr (Or.inl rfl)) (hb hbytes d18) hl)⟩
end IsL
namespace LChA
def yN : MethodName := ⟨"java/lang/StringLatin1", "charAt", "([BI)C"⟩
abbrev yB : ByteArray := jdk_43_method_2_code
theorem d0 : decode yB 0 = .ok (.iload_n 1, 1) := by decide +kernel
theorem d1 : decode yB 1 = .ok (.aload_n 0, 1) := by decide +kernel
theorem d2 : decode yB 2 = .ok (.arraylength, 1) := by decide +kernel
theorem d3 : decode yB 3 = .ok (.invokestatic 9, 3) := by decide +kernel
theorem d6 : decode yB 6 = .ok (.aload_n 0, 1) := by decide +kernel
theorem d7 : decode yB 7 = .ok (.iload_n 1, 1) := by decide +kernel
theorem d8 : decode yB 8 = .ok (.baload, 1) := by decide +kernel
theorem d9 : decode yB 9 = .ok (.sipush 255, 3) := by decide +kernel
theorem d12 : decode yB 12 = .ok (.iand, 1) := by decide +kernel
theorem d13 : decode yB 13 = .ok (.i2c, 1) := by decide +kernel
theorem d14 : decode yB 14 = .ok (.ireturn, 1) := by decide +kernel
def site : List Cond := [JO.Str_checkIndex.tab] ++ staticW "java/lang/StringLatin1" 9 JO.Str_checkIndex.yN
def tab : Cond := tabOf yN yB 2 (some .char) site
def P (t : Addr) (V : Cell) (i : Nat) (u : Int32) (fm : Value) (args : Array Value) (s : State) : Prop := args = #[.ref t, .int (Int32.ofNat i)] ∧ XT.Arr .byte t V s ∧ V.slots[i]? = some (.int u) ∧ (StaticIs s "jdk/internal/util/Preconditions" "SIOOBE_FORMATTER" "Ljava/util/function/BiFunction;" fm ∧ fm.isRef = true)
def E (u : Int32) (r : Option Value) (s w : State) : Prop := XT.PureE (some (.int (chr8 u))) r s w
theorem law (l : Launch) (t : Addr) (V : Cell) (i : Nat) (u : Int32) (fm : Value) : Law l yN 2 2 2 27 yB 2 (some .char) site (P t V i u fm) (E u) [] 0 0 := by
  refine Law.of_walk (plainFor_of_name (by decide +kernel)) (by decide +kernel) (by decide +kernel) (by decide) (fun _ _ h => by rw [h.1]; rfl) (fun _ U U' hal hh h => ⟨h.1, h.2.1.mv hal hh, h.2.2.1, h.2.2.2.1.there hal hh, h.2.2.2.2⟩) (fun r U U' V V' h1 hal h2 h => XT.PureE.mv r U U' V V' h1 hal h2 h) ?_
  intro p e s m args below meth c s₁ X0 hexec hbytes hml hret hlk hnm hown hh0 W hP
  obtain ⟨rfl, hV, hu, s1, rf⟩ := hP
  have v31 := hV.2.2.2
  have hi : i < V.slots.size := (Array.getElem?_eq_some_iff.mp hu).1
  have c1 : Steps p.tables e below (s₁.setTop (entryFrame m #[.ref t, .int (Int32.ofNat i)] 2)) (s₁.setTop (mkF m 0 #[.val (.ref t), .val (.int (Int32.ofNat i))] [])) := entry rfl
  have c2 : Steps p.tables e below (s₁.setTop (entryFrame m #[.ref t, .int (Int32.ofNat i)] 2)) (s₁.setTop (mkF m 3 #[.val (.ref t), .val (.int (Int32.ofNat i))] [.int (Int32.ofNat V.slots.size), .int (Int32.ofNat i)])) := c1.trans (by
    refine XS.iloadN X0.here hexec rfl (hb hbytes d0) rfl ?_
    refine XS.aloadN X0.here hexec rfl (hb hbytes d1) rfl rfl ?_
    refine X0.alen hexec (hV.mv X0.warmed.alike hh0) rfl rfl (hb hbytes d2) ?_
    exact Steps.refl _)
  obtain ⟨v3, T3, X3, E3, g3⟩ := X0.callS hexec (JO.Str_checkIndex.law l (Int32.ofNat i) (Int32.ofNat V.slots.size) fm) hown (wks W (staticW "java/lang/StringLatin1" 9 JO.Str_checkIndex.yN)) (wk W JO.Str_checkIndex.tab) (W := 0) (Nat.le_of_ble_eq_true rfl) (Nat.le_of_ble_eq_true rfl) (Nat.le_refl _) (Nat.le_refl _) (g := (mkF m 3 #[.val (.ref t), .val (.int (Int32.ofNat i))] [.int (Int32.ofNat V.slots.size), .int (Int32.ofNat i)])) rfl (by rw [hml]; rfl) c2 (argsL := [.int (Int32.ofNat i), .int (Int32.ofNat V.slots.size)]) (rest := []) rfl rfl (by show 2 * 0 + 0 ≤ _; decide) (hb hbytes d3) (⟨rfl, rf, s1.there X0.warmed.alike hh0, Int32.ofNat_not_neg (by omega), lt32 v31 hi⟩)
  obtain ⟨rfl, q3⟩ := E3
  have hh3 := q3.trans hh0
  have c4 : Steps p.tables e below (s₁.setTop (entryFrame m #[.ref t, .int (Int32.ofNat i)] 2)) (T3.setTop (mkF m 14 #[.val (.ref t), .val (.int (Int32.ofNat i))] [.int (chr8 u)])) := Steps.trans g3 (by
    refine XS.aloadN X3.here hexec rfl (hb hbytes d6) rfl rfl ?_
    refine XS.iloadN X3.here hexec rfl (hb hbytes d7) rfl ?_
    refine X3.aget hexec (hV.mv X3.warmed.alike hh3) rfl hu rfl rfl (hb hbytes d8) ?_
    refine sipushV X3.here hexec rfl 255 (hb hbytes d9) (by decide) ?_
    refine XS.iand X3.here hexec rfl (hb hbytes d12) rfl ?_
    refine i2c X3.here hexec rfl (hb hbytes d13) rfl ?_
    exact Steps.refl _)
  exact ⟨T3, some (.int (chr8 u)), _, _, _, X3, rfl, rfl, rfl, (fun h => by cases h), ⟨rfl, hh3⟩, fun fs hl => c4.trans (X3.ireturnOut hexec hret (narrow_c _) (Or.inr (Or.inr (Or.inr (Or.inl rfl)))) (hb hbytes d14) hl)⟩
end LChA
end StrChars
namespace StrChars.Road
open Jvm Sem ClassFile Op Lib Jvm.Stand Jvm.Free Jvm.Free.XT
open Jvm.Lib.Cold (StaticIs)
theorem consq {a : Array Value} {s : State} {c : Jvm.Cond} {L : List Jvm.Cond} (h0 : c.before a s = true) (h : ∀ w ∈ L, w.before a s = true) : ∀ w ∈ c :: L, w.before a s = true := fun w hw => (List.mem_cons.mp hw).elim (fun e => e ▸ h0) (h w)
/-- the words of String.length(), either coding -/
abbrev wordsLen : List Jvm.Cond := [.code Len.yN Len.yB 1 (some .int), .initialized ST, .fieldLink ST 9 ST "value" "[B", .fieldLink ST 38 ST "COMPACT_STRINGS" "Z", .fieldLink ST 15 ST "coder" "B", .code Cdr.yN Cdr.yB 1 (some .byte), .methodLink ST 335 Cdr.yN, .declares Cdr.yN, .selects ST Cdr.yN Cdr.yN, .instanceMethod Cdr.yN]
theorem tabLen_of {a : Array Value} {s : State} (h : ∀ w ∈ wordsLen, w.before a s = true) : Len.tab.before a s = true := by
  have hc : Cdr.tab.before a s = true := unparts (wk h (.code Cdr.yN Cdr.yB 1 (some .byte))) (wks h (.initialized Cdr.yN.cls :: Cdr.site))
  have q := consq hc h
  exact unparts (wk q (.code Len.yN Len.yB 1 (some .int))) (wks q (.initialized Len.yN.cls :: Len.site))
theorem movedLen {Z s : State} {a0 args : Array Value} (hZ : Z.Warmed39 s.vm) (hw : ∀ d ∈ wordsLen, d.before a0 Z = true) : ∀ d ∈ wordsLen, d.before args s = true := fun d hd => by
  have q := hw d hd
  have t : ∀ d ∈ wordsLen, d = .arrayClass .byte ∨ (d.onTables && d.keepsFace) = true := by decide +kernel
  rcases t d hd with rfl | t
  · exact RoadKit.mvA hZ q
  · exact RoadKit.mv hZ q t
/-- the bytes of the chars cs, low before high -/
def wideBytes : List Int32 → List Value
  | [] => []
  | c :: cs => .int (lo8 c) :: .int (hi8 c) :: wideBytes cs
theorem wide_lo (d : Value) : ∀ (cs : List Int32) (j : Nat), j < cs.length → (wideBytes cs).getD (2 * j) d = .int (lo8 (cs.getD j 0))
  | [], j, h => absurd h (Nat.not_lt_zero j)
  | c :: cs, 0, _ => rfl
  | c :: cs, j + 1, h => by
    have q := wide_lo d cs j (by simpa using h)
    rw [show 2 * (j + 1) = 2 * j + 1 + 1 from by omega]
    simpa [wideBytes] using q
theorem wide_hi (d : Value) : ∀ (cs : List Int32) (j : Nat), j < cs.length → (wideBytes cs).getD (2 * j + 1) d = .int (hi8 (cs.getD j 0))
  | [], j, h => absurd h (Nat.not_lt_zero j)
  | c :: cs, 0, _ => rfl
  | c :: cs, j + 1, h => by
    have q := wide_hi d cs j (by simpa using h)
    rw [show 2 * (j + 1) + 1 = 2 * j + 1 + 1 + 1 from by omega]
    simpa [wideBytes] using q
theorem low_at (d : Value) (cs : List Int32) (j : Nat) (h : j < cs.length) : (cs.map fun c => Value.int (lo8 c)).getD j d = .int (lo8 (cs.getD j 0)) := by
  simp [List.getD_eq_getElem?_getD, h]
/-- an array of N2 bytes vs codes the chars cs by the coder cd -/
def CodA (cs : List Int32) (cd N2 : Int32) (vs : List Value) : Prop := (cd = 0 ∧ N2 = Int32.ofNat cs.length ∧ vs = (cs.map fun c => Value.int (lo8 c)) ∧ ∀ c ∈ cs, ¬ 255 < c) ∨ (cd = 1 ∧ N2 = Int32.ofNat (2 * cs.length) ∧ vs = wideBytes cs ∧ ∃ c ∈ cs, 255 < c)
theorem CodA.cod {cs : List Int32} {cd N2 : Int32} {vs : List Value} {V : Cell} (h : CodA cs cd N2 vs) (hn : 2 * cs.length < 2 ^ 31) (hs : V.slots.size = N2.toNatClampNeg) (hv : RoadKit.Has V vs (.int 0)) : Cod cd cs.length (fun j => cs.getD j 0) V := by
  rcases h with ⟨rfl, rfl, rfl, h⟩ | ⟨rfl, rfl, rfl, c, hc, hw⟩
  · rw [n32 (by omega)] at hs
    exact Or.inl ⟨rfl, hs, fun j hj => ⟨by rw [hv j (by omega), low_at _ _ _ hj], by
      have e : cs.getD j 0 = cs[j] := by simp [List.getD_eq_getElem?_getD, hj]
      show ¬ 255 < cs.getD j 0
      rw [e]; exact h _ (List.getElem_mem _)⟩⟩
  · rw [n32 (by omega)] at hs
    obtain ⟨j, hj, rfl⟩ := List.getElem_of_mem hc
    exact Or.inr ⟨rfl, hs, fun j hj => ⟨by rw [hv _ (by omega), wide_lo _ _ _ hj], by rw [hv _ (by omega), wide_hi _ _ _ hj]⟩, j, hj, by
      have e : cs.getD j 0 = cs[j] := by simp [List.getD_eq_getElem?_getD, hj]
      show 255 < cs.getD j 0
      rw [e]; exact hw⟩
/-- an object of exactly java/lang/String, its two fields found: as the laws ask it -/
theorem strObj {Z U : State} {a0 : Array Value} {kI : Nat} (wi : (Jvm.Cond.instantiable ST kI).before a0 Z = true) (al : Z.vm.Alike U.vm) {x : Addr} {v0 c0 : Value} (E : RoadKit.Exa Z U.heap x ST) (V : RoadKit.Fld Z U.heap x ST "value" "[B" v0) (C : RoadKit.Fld Z U.heap x ST "coder" "B" c0) :
    ∃ (D : Cell) (fV fC : Field), Blank ST x D U ∧ Found ST "value" "[B" fV U ∧ Found ST "coder" "B" fC U ∧ D.slots[fV.slot]? = some v0 ∧ D.slots[fC.slot]? = some c0 ∧ RoadKit.slotOf Z ST "value" "[B" = fV.slot ∧ RoadKit.slotOf Z ST "coder" "B" = fC.slot := by
  obtain ⟨D, cfV, kV, iV, fV, hD, gV, stV, knV, obV, asV, slV⟩ := V
  obtain ⟨D', cfC, kC, iC, fC, hD', gC, stC, -, -, asC, slC⟩ := C
  cases hD.symm.trans hD'
  obtain ⟨D2, kD, e1, e2, e3, e4, e5⟩ := E
  cases hD.symm.trans e1
  obtain ⟨c2, k2, i1, i2, i3, -⟩ := Cond.instantiable_spec wi
  cases e2.symm.trans i1
  cases e3.symm.trans i2
  obtain ⟨kU, u1, u2⟩ := al.2.2 _ _ e3
  exact ⟨D, fV, fC, ⟨hD, ⟨knV, fun q hq => by rw [hq] at obV; cases obV⟩, by rw [al.findClass]; exact e2, kU, u1, by rw [u2]; exact i3, by rw [u2]; exact e5 i3⟩, ⟨SBG.found_only al ⟨cfV, kV, iV, gV⟩, stV⟩, ⟨SBG.found_only al ⟨cfC, kC, iC, gC⟩, stC⟩, slV, slC, by simp [RoadKit.slotOf, gV], by simp [RoadKit.slotOf, gC]⟩
theorem sta_is {Z U : State} (al : Z.vm.Alike U.vm) {C n d : String} {v : Value} (S : RoadKit.Sta Z U.heap C n d v) : StaticIs U C n d v := by
  obtain ⟨cfS, iS, kS, fS, st, cS, t1, t2, t3, t4, t5, t6, t7⟩ := S
  exact StaticIs.there (s := { Z with heap := U.heap }) ⟨cfS, iS, kS, fS, st, cS, t1, t2, t3, t4, t5, (fun q => by rw [q] at t6; cases t6), t7⟩ al rfl
/-- **length() OF SUCH A STRING** -/
theorem lenW {p : Program} {l : Launch} {e : Env} {R : Room} {s : State} {args : Array Value} {below : List Frame} {len W : Nat} {Z : State} {a0 : Array Value} {h : Heap} (hZ : Z.Warmed39 s.vm) (hw : ∀ d ∈ wordsLen, d.before a0 Z = true) {kI : Nat} (wi : (Jvm.Cond.instantiable ST kI).before a0 Z = true)
    {x t : Addr} {kb : ClassId} {cs : List Int32} {cd N2 z : Int32} {vs : List Value} (E : RoadKit.Exa Z h x ST) (V : RoadKit.Fld Z h x ST "value" "[B" (.ref t)) (C : RoadKit.Fld Z h x ST "coder" "B" (.int cd)) (K : RoadKit.Arv Z h t kb .byte N2 vs (.int 0)) (hc : CodA cs cd N2 vs) (hb : ∀ c ∈ cs, ¬ c < 0 ∧ ¬ (65535 : Int32) < c)
    (S : RoadKit.Sta Z h ST "COMPACT_STRINGS" "Z" (.int z)) (hz : ¬ z = 0) (l2 : cs.length ≤ 4000) (hfr : 2 ≤ R.frames) (hlo : W + 25 ≤ R.locals) :
    Back l R p e below s args (⟨"java/lang/String", "length", "()I"⟩ : MethodName) len W (fun P a => a = #[.ref x] ∧ P.U.heap = h ∧ P.cells + 0 ≤ R.cells ∧ P.slots + 0 ≤ R.slots)
      (fun P _ v B => ∃ L, (v = some (.int (Int32.ofNat cs.length)) ∧ L = [] ∧ B.U.heap = h) ∧ B.locs = P.locs ++ L ∧ B.cells = P.cells + 0 ∧ B.slots = P.slots + 0) := by
  obtain ⟨A, K1, K2, K3, K4, K5, K6⟩ := K
  have hcod := hc.cod (by omega) K3 K5
  intro m meth c P g ig mk a X hg hsize hdg hW hn hp'
  obtain ⟨rfl, rfl, r1, r2⟩ := hp'
  have al : Z.vm.Alike P.U.vm := hZ.alike.trans X.warmed.alike
  obtain ⟨D, fV, fC, hB, F1, F2, g1, g2, -, -⟩ := strObj wi al E V C
  have hx : Txt x t A cd cs.length (fun j => cs.getD j 0) P.U := ⟨⟨_, hB.2.2.1, D, hB.1, rfl, by cases q : D.vm <;> first | rfl | exact absurd q (hB.2.1.2 _)⟩, Has.of hB F1 g1, Has.of hB F2 g2, ⟨K1.1, State.isArrayOf_alike al K1.2.1, K1.2.2, by rcases hcod with ⟨-, q, -⟩ | ⟨-, q, -⟩ <;> omega⟩, hcod, fun j hj => by
    have e : cs.getD j 0 = cs[j] := by simp [List.getD_eq_getElem?_getD, hj]
    show ¬ cs.getD j 0 < 0 ∧ ¬ 65535 < cs.getD j 0
    rw [e]; exact hb _ (List.getElem_mem _)⟩
  obtain ⟨v, B, X', ⟨⟨hv, hh⟩, hl, hk, hs⟩, st⟩ := Len.pays x t A cd cs.length (fun j => cs.getD j 0) z (tabLen_of (movedLen hZ hw)) hfr hlo m meth c P g ig mk _ X hg hsize hdg hW hn ⟨r1, r2, rfl, hx, sta_is al S, hz⟩
  exact ⟨v, B, X', ⟨[], ⟨hv, rfl, hh⟩, hl, hk, hs⟩, st⟩
end StrChars.Road
namespace StrChars.Road
open Jvm Sem ClassFile Op Lib Jvm.Stand Jvm.Free Jvm.Free.XT
open Jvm.Lib.Cold (StaticIs)
/-- the road's facts of a String, as the laws ask it -/
theorem txt_of {Z U : State} {a0 : Array Value} {kI : Nat} (wi : (Jvm.Cond.instantiable ST kI).before a0 Z = true) (al : Z.vm.Alike U.vm) {x t : Addr} {kb : ClassId} {cs : List Int32} {cd N2 : Int32} {vs : List Value} (E : RoadKit.Exa Z U.heap x ST) (V : RoadKit.Fld Z U.heap x ST "value" "[B" (.ref t)) (C : RoadKit.Fld Z U.heap x ST "coder" "B" (.int cd)) (K : RoadKit.Arv Z U.heap t kb .byte N2 vs (.int 0)) (hc : CodA cs cd N2 vs) (hb : ∀ c ∈ cs, ¬ c < 0 ∧ ¬ (65535 : Int32) < c) (l2 : cs.length ≤ 4000) :
    ∃ A, Txt x t A cd cs.length (fun j => cs.getD j 0) U := by
  obtain ⟨A, K1, K2, K3, K4, K5, K6⟩ := K
  have hcod := hc.cod (by omega) K3 K5
  obtain ⟨D, fV, fC, hB, F1, F2, g1, g2, -, -⟩ := strObj wi al E V C
  exact ⟨A, ⟨_, hB.2.2.1, D, hB.1, rfl, by cases q : D.vm <;> first | rfl | exact absurd q (hB.2.1.2 _)⟩, Has.of hB F1 g1, Has.of hB F2 g2, ⟨K1.1, State.isArrayOf_alike al K1.2.1, K1.2.2, by rcases hcod with ⟨-, q, -⟩ | ⟨-, q, -⟩ <;> omega⟩, hcod, fun j hj => by
    have e : cs.getD j 0 = cs[j] := by simp [List.getD_eq_getElem?_getD, hj]
    show ¬ cs.getD j 0 < 0 ∧ ¬ 65535 < cs.getD j 0
    rw [e]; exact hb _ (List.getElem_mem _)⟩
end StrChars.Road
namespace StrChars
open Jvm Sem ClassFile Op Lib Jvm.Stand Jvm.Free.XT Jvm.Free.ALB Jvm.Free.JM Jvm.Free
open Jvm.Lib.Cold (StaticIs)
namespace ChN
def yN : MethodName := ⟨"java/lang/String", "charAt", "(I)C"⟩
abbrev yB : ByteArray := jdk_42_method_56_code
theorem d0 : decode yB 0 = .ok (.aload_n 0, 1) := by decide +kernel
theorem d1 : decode yB 1 = .ok (.invokevirtual 492, 3) := by decide +kernel
theorem d4 : decode yB 4 = .ok (.ifCond (.eq) 12, 3) := by decide +kernel
theorem d7 : decode yB 7 = .ok (.aload_n 0, 1) := by decide +kernel
theorem d8 : decode yB 8 = .ok (.getfield 9, 3) := by decide +kernel
theorem d11 : decode yB 11 = .ok (.iload_n 1, 1) := by decide +kernel
theorem d12 : decode yB 12 = .ok (.invokestatic 495, 3) := by decide +kernel
theorem d15 : decode yB 15 = .ok (.ireturn, 1) := by decide +kernel
def site : List Cond := [.fieldLink "java/lang/String" 9 "java/lang/String" "value" "[B", IsL.tab, LChA.tab] ++ virtW "java/lang/String" 492 "java/lang/String" IsL.yN IsL.yN ++ staticW "java/lang/String" 495 LChA.yN
def tab : Cond := tabOf yN yB 2 (some .char) site
def P (x t : Addr) (V : Cell) (n : Nat) (f : Nat → Int32) (z : Int32) (fm : Value) (i : Nat) (args : Array Value) (s : State) : Prop := args = #[.ref x, .int (Int32.ofNat i)] ∧ Txt x t V 0 n f s ∧ i < n ∧ StaticIs s "java/lang/String" "COMPACT_STRINGS" "Z" (.int z) ∧ ¬ z = 0 ∧ StaticIs s "jdk/internal/util/Preconditions" "SIOOBE_FORMATTER" "Ljava/util/function/BiFunction;" fm ∧ fm.isRef = true
def E (f : Nat → Int32) (i : Nat) (r : Option Value) (s u : State) : Prop := XT.PureE (some (.int (f i))) r s u
/-- charAt(i) of a Latin-1 String of n chars, i < n: f i -/
theorem law (l : Launch) (x t : Addr) (V : Cell) (n : Nat) (f : Nat → Int32) (z : Int32) (fm : Value) (i : Nat) : Law l yN 2 1 3 40 yB 2 (some .char) site (P x t V n f z fm i) (E f i) [] 0 0 := by
  refine Law.of_walk (plainFor_of_name (by decide +kernel)) (by decide +kernel) (by decide +kernel) (by decide) (fun _ _ h => by rw [h.1]; rfl) (fun _ U U' hal hh h => ⟨h.1, h.2.1.mv hal hh, h.2.2.1, h.2.2.2.1.there hal hh, h.2.2.2.2.1, h.2.2.2.2.2.1.there hal hh, h.2.2.2.2.2.2⟩) (fun r U U' V V' h1 hal h2 h => XT.PureE.mv r U U' V V' h1 hal h2 h) ?_
  intro p e s m args below meth c s₁ X0 hexec hbytes hml hret hlk hnm hown hh0 W hP
  obtain ⟨rfl, hx, hi, s1, hz, s3, rf⟩ := hP
  have v31 := hx.2.2.2.1.2.2.2
  have hr := hx.2.2.2.2.2 i hi
  have hx0 := hx.mv X0.warmed.alike hh0
  have c1 : Steps p.tables e below (s₁.setTop (entryFrame m #[.ref x, .int (Int32.ofNat i)] 2)) (s₁.setTop (mkF m 1 #[.val (.ref x), .val (.int (Int32.ofNat i))] [.ref x])) := Steps.trans (entry rfl) (by
    show Steps p.tables e below (s₁.setTop (mkF m 0 #[.val (.ref x), .val (.int (Int32.ofNat i))] [])) _
    refine XS.aloadN X0.here hexec rfl (hb hbytes d0) rfl rfl ?_
    exact Steps.refl _)
  obtain ⟨v2, T2, X2, E2, g2⟩ := X0.callV hexec (IsL.law l x 0 z) hown (wks W (virtW "java/lang/String" 492 "java/lang/String" IsL.yN IsL.yN)) rfl (by decide) (wk W IsL.tab) (W := 0) (Nat.le_of_ble_eq_true rfl) (Nat.le_of_ble_eq_true rfl) (Nat.le_refl _) (Nat.le_refl _) (hx0.1.fc X0.warmed.alike) hx0.1.is (g := (mkF m 1 #[.val (.ref x), .val (.int (Int32.ofNat i))] [.ref x])) rfl (by rw [hml]; rfl) c1 (argsL := []) (rest := []) rfl rfl (by show 2 * 0 + 0 ≤ _; decide) (hb hbytes d1) (⟨rfl, hx0.2.2.1, hx.2.2.2.2.1.cd, s1.there X0.warmed.alike hh0, hz⟩)
  obtain ⟨rfl, q2⟩ := E2
  have hh2 := q2.trans hh0
  have hx2 := hx.mv X2.warmed.alike hh2
  obtain ⟨-, k1, k2⟩ | ⟨k0, -⟩ := hx.2.2.2.2.1
  · have c3 : Steps p.tables e below (s₁.setTop (entryFrame m #[.ref x, .int (Int32.ofNat i)] 2)) (T2.setTop (mkF m 8 #[.val (.ref x), .val (.int (Int32.ofNat i))] [.ref x])) := Steps.trans g2 (by
      refine XS.ifNo X2.here hexec rfl (hb hbytes d4) rfl (i0_eq_f (by decide)) ?_
      refine XS.aloadN X2.here hexec rfl (hb hbytes d7) rfl rfl ?_
      exact Steps.refl _)
    obtain ⟨T4, X4, q4, st4⟩ := X2.hget hexec hown (wk W (.fieldLink "java/lang/String" 9 "java/lang/String" "value" "[B")) hx2.2.1 (g := (mkF m 8 #[.val (.ref x), .val (.int (Int32.ofNat i))] [.ref x])) rfl (rest := []) rfl (hb hbytes d8)
    have hh4 := q4.trans hh2
    have c5 : Steps p.tables e below (s₁.setTop (entryFrame m #[.ref x, .int (Int32.ofNat i)] 2)) (T4.setTop (mkF m 12 #[.val (.ref x), .val (.int (Int32.ofNat i))] [.int (Int32.ofNat i), .ref t])) := (c3.trans (st4 _ (Steps.refl _))).trans (by
      refine XS.iloadN X4.here hexec rfl (hb hbytes d11) rfl ?_
      exact Steps.refl _)
    obtain ⟨v6, T6, X6, E6, g6⟩ := X4.callS hexec (LChA.law l t V i (lo8 (f i)) fm) hown (wks W (staticW "java/lang/String" 495 LChA.yN)) (wk W LChA.tab) (W := 0) (Nat.le_of_ble_eq_true rfl) (Nat.le_of_ble_eq_true rfl) (Nat.le_refl _) (Nat.le_refl _) (g := (mkF m 12 #[.val (.ref x), .val (.int (Int32.ofNat i))] [.int (Int32.ofNat i), .ref t])) rfl (by rw [hml]; rfl) c5 (argsL := [.ref t, .int (Int32.ofNat i)]) (rest := []) rfl rfl (by show 2 * 0 + 0 ≤ _; decide) (hb hbytes d12) (⟨rfl, hx.2.2.2.1.mv X4.warmed.alike hh4, (k2 i hi).1, s3.there X4.warmed.alike hh4, rf⟩)
    obtain ⟨rfl, q6⟩ := E6
    rw [chr8_lo8 hr.1 (k2 i hi).2] at g6
    exact ⟨T6, some (.int (f i)), _, _, _, X6, rfl, rfl, rfl, (fun h => by cases h), ⟨rfl, q6.trans hh4⟩, fun fs hl => Steps.trans g6 (X6.ireturnOut hexec hret (narrow_ch hr.1 hr.2) (Or.inr (Or.inr (Or.inr (Or.inl rfl)))) (hb hbytes d15) hl)⟩
  · exact absurd k0 (by decide)
theorem pays {l : Launch} {R : Room} {p : Program} {e : Env} {below : List Frame} {s : State} {sargs : Array Value} {len W : Nat} (x t : Addr) (V : Cell) (n : Nat) (f : Nat → Int32) (z : Int32) (fm : Value) (i : Nat) (htab : tab.before sargs s = true) (hfr : 4 ≤ R.frames) (hlo : W + 53 ≤ R.locals) :
    Back l R p e below s sargs yN len W (fun A₁ a₁ => A₁.cells + 0 ≤ R.cells ∧ A₁.slots + 0 ≤ R.slots ∧ P x t V n f z fm i a₁ A₁.U) (fun A₁ _ v₁ B₁ => E f i v₁ A₁.U B₁.U ∧ B₁.locs = A₁.locs ++ [] ∧ B₁.cells = A₁.cells + 0 ∧ B₁.slots = A₁.slots + 0) :=
  (law l x t V n f z fm i).pays htab hfr (by omega)
end ChN
end StrChars
namespace StrChars.Road
open Jvm Sem ClassFile Op Lib Jvm.Stand Jvm.Free Jvm.Free.XT
open Jvm.Lib.Cold (StaticIs)
/-- the words of String.charAt(int), the Latin-1 road alone -/
abbrev wordsChN : List Jvm.Cond := [.code ChN.yN ChN.yB 2 (some .char), .initialized ST, .fieldLink ST 9 ST "value" "[B", .fieldLink ST 38 ST "COMPACT_STRINGS" "Z", .fieldLink ST 15 ST "coder" "B", .code IsL.yN IsL.yB 1 (some .boolean), .methodLink ST 492 IsL.yN, .declares IsL.yN, .selects ST IsL.yN IsL.yN, .instanceMethod IsL.yN,
  .methodLink ST 495 LChA.yN, .static LChA.yN, .code LChA.yN LChA.yB 2 (some .char), .initialized "java/lang/StringLatin1", .methodLink "java/lang/StringLatin1" 9 JO.Str_checkIndex.yN, .static JO.Str_checkIndex.yN, .code JO.Str_checkIndex.yN JO.Str_checkIndex.yB 2 none,
  .fieldLink ST 1053 "jdk/internal/util/Preconditions" "SIOOBE_FORMATTER" "Ljava/util/function/BiFunction;", .methodLink ST 1059 JC.PreCheck.yN, .static JC.PreCheck.yN, .code JC.PreCheck.yN JC.PreCheck.yB 3 (some .int), .initialized "jdk/internal/util/Preconditions"]
theorem tabChN_of {a : Array Value} {s : State} (h : ∀ w ∈ wordsChN, w.before a s = true) : ChN.tab.before a s = true := by
  have hp : JC.PreCheck.tab.before a s = true := unparts (wk h (.code JC.PreCheck.yN JC.PreCheck.yB 3 (some .int))) (wks h (.initialized JC.PreCheck.yN.cls :: JC.PreCheck.site))
  have qk := consq hp h
  have hk : JO.Str_checkIndex.tab.before a s = true := unparts (wk qk (.code JO.Str_checkIndex.yN JO.Str_checkIndex.yB 2 none)) (wks qk (.initialized JO.Str_checkIndex.yN.cls :: JO.Str_checkIndex.site))
  have ql := consq hk h
  have hl : LChA.tab.before a s = true := unparts (wk ql (.code LChA.yN LChA.yB 2 (some .char))) (wks ql (.initialized LChA.yN.cls :: LChA.site))
  have hi : IsL.tab.before a s = true := unparts (wk h (.code IsL.yN IsL.yB 1 (some .boolean))) (wks h (.initialized IsL.yN.cls :: IsL.site))
  have q := consq hi (consq hl h)
  exact unparts (wk q (.code ChN.yN ChN.yB 2 (some .char))) (wks q (.initialized ChN.yN.cls :: ChN.site))
theorem movedChN {Z s : State} {a0 args : Array Value} (hZ : Z.Warmed39 s.vm) (hw : ∀ d ∈ wordsChN, d.before a0 Z = true) : ∀ d ∈ wordsChN, d.before args s = true := fun d hd => by
  have t : ∀ d ∈ wordsChN, (d.onTables && d.keepsFace) = true := by decide +kernel
  exact RoadKit.mv hZ (hw d hd) (t d hd)
/-- **charAt(i) OF A LATIN-1 STRING**, i < n: the char -/
theorem chN {p : Program} {l : Launch} {e : Env} {R : Room} {s : State} {args : Array Value} {below : List Frame} {len W : Nat} {Z : State} {a0 : Array Value} {h : Heap} (hZ : Z.Warmed39 s.vm) (hw : ∀ d ∈ wordsChN, d.before a0 Z = true) {kI : Nat} (wi : (Jvm.Cond.instantiable ST kI).before a0 Z = true)
    {x t : Addr} {kb : ClassId} {cs : List Int32} {N2 z : Int32} {vs : List Value} {fm : Value} {i : Nat} {j : Int32} (E : RoadKit.Exa Z h x ST) (V : RoadKit.Fld Z h x ST "value" "[B" (.ref t)) (C : RoadKit.Fld Z h x ST "coder" "B" (.int 0)) (K : RoadKit.Arv Z h t kb .byte N2 vs (.int 0)) (hc : CodA cs 0 N2 vs) (hb : ∀ c ∈ cs, ¬ c < 0 ∧ ¬ (65535 : Int32) < c)
    (S : RoadKit.Sta Z h ST "COMPACT_STRINGS" "Z" (.int z)) (hz : ¬ z = 0) (F : RoadKit.Sta Z h "jdk/internal/util/Preconditions" "SIOOBE_FORMATTER" "Ljava/util/function/BiFunction;" fm) (rf : fm.isRef = true) (l2 : cs.length ≤ 4000) (hi : i < cs.length) (hj : j = Int32.ofNat i) (hfr : 4 ≤ R.frames) (hlo : W + 53 ≤ R.locals) :
    Back l R p e below s args (⟨"java/lang/String", "charAt", "(I)C"⟩ : MethodName) len W (fun P a => a = #[.ref x, .int j] ∧ P.U.heap = h ∧ P.cells + 0 ≤ R.cells ∧ P.slots + 0 ≤ R.slots)
      (fun P _ v B => ∃ L, (v = some (.int (cs.getD i 0)) ∧ L = [] ∧ B.U.heap = h) ∧ B.locs = P.locs ++ L ∧ B.cells = P.cells + 0 ∧ B.slots = P.slots + 0) := by
  subst hj
  intro m meth c P g ig mk a X hg hsize hdg hW hn hp'
  obtain ⟨rfl, rfl, r1, r2⟩ := hp'
  have al : Z.vm.Alike P.U.vm := hZ.alike.trans X.warmed.alike
  obtain ⟨A, hx⟩ := txt_of wi al E V C K hc hb l2
  obtain ⟨v, B, X', ⟨⟨hv, hh⟩, hl, hk, hs⟩, st⟩ := ChN.pays x t A cs.length (fun j => cs.getD j 0) z fm i (tabChN_of (movedChN hZ hw)) hfr hlo m meth c P g ig mk _ X hg hsize hdg hW hn ⟨r1, r2, rfl, hx, hi, sta_is al S, hz, sta_is al F, rf⟩
  exact ⟨v, B, X', ⟨[], ⟨hv, rfl, hh⟩, hl, hk, hs⟩, st⟩
/-- what backV says of its String, as the contracts of this text ask it: cs's low bytes, coder 0 -/
theorem codOf {cs : List Int32} {n : Nat} (hn : cs.length = n) (hb : ∀ c ∈ cs, ¬ 255 < c) : CodA cs 0 (Int32.ofNat n) ((cs.map lo8).map Value.int) := Or.inl ⟨rfl, by rw [hn], by simp [List.map_map, Function.comp_def], hb⟩
end StrChars.Road
end Jvm.Pilot.@@N@@
namespace Jvm.Pilot.@@N@@
open Jvm Jvm.ClassFile Sem Op Lib Jvm.Free Jvm.Stand Jvm.LawKit Jvm.RoadKit Jvm.OwnKit Bundle Jvm.Pilot.@@N@@.Jvm.D
def EL1 : List (String × Nat) := [("java/lang/String", 7)]
abbrev HW (a0 : Array Value) (Z : State) : Prop := ∀ d ∈ tables_1, d.before a0 Z = true
theorem w0 {a0 : Array Value} {Z : State} (hw : HW a0 Z) : (Jvm.Cond.constant "com/example/remora/remora/RequestPathHoldsControlCharacterPinLaw" (12 : Nat) (65535 : Int32) : Jvm.Cond).before a0 Z = true := hw _ (List.mem_of_getElem? (i := 0) rfl)
theorem w1 {a0 : Array Value} {Z : State} (hw : HW a0 Z) : (Jvm.Cond.methodLink "com/example/remora/remora/RequestPathHoldsControlCharacterPinLaw" (13 : Nat) ({ cls := "com/example/remora/remora/RequestPathHoldsControlCharacterPinLaw", name := "build", desc := "(ICCC)Ljava/lang/String;" } : Jvm.MethodName) : Jvm.Cond).before a0 Z = true := hw _ (List.mem_of_getElem? (i := 1) rfl)
theorem w2 {a0 : Array Value} {Z : State} (hw : HW a0 Z) : (Jvm.Cond.static ({ cls := "com/example/remora/remora/RequestPathHoldsControlCharacterPinLaw", name := "build", desc := "(ICCC)Ljava/lang/String;" } : Jvm.MethodName) : Jvm.Cond).before a0 Z = true := hw _ (List.mem_of_getElem? (i := 2) rfl)
theorem w3 {a0 : Array Value} {Z : State} (hw : HW a0 Z) : (Jvm.Cond.initialized "com/example/remora/remora/RequestPathHoldsControlCharacterPinLaw" : Jvm.Cond).before a0 Z = true := hw _ (List.mem_of_getElem? (i := 3) rfl)
theorem w4 {a0 : Array Value} {Z : State} (hw : HW a0 Z) : (Jvm.Cond.code ({ cls := "com/example/remora/remora/RequestPathHoldsControlCharacterPinLaw", name := "build", desc := "(ICCC)Ljava/lang/String;" } : Jvm.MethodName) method_3_code (4 : Nat) (Option.some (Jvm.ClassFile.FieldType.object "java/lang/String")) : Jvm.Cond).before a0 Z = true := hw _ (List.mem_of_getElem? (i := 4) rfl)
theorem w5 {a0 : Array Value} {Z : State} (hw : HW a0 Z) : (Jvm.Cond.classLink "com/example/remora/remora/RequestPathHoldsControlCharacterPinLaw" (7 : Nat) "java/lang/String" : Jvm.Cond).before a0 Z = true := hw _ (List.mem_of_getElem? (i := 5) rfl)
theorem w6 {a0 : Array Value} {Z : State} (hw : HW a0 Z) : (Jvm.Cond.instantiable "java/lang/String" (4 : Nat) : Jvm.Cond).before a0 Z = true := hw _ (List.mem_of_getElem? (i := 6) rfl)
theorem w7 {a0 : Array Value} {Z : State} (hw : HW a0 Z) : (Jvm.Cond.initialized "java/lang/String" : Jvm.Cond).before a0 Z = true := hw _ (List.mem_of_getElem? (i := 7) rfl)
theorem w8 {a0 : Array Value} {Z : State} (hw : HW a0 Z) : (Jvm.Cond.arrayClass Jvm.ClassFile.FieldType.char : Jvm.Cond).before a0 Z = true := hw _ (List.mem_of_getElem? (i := 8) rfl)
theorem w9 {a0 : Array Value} {Z : State} (hw : HW a0 Z) : (Jvm.Cond.methodLink "com/example/remora/remora/RequestPathHoldsControlCharacterPinLaw" (9 : Nat) ({ cls := "java/lang/String", name := "<init>", desc := "([C)V" } : Jvm.MethodName) : Jvm.Cond).before a0 Z = true := hw _ (List.mem_of_getElem? (i := 9) rfl)
theorem w10 {a0 : Array Value} {Z : State} (hw : HW a0 Z) : (Jvm.Cond.instanceMethod ({ cls := "java/lang/String", name := "<init>", desc := "([C)V" } : Jvm.MethodName) : Jvm.Cond).before a0 Z = true := hw _ (List.mem_of_getElem? (i := 10) rfl)
theorem w11 {a0 : Array Value} {Z : State} (hw : HW a0 Z) : (Jvm.Cond.code ({ cls := "java/lang/String", name := "<init>", desc := "([C)V" } : Jvm.MethodName) jdk_42_method_3_code (2 : Nat) (Option.none : Option Jvm.ClassFile.FieldType) : Jvm.Cond).before a0 Z = true := hw _ (List.mem_of_getElem? (i := 11) rfl)
theorem w12 {a0 : Array Value} {Z : State} (hw : HW a0 Z) : (Jvm.Cond.methodLink "java/lang/String" (27 : Nat) ({ cls := "java/lang/String", name := "<init>", desc := "([CIILjava/lang/Void;)V" } : Jvm.MethodName) : Jvm.Cond).before a0 Z = true := hw _ (List.mem_of_getElem? (i := 12) rfl)
theorem w13 {a0 : Array Value} {Z : State} (hw : HW a0 Z) : (Jvm.Cond.instanceMethod ({ cls := "java/lang/String", name := "<init>", desc := "([CIILjava/lang/Void;)V" } : Jvm.MethodName) : Jvm.Cond).before a0 Z = true := hw _ (List.mem_of_getElem? (i := 13) rfl)
theorem w15 {a0 : Array Value} {Z : State} (hw : HW a0 Z) : (Jvm.Cond.code ({ cls := "java/lang/String", name := "<init>", desc := "([CIILjava/lang/Void;)V" } : Jvm.MethodName) jdk_42_method_149_code (6 : Nat) (Option.none : Option Jvm.ClassFile.FieldType) : Jvm.Cond).before a0 Z = true := hw _ (List.mem_of_getElem? (i := 15) rfl)
theorem w16 {a0 : Array Value} {Z : State} (hw : HW a0 Z) : (Jvm.Cond.methodLink "java/lang/String" (1 : Nat) ({ cls := "java/lang/Object", name := "<init>", desc := "()V" } : Jvm.MethodName) : Jvm.Cond).before a0 Z = true := hw _ (List.mem_of_getElem? (i := 16) rfl)
theorem w17 {a0 : Array Value} {Z : State} (hw : HW a0 Z) : (Jvm.Cond.instanceMethod ({ cls := "java/lang/Object", name := "<init>", desc := "()V" } : Jvm.MethodName) : Jvm.Cond).before a0 Z = true := hw _ (List.mem_of_getElem? (i := 17) rfl)
theorem w18 {a0 : Array Value} {Z : State} (hw : HW a0 Z) : (Jvm.Cond.code ({ cls := "java/lang/Object", name := "<init>", desc := "()V" } : Jvm.MethodName) object_method_1_code (1 : Nat) (Option.none : Option Jvm.ClassFile.FieldType) : Jvm.Cond).before a0 Z = true := hw _ (List.mem_of_getElem? (i := 18) rfl)
theorem w20 {a0 : Array Value} {Z : State} (hw : HW a0 Z) : (Jvm.Cond.arrayClass Jvm.ClassFile.FieldType.byte : Jvm.Cond).before a0 Z = true := hw _ (List.mem_of_getElem? (i := 20) rfl)
theorem w21 {a0 : Array Value} {Z : State} (hw : HW a0 Z) : (Jvm.Cond.laysFinal "java/lang/String" "java/lang/String" "value" "[B" : Jvm.Cond).before a0 Z = true := hw _ (List.mem_of_getElem? (i := 21) rfl)
theorem w22 {a0 : Array Value} {Z : State} (hw : HW a0 Z) : (Jvm.Cond.laysFinal "java/lang/String" "java/lang/String" "coder" "B" : Jvm.Cond).before a0 Z = true := hw _ (List.mem_of_getElem? (i := 22) rfl)
theorem w25 {a0 : Array Value} {Z : State} (hw : HW a0 Z) : (Jvm.Cond.fieldLink "java/lang/String" (9 : Nat) "java/lang/String" "value" "[B" : Jvm.Cond).before a0 Z = true := hw _ (List.mem_of_getElem? (i := 25) rfl)
theorem w26 {a0 : Array Value} {Z : State} (hw : HW a0 Z) : (Jvm.Cond.fieldLink "java/lang/String" (15 : Nat) "java/lang/String" "coder" "B" : Jvm.Cond).before a0 Z = true := hw _ (List.mem_of_getElem? (i := 26) rfl)
theorem w27 {a0 : Array Value} {Z : State} (hw : HW a0 Z) : (Jvm.Cond.methodLink "com/example/remora/remora/RequestPathHoldsControlCharacterPinLaw" (23 : Nat) ({ cls := "com/example/remora/remora/RequestPath", name := "holdsControlCharacter", desc := "(Ljava/lang/String;)Z" } : Jvm.MethodName) : Jvm.Cond).before a0 Z = true := hw _ (List.mem_of_getElem? (i := 27) rfl)
theorem w28 {a0 : Array Value} {Z : State} (hw : HW a0 Z) : (Jvm.Cond.static ({ cls := "com/example/remora/remora/RequestPath", name := "holdsControlCharacter", desc := "(Ljava/lang/String;)Z" } : Jvm.MethodName) : Jvm.Cond).before a0 Z = true := hw _ (List.mem_of_getElem? (i := 28) rfl)
theorem w29 {a0 : Array Value} {Z : State} (hw : HW a0 Z) : (Jvm.Cond.initialized "com/example/remora/remora/RequestPath" : Jvm.Cond).before a0 Z = true := hw _ (List.mem_of_getElem? (i := 29) rfl)
theorem w30 {a0 : Array Value} {Z : State} (hw : HW a0 Z) : (Jvm.Cond.code ({ cls := "com/example/remora/remora/RequestPath", name := "holdsControlCharacter", desc := "(Ljava/lang/String;)Z" } : Jvm.MethodName) prog_11_method_4_code (3 : Nat) (Option.some Jvm.ClassFile.FieldType.boolean) : Jvm.Cond).before a0 Z = true := hw _ (List.mem_of_getElem? (i := 30) rfl)
theorem w31 {a0 : Array Value} {Z : State} (hw : HW a0 Z) : (Jvm.Cond.methodLink "com/example/remora/remora/RequestPath" (50 : Nat) ({ cls := "java/lang/String", name := "length", desc := "()I" } : Jvm.MethodName) : Jvm.Cond).before a0 Z = true := hw _ (List.mem_of_getElem? (i := 31) rfl)
theorem w32 {a0 : Array Value} {Z : State} (hw : HW a0 Z) : (Jvm.Cond.declares ({ cls := "java/lang/String", name := "length", desc := "()I" } : Jvm.MethodName) : Jvm.Cond).before a0 Z = true := hw _ (List.mem_of_getElem? (i := 32) rfl)
theorem w33 {a0 : Array Value} {Z : State} (hw : HW a0 Z) : (Jvm.Cond.instanceMethod ({ cls := "java/lang/String", name := "length", desc := "()I" } : Jvm.MethodName) : Jvm.Cond).before a0 Z = true := hw _ (List.mem_of_getElem? (i := 33) rfl)
theorem w34 {a0 : Array Value} {Z : State} (hw : HW a0 Z) : (Jvm.Cond.selects "java/lang/String" ({ cls := "java/lang/String", name := "length", desc := "()I" } : Jvm.MethodName) ({ cls := "java/lang/String", name := "length", desc := "()I" } : Jvm.MethodName) : Jvm.Cond).before a0 Z = true := hw _ (List.mem_of_getElem? (i := 34) rfl)
theorem w41 {a0 : Array Value} {Z : State} (hw : HW a0 Z) : (Jvm.Cond.fieldLink "java/lang/String" (38 : Nat) "java/lang/String" "COMPACT_STRINGS" "Z" : Jvm.Cond).before a0 Z = true := hw _ (List.mem_of_getElem? (i := 41) rfl)
theorem w42 {a0 : Array Value} {Z : State} (hw : HW a0 Z) : (Jvm.Cond.methodLink "java/lang/String" (177 : Nat) ({ cls := "java/lang/StringUTF16", name := "compress", desc := "([CII)[B" } : Jvm.MethodName) : Jvm.Cond).before a0 Z = true := hw _ (List.mem_of_getElem? (i := 42) rfl)
theorem w43 {a0 : Array Value} {Z : State} (hw : HW a0 Z) : (Jvm.Cond.static ({ cls := "java/lang/StringUTF16", name := "compress", desc := "([CII)[B" } : Jvm.MethodName) : Jvm.Cond).before a0 Z = true := hw _ (List.mem_of_getElem? (i := 43) rfl)
theorem w44 {a0 : Array Value} {Z : State} (hw : HW a0 Z) : (Jvm.Cond.initialized "java/lang/StringUTF16" : Jvm.Cond).before a0 Z = true := hw _ (List.mem_of_getElem? (i := 44) rfl)
theorem w45 {a0 : Array Value} {Z : State} (hw : HW a0 Z) : (Jvm.Cond.code ({ cls := "java/lang/StringUTF16", name := "compress", desc := "([CII)[B" } : Jvm.MethodName) jdk_52_method_16_code (6 : Nat) (Option.some (Jvm.ClassFile.FieldType.array Jvm.ClassFile.FieldType.byte)) : Jvm.Cond).before a0 Z = true := hw _ (List.mem_of_getElem? (i := 45) rfl)
theorem w46 {a0 : Array Value} {Z : State} (hw : HW a0 Z) : (Jvm.Cond.methodLink "java/lang/StringUTF16" (115 : Nat) ({ cls := "java/lang/StringUTF16", name := "compress", desc := "([CI[BII)I" } : Jvm.MethodName) : Jvm.Cond).before a0 Z = true := hw _ (List.mem_of_getElem? (i := 46) rfl)
theorem w47 {a0 : Array Value} {Z : State} (hw : HW a0 Z) : (Jvm.Cond.static ({ cls := "java/lang/StringUTF16", name := "compress", desc := "([CI[BII)I" } : Jvm.MethodName) : Jvm.Cond).before a0 Z = true := hw _ (List.mem_of_getElem? (i := 47) rfl)
theorem w48 {a0 : Array Value} {Z : State} (hw : HW a0 Z) : (Jvm.Cond.code ({ cls := "java/lang/StringUTF16", name := "compress", desc := "([CI[BII)I" } : Jvm.MethodName) jdk_52_method_21_code (7 : Nat) (Option.some Jvm.ClassFile.FieldType.int) : Jvm.Cond).before a0 Z = true := hw _ (List.mem_of_getElem? (i := 48) rfl)
theorem w49 {a0 : Array Value} {Z : State} (hw : HW a0 Z) : (Jvm.Cond.methodLink "java/lang/String" (47 : Nat) ({ cls := "java/lang/StringUTF16", name := "coderFromArrayLen", desc := "([BI)B" } : Jvm.MethodName) : Jvm.Cond).before a0 Z = true := hw _ (List.mem_of_getElem? (i := 49) rfl)
theorem w50 {a0 : Array Value} {Z : State} (hw : HW a0 Z) : (Jvm.Cond.static ({ cls := "java/lang/StringUTF16", name := "coderFromArrayLen", desc := "([BI)B" } : Jvm.MethodName) : Jvm.Cond).before a0 Z = true := hw _ (List.mem_of_getElem? (i := 50) rfl)
theorem w51 {a0 : Array Value} {Z : State} (hw : HW a0 Z) : (Jvm.Cond.code ({ cls := "java/lang/StringUTF16", name := "coderFromArrayLen", desc := "([BI)B" } : Jvm.MethodName) jdk_52_method_15_code (2 : Nat) (Option.some Jvm.ClassFile.FieldType.byte) : Jvm.Cond).before a0 Z = true := hw _ (List.mem_of_getElem? (i := 51) rfl)
theorem w52 {a0 : Array Value} {Z : State} (hw : HW a0 Z) : (Jvm.Cond.methodLink "com/example/remora/remora/RequestPathHoldsControlCharacterPinLaw" (19 : Nat) ({ cls := "com/example/remora/remora/RequestPathHoldsControlCharacterPinLaw", name := "control", desc := "(C)Z" } : Jvm.MethodName) : Jvm.Cond).before a0 Z = true := hw _ (List.mem_of_getElem? (i := 52) rfl)
theorem w53 {a0 : Array Value} {Z : State} (hw : HW a0 Z) : (Jvm.Cond.static ({ cls := "com/example/remora/remora/RequestPathHoldsControlCharacterPinLaw", name := "control", desc := "(C)Z" } : Jvm.MethodName) : Jvm.Cond).before a0 Z = true := hw _ (List.mem_of_getElem? (i := 53) rfl)
theorem w54 {a0 : Array Value} {Z : State} (hw : HW a0 Z) : (Jvm.Cond.code ({ cls := "com/example/remora/remora/RequestPathHoldsControlCharacterPinLaw", name := "control", desc := "(C)Z" } : Jvm.MethodName) method_2_code (1 : Nat) (Option.some Jvm.ClassFile.FieldType.boolean) : Jvm.Cond).before a0 Z = true := hw _ (List.mem_of_getElem? (i := 54) rfl)
theorem w55 {a0 : Array Value} {Z : State} (hw : HW a0 Z) : (Jvm.Cond.methodLink "com/example/remora/remora/RequestPath" (54 : Nat) ({ cls := "java/lang/String", name := "charAt", desc := "(I)C" } : Jvm.MethodName) : Jvm.Cond).before a0 Z = true := hw _ (List.mem_of_getElem? (i := 55) rfl)
theorem w56 {a0 : Array Value} {Z : State} (hw : HW a0 Z) : (Jvm.Cond.declares ({ cls := "java/lang/String", name := "charAt", desc := "(I)C" } : Jvm.MethodName) : Jvm.Cond).before a0 Z = true := hw _ (List.mem_of_getElem? (i := 56) rfl)
theorem w57 {a0 : Array Value} {Z : State} (hw : HW a0 Z) : (Jvm.Cond.instanceMethod ({ cls := "java/lang/String", name := "charAt", desc := "(I)C" } : Jvm.MethodName) : Jvm.Cond).before a0 Z = true := hw _ (List.mem_of_getElem? (i := 57) rfl)
theorem w58 {a0 : Array Value} {Z : State} (hw : HW a0 Z) : (Jvm.Cond.selects "java/lang/String" ({ cls := "java/lang/String", name := "charAt", desc := "(I)C" } : Jvm.MethodName) ({ cls := "java/lang/String", name := "charAt", desc := "(I)C" } : Jvm.MethodName) : Jvm.Cond).before a0 Z = true := hw _ (List.mem_of_getElem? (i := 58) rfl)
theorem w59 {a0 : Array Value} {Z : State} (hw : HW a0 Z) : (Jvm.Cond.code ({ cls := "java/lang/String", name := "charAt", desc := "(I)C" } : Jvm.MethodName) jdk_42_method_56_code (2 : Nat) (Option.some Jvm.ClassFile.FieldType.char) : Jvm.Cond).before a0 Z = true := hw _ (List.mem_of_getElem? (i := 59) rfl)
theorem w60 {a0 : Array Value} {Z : State} (hw : HW a0 Z) : (Jvm.Cond.methodLink "java/lang/String" (492 : Nat) ({ cls := "java/lang/String", name := "isLatin1", desc := "()Z" } : Jvm.MethodName) : Jvm.Cond).before a0 Z = true := hw _ (List.mem_of_getElem? (i := 60) rfl)
theorem w61 {a0 : Array Value} {Z : State} (hw : HW a0 Z) : (Jvm.Cond.declares ({ cls := "java/lang/String", name := "isLatin1", desc := "()Z" } : Jvm.MethodName) : Jvm.Cond).before a0 Z = true := hw _ (List.mem_of_getElem? (i := 61) rfl)
theorem w62 {a0 : Array Value} {Z : State} (hw : HW a0 Z) : (Jvm.Cond.instanceMethod ({ cls := "java/lang/String", name := "isLatin1", desc := "()Z" } : Jvm.MethodName) : Jvm.Cond).before a0 Z = true := hw _ (List.mem_of_getElem? (i := 62) rfl)
theorem w63 {a0 : Array Value} {Z : State} (hw : HW a0 Z) : (Jvm.Cond.selects "java/lang/String" ({ cls := "java/lang/String", name := "isLatin1", desc := "()Z" } : Jvm.MethodName) ({ cls := "java/lang/String", name := "isLatin1", desc := "()Z" } : Jvm.MethodName) : Jvm.Cond).before a0 Z = true := hw _ (List.mem_of_getElem? (i := 63) rfl)
theorem w64 {a0 : Array Value} {Z : State} (hw : HW a0 Z) : (Jvm.Cond.code ({ cls := "java/lang/String", name := "isLatin1", desc := "()Z" } : Jvm.MethodName) jdk_42_method_154_code (1 : Nat) (Option.some Jvm.ClassFile.FieldType.boolean) : Jvm.Cond).before a0 Z = true := hw _ (List.mem_of_getElem? (i := 64) rfl)
theorem w70 {a0 : Array Value} {Z : State} (hw : HW a0 Z) : (Jvm.Cond.static ({ cls := "java/lang/String", name := "checkIndex", desc := "(II)V" } : Jvm.MethodName) : Jvm.Cond).before a0 Z = true := hw _ (List.mem_of_getElem? (i := 70) rfl)
theorem w71 {a0 : Array Value} {Z : State} (hw : HW a0 Z) : (Jvm.Cond.code ({ cls := "java/lang/String", name := "checkIndex", desc := "(II)V" } : Jvm.MethodName) jdk_42_method_155_code (2 : Nat) (Option.none : Option Jvm.ClassFile.FieldType) : Jvm.Cond).before a0 Z = true := hw _ (List.mem_of_getElem? (i := 71) rfl)
theorem w72 {a0 : Array Value} {Z : State} (hw : HW a0 Z) : (Jvm.Cond.fieldLink "java/lang/String" (1053 : Nat) "jdk/internal/util/Preconditions" "SIOOBE_FORMATTER" "Ljava/util/function/BiFunction;" : Jvm.Cond).before a0 Z = true := hw _ (List.mem_of_getElem? (i := 72) rfl)
theorem w73 {a0 : Array Value} {Z : State} (hw : HW a0 Z) : (Jvm.Cond.initialized "jdk/internal/util/Preconditions" : Jvm.Cond).before a0 Z = true := hw _ (List.mem_of_getElem? (i := 73) rfl)
theorem w74 {a0 : Array Value} {Z : State} (hw : HW a0 Z) : (Jvm.Cond.methodLink "java/lang/String" (1059 : Nat) ({ cls := "jdk/internal/util/Preconditions", name := "checkIndex", desc := "(IILjava/util/function/BiFunction;)I" } : Jvm.MethodName) : Jvm.Cond).before a0 Z = true := hw _ (List.mem_of_getElem? (i := 74) rfl)
theorem w75 {a0 : Array Value} {Z : State} (hw : HW a0 Z) : (Jvm.Cond.static ({ cls := "jdk/internal/util/Preconditions", name := "checkIndex", desc := "(IILjava/util/function/BiFunction;)I" } : Jvm.MethodName) : Jvm.Cond).before a0 Z = true := hw _ (List.mem_of_getElem? (i := 75) rfl)
theorem w76 {a0 : Array Value} {Z : State} (hw : HW a0 Z) : (Jvm.Cond.code ({ cls := "jdk/internal/util/Preconditions", name := "checkIndex", desc := "(IILjava/util/function/BiFunction;)I" } : Jvm.MethodName) jdk_41_method_11_code (3 : Nat) (Option.some Jvm.ClassFile.FieldType.int) : Jvm.Cond).before a0 Z = true := hw _ (List.mem_of_getElem? (i := 76) rfl)
theorem w77 {a0 : Array Value} {Z : State} (hw : HW a0 Z) : (Jvm.Cond.methodLink "com/example/remora/remora/RequestPath" (58 : Nat) ({ cls := "java/lang/Character", name := "isISOControl", desc := "(C)Z" } : Jvm.MethodName) : Jvm.Cond).before a0 Z = true := hw _ (List.mem_of_getElem? (i := 77) rfl)
theorem w78 {a0 : Array Value} {Z : State} (hw : HW a0 Z) : (Jvm.Cond.static ({ cls := "java/lang/Character", name := "isISOControl", desc := "(C)Z" } : Jvm.MethodName) : Jvm.Cond).before a0 Z = true := hw _ (List.mem_of_getElem? (i := 78) rfl)
theorem w79 {a0 : Array Value} {Z : State} (hw : HW a0 Z) : (Jvm.Cond.initialized "java/lang/Character" : Jvm.Cond).before a0 Z = true := hw _ (List.mem_of_getElem? (i := 79) rfl)
theorem w80 {a0 : Array Value} {Z : State} (hw : HW a0 Z) : (Jvm.Cond.code ({ cls := "java/lang/Character", name := "isISOControl", desc := "(C)Z" } : Jvm.MethodName) jdk_89_method_88_code (1 : Nat) (Option.some Jvm.ClassFile.FieldType.boolean) : Jvm.Cond).before a0 Z = true := hw _ (List.mem_of_getElem? (i := 80) rfl)
theorem w81 {a0 : Array Value} {Z : State} (hw : HW a0 Z) : (Jvm.Cond.methodLink "java/lang/Character" (266 : Nat) ({ cls := "java/lang/Character", name := "isISOControl", desc := "(I)Z" } : Jvm.MethodName) : Jvm.Cond).before a0 Z = true := hw _ (List.mem_of_getElem? (i := 81) rfl)
theorem w82 {a0 : Array Value} {Z : State} (hw : HW a0 Z) : (Jvm.Cond.static ({ cls := "java/lang/Character", name := "isISOControl", desc := "(I)Z" } : Jvm.MethodName) : Jvm.Cond).before a0 Z = true := hw _ (List.mem_of_getElem? (i := 82) rfl)
theorem w83 {a0 : Array Value} {Z : State} (hw : HW a0 Z) : (Jvm.Cond.code ({ cls := "java/lang/Character", name := "isISOControl", desc := "(I)Z" } : Jvm.MethodName) jdk_89_method_89_code (1 : Nat) (Option.some Jvm.ClassFile.FieldType.boolean) : Jvm.Cond).before a0 Z = true := hw _ (List.mem_of_getElem? (i := 83) rfl)
theorem w84 {a0 : Array Value} {Z : State} (hw : HW a0 Z) : (Jvm.Cond.methodLink "java/lang/StringUTF16" (119 : Nat) ({ cls := "java/lang/StringUTF16", name := "toBytes", desc := "([CII)[B" } : Jvm.MethodName) : Jvm.Cond).before a0 Z = true := hw _ (List.mem_of_getElem? (i := 84) rfl)
theorem w85 {a0 : Array Value} {Z : State} (hw : HW a0 Z) : (Jvm.Cond.static ({ cls := "java/lang/StringUTF16", name := "toBytes", desc := "([CII)[B" } : Jvm.MethodName) : Jvm.Cond).before a0 Z = true := hw _ (List.mem_of_getElem? (i := 85) rfl)
theorem w86 {a0 : Array Value} {Z : State} (hw : HW a0 Z) : (Jvm.Cond.code ({ cls := "java/lang/StringUTF16", name := "toBytes", desc := "([CII)[B" } : Jvm.MethodName) jdk_52_method_14_code (5 : Nat) (Option.some (Jvm.ClassFile.FieldType.array Jvm.ClassFile.FieldType.byte)) : Jvm.Cond).before a0 Z = true := hw _ (List.mem_of_getElem? (i := 86) rfl)
theorem w87 {a0 : Array Value} {Z : State} (hw : HW a0 Z) : (Jvm.Cond.methodLink "java/lang/StringUTF16" (107 : Nat) ({ cls := "java/lang/StringUTF16", name := "newBytesFor", desc := "(I)[B" } : Jvm.MethodName) : Jvm.Cond).before a0 Z = true := hw _ (List.mem_of_getElem? (i := 87) rfl)
theorem w88 {a0 : Array Value} {Z : State} (hw : HW a0 Z) : (Jvm.Cond.static ({ cls := "java/lang/StringUTF16", name := "newBytesFor", desc := "(I)[B" } : Jvm.MethodName) : Jvm.Cond).before a0 Z = true := hw _ (List.mem_of_getElem? (i := 88) rfl)
theorem w89 {a0 : Array Value} {Z : State} (hw : HW a0 Z) : (Jvm.Cond.code ({ cls := "java/lang/StringUTF16", name := "newBytesFor", desc := "(I)[B" } : Jvm.MethodName) jdk_52_method_2_code (1 : Nat) (Option.some (Jvm.ClassFile.FieldType.array Jvm.ClassFile.FieldType.byte)) : Jvm.Cond).before a0 Z = true := hw _ (List.mem_of_getElem? (i := 89) rfl)
theorem w90 {a0 : Array Value} {Z : State} (hw : HW a0 Z) : (Jvm.Cond.methodLink "java/lang/StringUTF16" (11 : Nat) ({ cls := "java/lang/StringUTF16", name := "newBytesLength", desc := "(I)I" } : Jvm.MethodName) : Jvm.Cond).before a0 Z = true := hw _ (List.mem_of_getElem? (i := 90) rfl)
theorem w91 {a0 : Array Value} {Z : State} (hw : HW a0 Z) : (Jvm.Cond.static ({ cls := "java/lang/StringUTF16", name := "newBytesLength", desc := "(I)I" } : Jvm.MethodName) : Jvm.Cond).before a0 Z = true := hw _ (List.mem_of_getElem? (i := 91) rfl)
theorem w92 {a0 : Array Value} {Z : State} (hw : HW a0 Z) : (Jvm.Cond.code ({ cls := "java/lang/StringUTF16", name := "newBytesLength", desc := "(I)I" } : Jvm.MethodName) jdk_52_method_3_code (1 : Nat) (Option.some Jvm.ClassFile.FieldType.int) : Jvm.Cond).before a0 Z = true := hw _ (List.mem_of_getElem? (i := 92) rfl)
theorem w93 {a0 : Array Value} {Z : State} (hw : HW a0 Z) : (Jvm.Cond.constant "java/lang/StringUTF16" (20 : Nat) (1073741823 : Int32) : Jvm.Cond).before a0 Z = true := hw _ (List.mem_of_getElem? (i := 93) rfl)
theorem w94 {a0 : Array Value} {Z : State} (hw : HW a0 Z) : (Jvm.Cond.methodLink "java/lang/StringUTF16" (111 : Nat) ({ cls := "java/lang/StringUTF16", name := "putChar", desc := "([BII)V" } : Jvm.MethodName) : Jvm.Cond).before a0 Z = true := hw _ (List.mem_of_getElem? (i := 94) rfl)
theorem w95 {a0 : Array Value} {Z : State} (hw : HW a0 Z) : (Jvm.Cond.static ({ cls := "java/lang/StringUTF16", name := "putChar", desc := "([BII)V" } : Jvm.MethodName) : Jvm.Cond).before a0 Z = true := hw _ (List.mem_of_getElem? (i := 95) rfl)
theorem w96 {a0 : Array Value} {Z : State} (hw : HW a0 Z) : (Jvm.Cond.code ({ cls := "java/lang/StringUTF16", name := "putChar", desc := "([BII)V" } : Jvm.MethodName) jdk_52_method_4_code (3 : Nat) (Option.none : Option Jvm.ClassFile.FieldType) : Jvm.Cond).before a0 Z = true := hw _ (List.mem_of_getElem? (i := 96) rfl)
theorem w97 {a0 : Array Value} {Z : State} (hw : HW a0 Z) : (Jvm.Cond.fieldLink "java/lang/StringUTF16" (44 : Nat) "java/lang/StringUTF16" "$assertionsDisabled" "Z" : Jvm.Cond).before a0 Z = true := hw _ (List.mem_of_getElem? (i := 97) rfl)
theorem w98 {a0 : Array Value} {Z : State} (hw : HW a0 Z) : (Jvm.Cond.fieldLink "java/lang/StringUTF16" (59 : Nat) "java/lang/StringUTF16" "HI_BYTE_SHIFT" "I" : Jvm.Cond).before a0 Z = true := hw _ (List.mem_of_getElem? (i := 98) rfl)
theorem w99 {a0 : Array Value} {Z : State} (hw : HW a0 Z) : (Jvm.Cond.fieldLink "java/lang/StringUTF16" (63 : Nat) "java/lang/StringUTF16" "LO_BYTE_SHIFT" "I" : Jvm.Cond).before a0 Z = true := hw _ (List.mem_of_getElem? (i := 99) rfl)
theorem w100 {a0 : Array Value} {Z : State} (hw : HW a0 Z) : (Jvm.Cond.methodLink "java/lang/StringUTF16" (71 : Nat) ({ cls := "java/lang/StringUTF16", name := "getChar", desc := "([BI)C" } : Jvm.MethodName) : Jvm.Cond).before a0 Z = true := hw _ (List.mem_of_getElem? (i := 100) rfl)
theorem w101 {a0 : Array Value} {Z : State} (hw : HW a0 Z) : (Jvm.Cond.static ({ cls := "java/lang/StringUTF16", name := "getChar", desc := "([BI)C" } : Jvm.MethodName) : Jvm.Cond).before a0 Z = true := hw _ (List.mem_of_getElem? (i := 101) rfl)
theorem w102 {a0 : Array Value} {Z : State} (hw : HW a0 Z) : (Jvm.Cond.code ({ cls := "java/lang/StringUTF16", name := "getChar", desc := "([BI)C" } : Jvm.MethodName) jdk_52_method_5_code (2 : Nat) (Option.some Jvm.ClassFile.FieldType.char) : Jvm.Cond).before a0 Z = true := hw _ (List.mem_of_getElem? (i := 102) rfl)
theorem w103 {a0 : Array Value} {Z : State} (hw : HW a0 Z) : (Jvm.Cond.methodLink "java/lang/String" (498 : Nat) ({ cls := "java/lang/StringUTF16", name := "charAt", desc := "([BI)C" } : Jvm.MethodName) : Jvm.Cond).before a0 Z = true := hw _ (List.mem_of_getElem? (i := 103) rfl)
theorem w104 {a0 : Array Value} {Z : State} (hw : HW a0 Z) : (Jvm.Cond.static ({ cls := "java/lang/StringUTF16", name := "charAt", desc := "([BI)C" } : Jvm.MethodName) : Jvm.Cond).before a0 Z = true := hw _ (List.mem_of_getElem? (i := 104) rfl)
theorem w105 {a0 : Array Value} {Z : State} (hw : HW a0 Z) : (Jvm.Cond.code ({ cls := "java/lang/StringUTF16", name := "charAt", desc := "([BI)C" } : Jvm.MethodName) jdk_52_method_83_code (2 : Nat) (Option.some Jvm.ClassFile.FieldType.char) : Jvm.Cond).before a0 Z = true := hw _ (List.mem_of_getElem? (i := 105) rfl)
theorem w106 {a0 : Array Value} {Z : State} (hw : HW a0 Z) : (Jvm.Cond.methodLink "java/lang/StringUTF16" (67 : Nat) ({ cls := "java/lang/StringUTF16", name := "checkIndex", desc := "(I[B)V" } : Jvm.MethodName) : Jvm.Cond).before a0 Z = true := hw _ (List.mem_of_getElem? (i := 106) rfl)
theorem w107 {a0 : Array Value} {Z : State} (hw : HW a0 Z) : (Jvm.Cond.static ({ cls := "java/lang/StringUTF16", name := "checkIndex", desc := "(I[B)V" } : Jvm.MethodName) : Jvm.Cond).before a0 Z = true := hw _ (List.mem_of_getElem? (i := 107) rfl)
theorem w108 {a0 : Array Value} {Z : State} (hw : HW a0 Z) : (Jvm.Cond.code ({ cls := "java/lang/StringUTF16", name := "checkIndex", desc := "(I[B)V" } : Jvm.MethodName) jdk_52_method_91_code (2 : Nat) (Option.none : Option Jvm.ClassFile.FieldType) : Jvm.Cond).before a0 Z = true := hw _ (List.mem_of_getElem? (i := 108) rfl)
theorem w109 {a0 : Array Value} {Z : State} (hw : HW a0 Z) : (Jvm.Cond.methodLink "java/lang/StringUTF16" (48 : Nat) ({ cls := "java/lang/StringUTF16", name := "length", desc := "([B)I" } : Jvm.MethodName) : Jvm.Cond).before a0 Z = true := hw _ (List.mem_of_getElem? (i := 109) rfl)
theorem w110 {a0 : Array Value} {Z : State} (hw : HW a0 Z) : (Jvm.Cond.static ({ cls := "java/lang/StringUTF16", name := "length", desc := "([B)I" } : Jvm.MethodName) : Jvm.Cond).before a0 Z = true := hw _ (List.mem_of_getElem? (i := 110) rfl)
theorem w111 {a0 : Array Value} {Z : State} (hw : HW a0 Z) : (Jvm.Cond.code ({ cls := "java/lang/StringUTF16", name := "length", desc := "([B)I" } : Jvm.MethodName) jdk_52_method_6_code (1 : Nat) (Option.some Jvm.ClassFile.FieldType.int) : Jvm.Cond).before a0 Z = true := hw _ (List.mem_of_getElem? (i := 111) rfl)
theorem w112 {a0 : Array Value} {Z : State} (hw : HW a0 Z) : (Jvm.Cond.methodLink "java/lang/StringUTF16" (414 : Nat) ({ cls := "java/lang/String", name := "checkIndex", desc := "(II)V" } : Jvm.MethodName) : Jvm.Cond).before a0 Z = true := hw _ (List.mem_of_getElem? (i := 112) rfl)
theorem pd0 : parseMethodDescriptor "(I)I" = some ⟨[.int], some .int⟩ := by decide +kernel
theorem pd1 : parseMethodDescriptor "(I)[B" = some ⟨[.int], some (.array .byte)⟩ := by decide +kernel
theorem pd2 : parseMethodDescriptor "([BII)V" = some ⟨[(.array .byte), .int, .int], none⟩ := by decide +kernel
theorem pd3 : parseMethodDescriptor "([CI[BII)I" = some ⟨[(.array .char), .int, (.array .byte), .int, .int], some .int⟩ := by decide +kernel
theorem pd4 : parseMethodDescriptor "([CII)[B" = some ⟨[(.array .char), .int, .int], some (.array .byte)⟩ := by decide +kernel
theorem pd5 : parseMethodDescriptor "([BI)C" = some ⟨[(.array .byte), .int], some .char⟩ := by decide +kernel
theorem pd6 : parseMethodDescriptor "([BI)B" = some ⟨[(.array .byte), .int], some .byte⟩ := by decide +kernel
theorem pd7 : parseMethodDescriptor "([CIILjava/lang/Void;)V" = some ⟨[(.array .char), .int, .int, (.object "java/lang/Void")], none⟩ := by decide +kernel
theorem pd8 : parseMethodDescriptor "(IILjava/util/function/BiFunction;)I" = some ⟨[.int, .int, (.object "java/util/function/BiFunction")], some .int⟩ := by decide +kernel
theorem pd9 : parseMethodDescriptor "([B)I" = some ⟨[(.array .byte)], some .int⟩ := by decide +kernel
theorem pd10 : parseMethodDescriptor "(II)V" = some ⟨[.int, .int], none⟩ := by decide +kernel
theorem pd11 : parseMethodDescriptor "(I[B)V" = some ⟨[.int, (.array .byte)], none⟩ := by decide +kernel
theorem pd12 : parseMethodDescriptor "()Z" = some ⟨[], some .boolean⟩ := by decide +kernel
theorem pd13 : parseMethodDescriptor "([C)V" = some ⟨[(.array .char)], none⟩ := by decide +kernel
theorem pd14 : parseMethodDescriptor "(I)Z" = some ⟨[.int], some .boolean⟩ := by decide +kernel
theorem pd15 : parseMethodDescriptor "(I)C" = some ⟨[.int], some .char⟩ := by decide +kernel
theorem pd16 : parseMethodDescriptor "(C)Z" = some ⟨[.char], some .boolean⟩ := by decide +kernel
theorem pd17 : parseMethodDescriptor "(ICCC)Ljava/lang/String;" = some ⟨[.int, .char, .char, .char], some (.object "java/lang/String")⟩ := by decide +kernel
theorem pd18 : parseMethodDescriptor "(Ljava/lang/String;)Z" = some ⟨[(.object "java/lang/String")], some .boolean⟩ := by decide +kernel
theorem pd19 : parseMethodDescriptor "()I" = some ⟨[], some .int⟩ := by decide +kernel
theorem pn0 : plainName "java/lang/StringUTF16" = true := by first | (simp [plainName, overriddenIn]; done) | decide +kernel
theorem pn1 : plainName "java/lang/String" = true := by first | (simp [plainName, overriddenIn]; done) | decide +kernel
theorem pn2 : plainName "jdk/internal/util/Preconditions" = true := by first | (simp [plainName, overriddenIn]; done) | decide +kernel
theorem pn3 : plainName "com/example/remora/remora/RequestPathHoldsControlCharacterPinLaw" = true := by first | (simp [plainName, overriddenIn]; done) | decide +kernel
theorem pn4 : plainName "java/lang/Character" = true := by first | (simp [plainName, overriddenIn]; done) | decide +kernel
theorem pn5 : plainName "com/example/remora/remora/RequestPath" = true := by first | (simp [plainName, overriddenIn]; done) | decide +kernel
theorem ef0 (m : MethodId) (x0 : Addr) : entryFrame m #[(.ref x0)] 1 = mkF m 0 #[.val (.ref x0)] [] := by first | (simp [entryFrame, mkF, argsToLocals, Value.category]; done) | rfl
theorem ef1 (m : MethodId) (x0 : Addr) (x1 : Int32) : entryFrame m #[(.ref x0), (.int x1)] 2 = mkF m 0 #[.val (.ref x0), .val (.int x1)] [] := by first | (simp [entryFrame, mkF, argsToLocals, Value.category]; done) | rfl
theorem ef2 (m : MethodId) (x0 : Addr) (x1 : Int32) (x2 : Int32) : entryFrame m #[(.ref x0), (.int x1), (.int x2)] 3 = mkF m 0 #[.val (.ref x0), .val (.int x1), .val (.int x2)] [] := by first | (simp [entryFrame, mkF, argsToLocals, Value.category]; done) | rfl
theorem ef3 (m : MethodId) (x0 : Int32) : entryFrame m #[(.int x0)] 1 = mkF m 0 #[.val (.int x0)] [] := by first | (simp [entryFrame, mkF, argsToLocals, Value.category]; done) | rfl
theorem ef4 (m : MethodId) (x0 : Addr) (x1 : Int32) (x2 : Int32) : entryFrame m #[(.ref x0), (.int x1), (.int x2)] 5 = mkF m 0 #[.val (.ref x0), .val (.int x1), .val (.int x2), .unset, .unset] [] := by first | (simp [entryFrame, mkF, argsToLocals, Value.category]; done) | rfl
theorem ef5 (m : MethodId) (x0 : Addr) (x1 : Int32) (x2 : Addr) (x3 : Int32) (x4 : Int32) : entryFrame m #[(.ref x0), (.int x1), (.ref x2), (.int x3), (.int x4)] 7 = mkF m 0 #[.val (.ref x0), .val (.int x1), .val (.ref x2), .val (.int x3), .val (.int x4), .unset, .unset] [] := by first | (simp [entryFrame, mkF, argsToLocals, Value.category]; done) | rfl
theorem ef6 (m : MethodId) (x0 : Addr) (x1 : Int32) (x2 : Int32) : entryFrame m #[(.ref x0), (.int x1), (.int x2)] 6 = mkF m 0 #[.val (.ref x0), .val (.int x1), .val (.int x2), .unset, .unset, .unset] [] := by first | (simp [entryFrame, mkF, argsToLocals, Value.category]; done) | rfl
theorem ef7 (m : MethodId) (x0 : Addr) (x1 : Addr) (x2 : Int32) (x3 : Int32) : entryFrame m #[(.ref x0), (.ref x1), (.int x2), (.int x3), .null] 6 = mkF m 0 #[.val (.ref x0), .val (.ref x1), .val (.int x2), .val (.int x3), .val .null, .unset] [] := by first | (simp [entryFrame, mkF, argsToLocals, Value.category]; done) | rfl
theorem ef8 (m : MethodId) (x0 : Addr) (x1 : Addr) : entryFrame m #[(.ref x0), (.ref x1)] 2 = mkF m 0 #[.val (.ref x0), .val (.ref x1)] [] := by first | (simp [entryFrame, mkF, argsToLocals, Value.category]; done) | rfl
theorem ef9 (m : MethodId) (x0 : Int32) (x1 : Int32) (x2 : Addr) : entryFrame m #[(.int x0), (.int x1), (.ref x2)] 3 = mkF m 0 #[.val (.int x0), .val (.int x1), .val (.ref x2)] [] := by first | (simp [entryFrame, mkF, argsToLocals, Value.category]; done) | rfl
theorem ef10 (m : MethodId) (x0 : Int32) (x1 : Int32) : entryFrame m #[(.int x0), (.int x1), .null] 3 = mkF m 0 #[.val (.int x0), .val (.int x1), .val .null] [] := by first | (simp [entryFrame, mkF, argsToLocals, Value.category]; done) | rfl
theorem ef11 (m : MethodId) (x0 : Int32) (x1 : Int32) : entryFrame m #[(.int x0), (.int x1)] 2 = mkF m 0 #[.val (.int x0), .val (.int x1)] [] := by first | (simp [entryFrame, mkF, argsToLocals, Value.category]; done) | rfl
theorem ef12 (m : MethodId) (x0 : Int32) (x1 : Addr) : entryFrame m #[(.int x0), (.ref x1)] 2 = mkF m 0 #[.val (.int x0), .val (.ref x1)] [] := by first | (simp [entryFrame, mkF, argsToLocals, Value.category]; done) | rfl
theorem ef13 (m : MethodId) (x0 : Int32) (x1 : Int32) (x2 : Int32) (x3 : Int32) : entryFrame m #[(.int x0), (.int x1), (.int x2), (.int x3)] 4 = mkF m 0 #[.val (.int x0), .val (.int x1), .val (.int x2), .val (.int x3)] [] := by first | (simp [entryFrame, mkF, argsToLocals, Value.category]; done) | rfl
theorem ef14 (m : MethodId) (x0 : Addr) : entryFrame m #[(.ref x0)] 3 = mkF m 0 #[.val (.ref x0), .unset, .unset] [] := by first | (simp [entryFrame, mkF, argsToLocals, Value.category]; done) | rfl
theorem ef15 (m : MethodId) (x0 : Int32) (x1 : Int32) (x2 : Int32) (x3 : Int32) : entryFrame m #[(.int x0), (.int x1), (.int x2), (.int x3)] maxLocals = mkF m 0 #[.val (.int x0), .val (.int x1), .val (.int x2), .val (.int x3), .unset, .unset, .unset, .unset, .unset, .unset] [] := by first | (simp [entryFrame, mkF, argsToLocals, Value.category, maxLocals]; done) | rfl
abbrev ST : String := "java/lang/String"
def Ctx (Z : State) (a0 : Array Value) : Prop := HW a0 Z ∧ EW Z a0 EL1 ∧ (∃ z1 : Int32, Sta Z Z.heap "java/lang/String" "COMPACT_STRINGS" "Z" (.int z1) ∧ ¬ z1 = 0) ∧ (∃ fm : Value, Sta Z Z.heap "jdk/internal/util/Preconditions" "SIOOBE_FORMATTER" "Ljava/util/function/BiFunction;" fm ∧ fm.isRef = true) ∧ (Sta Z Z.heap "java/lang/StringUTF16" "$assertionsDisabled" "Z" (.int (1 : Int32)) ∧ Sta Z Z.heap "java/lang/StringUTF16" "HI_BYTE_SHIFT" "I" (.int (0 : Int32)) ∧ Sta Z Z.heap "java/lang/StringUTF16" "LO_BYTE_SHIFT" "I" (.int (8 : Int32)))
theorem Ctx.fm {Z : State} {a0 : Array Value} (X : Ctx Z a0) : ∃ fm : Value, Sta Z Z.heap "jdk/internal/util/Preconditions" "SIOOBE_FORMATTER" "Ljava/util/function/BiFunction;" fm ∧ fm.isRef = true := X.2.2.2.1
theorem Ctx.hw {Z : State} {a0 : Array Value} (X : Ctx Z a0) : HW a0 Z := X.1
theorem Ctx.ew {Z : State} {a0 : Array Value} (X : Ctx Z a0) : EW Z a0 EL1 := X.2.1
theorem sAtoms {Z : State} {a0 : Array Value} (hw : HW a0 Z) : ∀ a ∈ Bundle.stringAtoms, a.before a0 Z = true := fun d hd => hw d ((by decide +kernel : ∀ d ∈ Bundle.stringAtoms, d ∈ tables_1) d hd)
/-- the String at a spells cs -/
def StrF (Z : State) (h : Heap) (a : Addr) (cs : List Int32) : Prop := ∃ (t : Addr) (kb : ClassId) (cd N2 : Int32) (vs : List Value), Exa Z h a ST ∧ Fld Z h a ST "value" "[B" (.ref t) ∧ Fld Z h a ST "coder" "B" (.int cd) ∧ Arv Z h t kb .byte N2 vs (.int 0) ∧ StrChars.Road.CodA cs cd N2 vs ∧ (∀ c ∈ cs, ¬ c < 0 ∧ ¬ (65535 : Int32) < c) ∧ cs.length ≤ 4000
theorem StrF.ext {Z : State} {h h' : Heap} {a : Addr} {cs : List Int32} (F : StrF Z h a cs) (E : Ext h h') : StrF Z h' a cs := by
  obtain ⟨t, kb, cd, N2, vs, f1, f2, f3, f4, r⟩ := F; exact ⟨t, kb, cd, N2, vs, f1.ext E, f2.ext E, f3.ext E, f4.ext E, r⟩
theorem StrF.keep {Z : State} {h h' : Heap} {a x : Addr} {cs : List Int32} {C : String} {a0 : Array Value} {kk : Nat} (F : StrF Z h a cs) (K : Keep h h' [x]) (Ex : Exa Z h x C) (hC : C ≠ "java/lang/String") (wi : (Jvm.Cond.instantiable C kk).before a0 Z = true) : StrF Z h' a cs := by
  obtain ⟨t, kb, cd, N2, vs, f1, f2, f3, f4, r⟩ := F
  have n1 : a ∉ [x] := ninS (fun e => ne_exa Ex f1 hC e.symm) nin0
  have n2 : t ∉ [x] := ninS (fun e => by obtain ⟨c, A, -⟩ := f4; exact ne_arr Ex wi A e.symm) nin0
  exact ⟨t, kb, cd, N2, vs, f1.keep K, f2.keep K n1, f3.keep K n1, f4.keep K n2, r⟩
theorem StrF.exa {Z : State} {h : Heap} {a : Addr} {cs : List Int32} (F : StrF Z h a cs) : Exa Z h a ST := by obtain ⟨t, kb, cd, N2, vs, f1, r⟩ := F; exact f1
theorem StrF.lt {Z : State} {h : Heap} {a : Addr} {cs : List Int32} (F : StrF Z h a cs) : a < h.size := F.exa.lt
theorem up255 {cs : List Int32} (h : ∀ c ∈ cs, ¬ c < 0 ∧ ¬ (255 : Int32) < c) : ∀ c ∈ cs, ¬ c < 0 ∧ ¬ (65535 : Int32) < c := fun c hc => ⟨(h c hc).1, fun q => (h c hc).2 (by rw [Int32.lt_iff_toInt_lt] at q ⊢; have e1 : (65535 : Int32).toInt = 65535 := rfl; have e2 : (255 : Int32).toInt = 255 := rfl; omega)⟩
/-- a literal of EL1 is such a String -/
theorem StrF.lit {Z : State} {h : Heap} {a t : Addr} {kt : ClassId} {cs : List Int32} {z : Int32} {vs : List Value} (f1 : Exa Z h a ST) (f2 : Fld Z h a ST "coder" "B" (.int 0)) (f3 : Fld Z h a ST "value" "[B" (.ref t)) (f4 : Arv Z h t kt .byte z vs (.int 0)) (hz : z = Int32.ofNat cs.length) (hv : vs = (cs.map StrChars.lo8).map Value.int) (hp : ∀ c ∈ cs, ¬ c < 0 ∧ ¬ (255 : Int32) < c) (hl : cs.length ≤ 4000) : StrF Z h a cs := by
  subst hz hv
  exact ⟨t, kt, 0, _, _, f1, f3, f2, f4, StrChars.Road.codOf rfl (fun c hc => (hp c hc).2), up255 hp, hl⟩
theorem wdsV {Z : State} {a0 : Array Value} (hw : HW a0 Z) : ∀ d ∈ StrChars.Road.words, d.before a0 Z = true := fun d hd => hw d ((by decide +kernel : ∀ d ∈ StrChars.Road.words, d ∈ tables_1) d hd)
theorem g_newStr {p : Program} {l : Launch} {e : Env} {R : Room} {s : State} {m : MethodId} {args : Array Value} {below : List Frame} {meth : Method} {c : Code} {Z : State} {a0 : Array Value} {EL : List (String × Nat)} {n0 : Nat} {own : String} {T : State} {V : Vm} {h : Heap} {k n : Nat} {Q : Outcome → State → Prop} {pc : Nat} {Ls : Array Slot} {rest : List Value} (S : St p l e R s m args below meth c Z a0 EL n0 own T V h k n) (X : Ctx Z a0) {x b : Addr} {kC : ClassId} {cs : List Int32} {N : Int32} {dv v0 c0 : Value} {index : Nat} (l0 : 0 < cs.length) (l2 : cs.length ≤ 4000) (hN : N = Int32.ofNat cs.length) (na : n0 ≤ x) (sf : Safe Z EL V h x) (E : Exa Z h x ST) (Fv : Fld Z h x ST "value" "[B" v0) (Fc : Fld Z h x ST "coder" "B" c0) (K : Arv Z h b kC .char N (cs.map Value.int) dv) (hp : ∀ c ∈ cs, ¬ c < 0 ∧ ¬ (255 : Int32) < c)
    (wl : (Jvm.Cond.methodLink own index (⟨"java/lang/String", "<init>", "([C)V"⟩ : MethodName)).before a0 Z = true) (hd : decode c.code pc = .ok (.invokespecial index, 3)) (hsz : Ls.size = c.maxLocals) (hfr : 4 ≤ R.frames) (hlo : (rest.map fun v => v.category).sum + 65 ≤ R.locals) (hc : k + 1 ≤ R.cells) (hs : n + cs.length ≤ R.slots)
    (go : ∀ T' h', St p l e R s m args below meth c Z a0 EL n0 own T' V h' (k + 1) (n + cs.length) → Keep h h' [x] → StrF Z h' x cs → Go p e below Q (T'.setTop (mkF m (pc + 3) Ls rest))) : Go p e below Q (T.setTop (mkF m pc Ls (.ref b :: .ref x :: rest))) := by
  have hw := X.hw
  obtain ⟨z1, hz1, hz2⟩ := X.2.2.1
  refine g_specialB S (rc := 1) (rs := cs.length) (as' := #[.ref x, .ref b]) (W := (rest.map fun v => v.category).sum) (fun s' hZ' => StrChars.Road.backV hZ' (wdsV hw) (w6 hw) (n0 := n0) na S.le E Fv Fc K (hz1.ext S.old.2) hz2 rfl hN l0 l2 hp rfl hfr hlo) rfl wl (w10 hw) (w11 hw) (by decide) hd hsz x [.ref b] (lenOf pd13 rfl) rfl rfl (Nat.le_refl _) hc hs ?_ ?_
  · intro v h' L q
    exact ⟨q.2.1, [x], q.2.2.1, sfS sf sf0, allS na all0⟩
  · intro v T' h' L S' q
    obtain ⟨rfl, -, K', f1, f2, t, kb, -, -, -, f3, f4⟩ := q
    refine go T' h' S' K' ?_
    subst hN
    exact ⟨t, kb, 0, _, _, f1, f3, f2, f4, StrChars.Road.codOf rfl (fun c hc => (hp c hc).2), up255 hp, l2⟩
theorem wdsLen {Z : State} {a0 : Array Value} (hw : HW a0 Z) : ∀ d ∈ StrChars.Road.wordsLen, d.before a0 Z = true := fun d hd => hw d ((by decide +kernel : ∀ d ∈ StrChars.Road.wordsLen, d ∈ tables_1) d hd)
theorem g_strLen {p : Program} {l : Launch} {e : Env} {R : Room} {s : State} {m : MethodId} {args : Array Value} {below : List Frame} {meth : Method} {c : Code} {Z : State} {a0 : Array Value} {EL : List (String × Nat)} {n0 : Nat} {own : String} {T : State} {V : Vm} {h : Heap} {k n : Nat} {Q : Outcome → State → Prop} {pc : Nat} {Ls : Array Slot} {rest : List Value} (S : St p l e R s m args below meth c Z a0 EL n0 own T V h k n) (X : Ctx Z a0) {x : Addr} {cs : List Int32} {index : Nat} (F : StrF Z h x cs) (wl : (Jvm.Cond.methodLink own index (⟨"java/lang/String", "length", "()I"⟩ : MethodName)).before a0 Z = true) (hd : decode c.code pc = .ok (.invokevirtual index, 3)) (hsz : Ls.size = c.maxLocals) (hfr : 2 ≤ R.frames) (hlo : (rest.map fun v => v.category).sum + 25 ≤ R.locals) (hc : k ≤ R.cells) (hs : n ≤ R.slots)
    (go : ∀ T', St p l e R s m args below meth c Z a0 EL n0 own T' V h k n → Go p e below Q (T'.setTop (mkF m (pc + 3) Ls (.int (Int32.ofNat cs.length) :: rest)))) : Go p e below Q (T.setTop (mkF m pc Ls (.ref x :: rest))) := by
  have hw := X.hw
  obtain ⟨z1, hz1, hz2⟩ := X.2.2.1
  obtain ⟨t, kb, cd, N2, vs, f1, f2, f3, f4, f5, f6, f7⟩ := F
  refine g_virtualB S (rc := 0) (rs := 0) (QB := fun v h' L => v = some (.int (Int32.ofNat cs.length)) ∧ L = [] ∧ h' = h) (as' := #[.ref x]) (W := (rest.map fun v => v.category).sum) (fun s' hZ' => StrChars.Road.lenW hZ' (wdsLen hw) (w6 hw) f1 f2 f3 f4 f5 f6 (hz1.ext S.old.2) hz2 f7 hfr hlo) wl (w32 hw) (w34 hw) (w33 hw) (by decide) (fun _ h => notFace_of_selects h) hd hsz x f1 [] (lenOf pd19 rfl) rfl rfl (Nat.le_refl _) hc hs ?_ ?_
  · intro v h' L q
    obtain ⟨-, rfl, rfl⟩ := q
    exact ⟨Fr.nil n0, [], Keep.refl _ _, sf0, all0⟩
  · intro v T' h' L S' q
    obtain ⟨rfl, rfl, rfl⟩ := q
    exact go T' S'
theorem wdsCh {Z : State} {a0 : Array Value} (hw : HW a0 Z) : ∀ d ∈ StrChars.Road.wordsChN, d.before a0 Z = true := fun d hd => hw d ((by decide +kernel : ∀ d ∈ StrChars.Road.wordsChN, d ∈ tables_1) d hd)
theorem g_strChar {p : Program} {l : Launch} {e : Env} {R : Room} {s : State} {m : MethodId} {args : Array Value} {below : List Frame} {meth : Method} {c : Code} {Z : State} {a0 : Array Value} {EL : List (String × Nat)} {n0 : Nat} {own : String} {T : State} {V : Vm} {h : Heap} {k n : Nat} {Q : Outcome → State → Prop} {pc : Nat} {Ls : Array Slot} {rest : List Value} (S : St p l e R s m args below meth c Z a0 EL n0 own T V h k n) (X : Ctx Z a0) {x : Addr} {cs : List Int32} {index i : Nat} {j : Int32} (F : StrF Z h x cs) (hlat : ∀ c ∈ cs, ¬ (255 : Int32) < c) (hi : i < cs.length) (hj : j = Int32.ofNat i) (wl : (Jvm.Cond.methodLink own index (⟨"java/lang/String", "charAt", "(I)C"⟩ : MethodName)).before a0 Z = true) (hd : decode c.code pc = .ok (.invokevirtual index, 3)) (hsz : Ls.size = c.maxLocals) (hfr : 4 ≤ R.frames) (hlo : (rest.map fun v => v.category).sum + 53 ≤ R.locals) (hc : k ≤ R.cells) (hs : n ≤ R.slots)
    (go : ∀ T', St p l e R s m args below meth c Z a0 EL n0 own T' V h k n → Go p e below Q (T'.setTop (mkF m (pc + 3) Ls (.int (cs.getD i 0) :: rest)))) : Go p e below Q (T.setTop (mkF m pc Ls (.int j :: .ref x :: rest))) := by
  have hw := X.hw
  obtain ⟨z1, hz1, hz2⟩ := X.2.2.1
  obtain ⟨fm, hfm, rfm⟩ := X.fm
  obtain ⟨t, kb, cd, N2, vs, f1, f2, f3, f4, f5, f6, f7⟩ := F
  have hcd : cd = 0 := by
    rcases f5 with ⟨q, -⟩ | ⟨-, -, -, c, hc, hb⟩
    · exact q
    · exact absurd hb (hlat c hc)
  subst hcd
  refine g_virtualB S (rc := 0) (rs := 0) (QB := fun v h' L => v = some (.int (cs.getD i 0)) ∧ L = [] ∧ h' = h) (as' := #[.ref x, .int j]) (W := (rest.map fun v => v.category).sum) (fun s' hZ' => StrChars.Road.chN hZ' (wdsCh hw) (w6 hw) f1 f2 f3 f4 f5 f6 (hz1.ext S.old.2) hz2 (hfm.ext S.old.2) rfm f7 hi hj hfr hlo) wl (w56 hw) (w58 hw) (w57 hw) (by decide) (fun _ h => notFace_of_selects h) hd hsz x f1 [.int j] (lenOf pd15 rfl) rfl rfl (Nat.le_refl _) hc hs ?_ ?_
  · intro v h' L q
    obtain ⟨-, rfl, rfl⟩ := q
    exact ⟨Fr.nil n0, [], Keep.refl _ _, sf0, all0⟩
  · intro v T' h' L S' q
    obtain ⟨rfl, rfl, rfl⟩ := q
    exact go T' S'
theorem tlt_no {x y : Int32} (h : ¬ y < x) : if_icmp.holds .gt x y = false := (flt h).2.2.1
theorem lo8_lo8 (x : Int32) : StrChars.lo8 (StrChars.lo8 x) = StrChars.lo8 x := by simp [StrChars.lo8]
theorem own_pcLo (c : Int32) : nar .byte ((c >>> ((0 : Int32) &&& 31)).toInt8.toInt32) = StrChars.lo8 c := by
  show StrChars.lo8 (StrChars.lo8 (c >>> ((0 : Int32) &&& 31))) = _
  rw [lo8_lo8, StrChars.shr0]
theorem own_pcHi (c : Int32) : nar .byte ((c >>> ((8 : Int32) &&& 31)).toInt8.toInt32) = StrChars.hi8 c := lo8_lo8 _
theorem own_nb (c : Int32) : nar .byte (c.toInt8.toInt32) = StrChars.lo8 c := lo8_lo8 c
theorem own_pair {c : Int32} (h : ¬ c < 0 ∧ ¬ (65535 : Int32) < c) : (((StrChars.lo8 c &&& (255 : Int32)) <<< ((0 : Int32) &&& 31)) ||| ((StrChars.hi8 c &&& (255 : Int32)) <<< ((8 : Int32) &&& 31))).toUInt32.toUInt16.toUInt32.toInt32 = c := StrChars.pair_says h.1 h.2
theorem own_ex1 {c0 : Int32} (h : (255 : Int32) < c0) : ∃ c ∈ [c0], (255 : Int32) < c := by
  exact ⟨c0, by simp, h⟩
theorem own_ex2 {c0 c1 : Int32} (h : (255 : Int32) < c0 ∨ (255 : Int32) < c1) : ∃ c ∈ [c0, c1], (255 : Int32) < c := by
  rcases h with h | h
  · exact ⟨c0, by simp, h⟩
  · exact ⟨c1, by simp, h⟩
theorem own_ex3 {c0 c1 c2 : Int32} (h : (255 : Int32) < c0 ∨ (255 : Int32) < c1 ∨ (255 : Int32) < c2) : ∃ c ∈ [c0, c1, c2], (255 : Int32) < c := by
  rcases h with h | h | h
  · exact ⟨c0, by simp, h⟩
  · exact ⟨c1, by simp, h⟩
  · exact ⟨c2, by simp, h⟩
def ctl (c : Int32) : Prop := ¬ (31 : Int32) < c ∨ (¬ c < 127 ∧ ¬ (159 : Int32) < c)
theorem own_cA {c : Int32} (h : (159 : Int32) < c) : ¬ ctl c := by
  rintro (q | q)
  · exact q (by rw [Int32.lt_iff_toInt_lt] at h ⊢; have e1 : (159 : Int32).toInt = 159 := rfl; have e2 : (31 : Int32).toInt = 31 := rfl; omega)
  · exact q.2 h
theorem own_cB {c : Int32} (h : ¬ (159 : Int32) < c) (h2 : ¬ c < 127) : ctl c := Or.inr ⟨h2, h⟩
theorem own_us (c : Int32) : ((c.toUInt32 >>> ((5 : Int32) &&& 31).toUInt32).toInt32).toInt = (c.toInt % 4294967296) / 32 := c_iushr c 5 5 (by decide) (by decide)
theorem own_cC {c : Int32} (h0 : ¬ c < 0) (h1 : c < 127) (h : ((c.toUInt32 >>> ((5 : Int32) &&& 31).toUInt32).toInt32) = (0 : Int32)) : ctl c := by
  refine Or.inl fun q => ?_
  have u := own_us c
  rw [h] at u
  rw [Int32.lt_iff_toInt_lt] at h0 h1 q
  have e1 : (127 : Int32).toInt = 127 := rfl
  have e2 : (31 : Int32).toInt = 31 := rfl
  have e3 : (0 : Int32).toInt = 0 := rfl
  omega
theorem own_cD {c : Int32} (h0 : ¬ c < 0) (h1 : c < 127) (h : ¬ ((c.toUInt32 >>> ((5 : Int32) &&& 31).toUInt32).toInt32) = (0 : Int32)) : ¬ ctl c := by
  rintro (q | q)
  · apply h
    apply Int32.toInt_inj.mp
    rw [own_us c]
    rw [Int32.lt_iff_toInt_lt] at h0 h1 q
    have e1 : (127 : Int32).toInt = 127 := rfl
    have e2 : (31 : Int32).toInt = 31 := rfl
    have e3 : (0 : Int32).toInt = 0 := rfl
    omega
  · exact q.1 h1
theorem own_i2c (x : Int32) : ¬ x.toUInt32.toUInt16.toUInt32.toInt32 < 0 ∧ ¬ (65535 : Int32) < x.toUInt32.toUInt16.toUInt32.toInt32 := by
  have q := c_i2c x
  have e1 : (65535 : Int32).toInt = 65535 := rfl
  have e2 : (0 : Int32).toInt = 0 := rfl
  rw [Int32.lt_iff_toInt_lt, Int32.lt_iff_toInt_lt]
  omega
theorem own_and3 (k n : Int32) (e : (k &&& (3 : Int32)) = n) : n = 0 ∨ n = 1 ∨ n = 2 ∨ n = 3 := by
  subst e
  have q := c_mask k 3 2 (by decide) (by decide)
  have e0 : (0 : Int32).toInt = 0 := rfl
  have e1 : (1 : Int32).toInt = 1 := rfl
  have e2 : (2 : Int32).toInt = 2 := rfl
  have e3 : (3 : Int32).toInt = 3 := rfl
  simp only [← Int32.toInt_inj, e0, e1, e2, e3]
  omega

end Jvm.Pilot.@@N@@

namespace Jvm.Pilot.@@N@@
open Jvm Jvm.ClassFile Sem Op Lib Jvm.Free Jvm.Stand Jvm.LawKit Jvm.RoadKit Jvm.OwnKit Bundle Jvm.Pilot.@@N@@.Jvm.D
theorem dN4_0 : decode jdk_42_method_149_code 0 = .ok (.aload_n 0, 1) := by decide +kernel
theorem dN4_1 : decode jdk_42_method_149_code 1 = .ok (.invokespecial 1, 3) := by decide +kernel
theorem dN4_4 : decode jdk_42_method_149_code 4 = .ok (.iload_n 3, 1) := by decide +kernel
theorem dN4_5 : decode jdk_42_method_149_code 5 = .ok (.ifCond .ne 22, 3) := by decide +kernel
theorem dN4_8 : decode jdk_42_method_149_code 8 = .ok (.aload_n 0, 1) := by decide +kernel
theorem dN4_9 : decode jdk_42_method_149_code 9 = .ok (.ldc 7, 2) := by decide +kernel
theorem dN4_11 : decode jdk_42_method_149_code 11 = .ok (.getfield 9, 3) := by decide +kernel
theorem dN4_14 : decode jdk_42_method_149_code 14 = .ok (.putfield 9, 3) := by decide +kernel
theorem dN4_17 : decode jdk_42_method_149_code 17 = .ok (.aload_n 0, 1) := by decide +kernel
theorem dN4_18 : decode jdk_42_method_149_code 18 = .ok (.ldc 7, 2) := by decide +kernel
theorem dN4_20 : decode jdk_42_method_149_code 20 = .ok (.getfield 15, 3) := by decide +kernel
theorem dN4_23 : decode jdk_42_method_149_code 23 = .ok (.putfield 15, 3) := by decide +kernel
theorem dN4_26 : decode jdk_42_method_149_code 26 = .ok (.return_, 1) := by decide +kernel
set_option maxRecDepth 65536 in
set_option maxHeartbeats 40000000 in
theorem rmN4 {l : Launch} {Z : State} {a0 : Array Value} {n0 : Nat} (X : Ctx Z a0) {x b : Addr} {v0 c0 : Value} (na : n0 ≤ x) {h : Heap} (hO : Old Z n0 h) (E : Exa Z h x ST) (Fv : Fld Z h x ST "value" "[B" v0) (Fc : Fld Z h x ST "coder" "B" c0) :
    Ctr l Z EL1 n0 (⟨"java/lang/String", "<init>", "([CIILjava/lang/Void;)V"⟩ : MethodName) jdk_42_method_149_code 6 none ({ frames := 1, cells := 4, slots := 8, locals := 14 } : Room) #[(.ref x), (.ref b), (.int (0 : Int32)), (.int (0 : Int32)), .null] h [x] (fun v h' => v = none ∧ Keep h h' [x] ∧ StrF Z h' x []) := by
  have hw := X.hw
  obtain ⟨z1, hz1, hz2⟩ := X.2.2.1
  refine Ctr.intro (a0 := a0) (plainFor_of_name pn1) hO X.ew ?_
  intro p e s m below meth c T0 V0 S0 hby hml hret hnm hsf
  rw [ef7]
  refine s_aloadN S0 (hb hby dN4_0) rfl rfl (pc' := 1) rfl ?_
  refine g_initO S0 (w16 hw) (w17 hw) (w18 hw) (by rw [hml]; rfl) (hb hby dN4_1) (Nat.le_of_ble_eq_true rfl) (Nat.le_of_ble_eq_true rfl) ?_
  intro T294 ST294
  show Go p e below _ (T294.setTop (mkF m 4 #[.val (.ref x), .val (.ref b), .val (.int (0 : Int32)), .val (.int (0 : Int32)), .val .null, .unset] []))
  refine s_iloadN ST294 (hb hby dN4_4) rfl (pc' := 5) rfl ?_
  refine s_ifN ST294 (hb hby dN4_5) (by decide) (pc' := 8) rfl ?_
  refine s_aloadN ST294 (hb hby dN4_8) rfl rfl (pc' := 9) rfl ?_
  show Go p e below _ (T294.setTop (mkF m 9 #[.val (.ref x), .val (.ref b), .val (.int (0 : Int32)), .val (.int (0 : Int32)), .val .null, .unset] [(.ref x)]))
  refine g_ldcS ST294 (hw _ (List.mem_of_getElem? (i := 19) rfl)) (sAtoms hw) (by decide) (vs := []) (z := (0 : Int32)) ⟨by decide +kernel, by decide +kernel⟩ (by decide) rfl (hb hby dN4_9) (b := 0) (by decide +kernel) (by decide) (Nat.le_of_ble_eq_true rfl) (Nat.le_of_ble_eq_true rfl) ?_
  intro b295 T295 V295 h295 t295 kt295 S295 E295 C295 f295a f295b f295c f295d f295e
  have sf296 := C295.safe E.lt (hsf x List.mem_cons_self)
  have F295 : StrF Z h295 b295 [] := StrF.lit f295a f295b f295c f295d rfl rfl (by decide) (by decide)
  show Go p e below _ (T295.setTop (mkF m 11 #[.val (.ref x), .val (.ref b), .val (.int (0 : Int32)), .val (.int (0 : Int32)), .val .null, .unset] [(.ref b295), (.ref x)]))
  refine g_getF S295 (w25 hw) Via.refl f295c (hb hby dN4_11) ?_
  intro T91 S91
  show Go p e below _ (T91.setTop (mkF m 14 #[.val (.ref x), .val (.ref b), .val (.int (0 : Int32)), .val (.int (0 : Int32)), .val .null, .unset] [(.ref t295), (.ref x)]))
  have Ex1 := E.ext E295
  have Fv1 := Fv.ext E295
  have Fc1 := Fc.ext E295
  have ne1 := f295e x sf296
  refine g_putF S91 (w25 hw) Via.refl Fv1 Ex1 (Or.inr ⟨(w21 hw), rfl, hnm⟩) (w6 hw) (ty := .array .byte) (by decide) rfl rfl na sf296 (hb hby dN4_14) ?_
  intro T92 h92 S92 K92 W92 Ex2 Fv2 sf92
  have Fc2 := Fc1.other W92 (Or.inr (slot_ne (Or.inr (w22 hw)) (Or.inr (w21 hw)) (by decide) (t := .byte) (t' := .array .byte) (by decide) (by decide)))
  have At2 := f295d.keep K92 (ninS (Ne.symm ne1.2) nin0)
  show Go p e below _ (T92.setTop (mkF m 17 #[.val (.ref x), .val (.ref b), .val (.int (0 : Int32)), .val (.int (0 : Int32)), .val .null, .unset] []))
  refine s_aloadN S92 (hb hby dN4_17) rfl rfl (pc' := 18) rfl ?_
  show Go p e below _ (T92.setTop (mkF m 18 #[.val (.ref x), .val (.ref b), .val (.int (0 : Int32)), .val (.int (0 : Int32)), .val .null, .unset] [(.ref x)]))
  refine g_ldcS S92 (hw _ (List.mem_of_getElem? (i := 19) rfl)) (sAtoms hw) (by decide) (vs := []) (z := (0 : Int32)) ⟨by decide +kernel, by decide +kernel⟩ (by decide) rfl (hb hby dN4_18) (b := 0) (by decide +kernel) (by decide) (Nat.le_of_ble_eq_true rfl) (Nat.le_of_ble_eq_true rfl) ?_
  intro b297 T297 V297 h297 t297 kt297 S297 E297 C297 f297a f297b f297c f297d f297e
  have sf298 := C297.safe Ex2.lt sf92
  have F297 : StrF Z h297 b297 [] := StrF.lit f297a f297b f297c f297d rfl rfl (by decide) (by decide)
  show Go p e below _ (T297.setTop (mkF m 20 #[.val (.ref x), .val (.ref b), .val (.int (0 : Int32)), .val (.int (0 : Int32)), .val .null, .unset] [(.ref b297), (.ref x)]))
  refine g_getF S297 (w26 hw) Via.refl f297b (hb hby dN4_20) ?_
  intro T93 S93
  show Go p e below _ (T93.setTop (mkF m 23 #[.val (.ref x), .val (.ref b), .val (.int (0 : Int32)), .val (.int (0 : Int32)), .val .null, .unset] [(.int (0 : Int32)), (.ref x)]))
  refine g_putF S93 (w26 hw) Via.refl (Fc2.ext E297) (Ex2.ext E297) (Or.inr ⟨(w22 hw), rfl, hnm⟩) (w6 hw) (ty := .byte) (v' := .int 0) (by decide) rfl rfl na sf298 (hb hby dN4_23) ?_
  intro T94 h94 S94 K94 W94 Ex4 Fc4 sf94
  have Fv4 := (Fv2.ext E297).other W94 (Or.inr (slot_ne (Or.inr (w21 hw)) (Or.inr (w22 hw)) (by decide) (t := .array .byte) (t' := .byte) (by decide) (by decide)))
  have ne2 : t295 ≠ x := Ne.symm ne1.2
  have At4 := (At2.ext E297).keep K94 (ninS ne2 nin0)
  have KK : Keep h h94 [x] := ((((Keep.refl h [x]).ext E295).trans K92 (fun y hy => Or.inl hy)).ext E297).trans K94 (fun y hy => Or.inl hy)
  show Go p e below _ (T94.setTop (mkF m 26 #[.val (.ref x), .val (.ref b), .val (.int (0 : Int32)), .val (.int (0 : Int32)), .val .null, .unset] []))
  exact g_ret S94 (hb hby dN4_26) hret ⟨rfl, KK, t295, kt295, 0, _, _, Ex4, Fv4, Fc4, At4, StrChars.Road.codOf (cs := []) rfl fa0, fa0, by decide⟩
theorem dN1_0 : decode jdk_42_method_3_code 0 = .ok (.aload_n 0, 1) := by decide +kernel
theorem dN1_1 : decode jdk_42_method_3_code 1 = .ok (.aload_n 1, 1) := by decide +kernel
theorem dN1_2 : decode jdk_42_method_3_code 2 = .ok (.iconst 0, 1) := by decide +kernel
theorem dN1_3 : decode jdk_42_method_3_code 3 = .ok (.aload_n 1, 1) := by decide +kernel
theorem dN1_4 : decode jdk_42_method_3_code 4 = .ok (.arraylength, 1) := by decide +kernel
theorem dN1_5 : decode jdk_42_method_3_code 5 = .ok (.aconst_null, 1) := by decide +kernel
theorem dN1_6 : decode jdk_42_method_3_code 6 = .ok (.invokespecial 27, 3) := by decide +kernel
theorem dN1_9 : decode jdk_42_method_3_code 9 = .ok (.return_, 1) := by decide +kernel
set_option maxRecDepth 65536 in
set_option maxHeartbeats 40000000 in
theorem rmN1 {l : Launch} {Z : State} {a0 : Array Value} {n0 : Nat} (X : Ctx Z a0) {x b : Addr} {kb : ClassId} {v0 c0 dv : Value} {vs : List Value} (na : n0 ≤ x) {h : Heap} (hO : Old Z n0 h) (E : Exa Z h x ST) (Fv : Fld Z h x ST "value" "[B" v0) (Fc : Fld Z h x ST "coder" "B" c0) (Vb : Arv Z h b kb .char (0 : Int32) vs dv) :
    Ctr l Z EL1 n0 (⟨"java/lang/String", "<init>", "([C)V"⟩ : MethodName) jdk_42_method_3_code 2 none ({ frames := 2, cells := 4, slots := 8, locals := 33 } : Room) #[(.ref x), (.ref b)] h [x] (fun v h' => v = none ∧ Keep h h' [x] ∧ StrF Z h' x []) := by
  have hw := X.hw
  obtain ⟨z1, hz1, hz2⟩ := X.2.2.1
  refine Ctr.intro (a0 := a0) (plainFor_of_name pn1) hO X.ew ?_
  intro p e s m below meth c T0 V0 S0 hby hml hret hnm hsf
  rw [ef8]
  refine s_aloadN S0 (hb hby dN1_0) rfl rfl (pc' := 1) rfl ?_
  refine s_aloadN S0 (hb hby dN1_1) rfl rfl (pc' := 2) rfl ?_
  refine s_iconst S0 (hb hby dN1_2) (v := (0 : Int32)) rfl (pc' := 3) rfl ?_
  refine s_aloadN S0 (hb hby dN1_3) rfl rfl (pc' := 4) rfl ?_
  refine g_len S0 Vb (hb hby dN1_4) ?_
  show Go p e below _ (T0.setTop (mkF m 5 #[.val (.ref x), .val (.ref b)] [(.int (0 : Int32)), (.int (0 : Int32)), (.ref b), (.ref x)]))
  refine s_null S0 (hb hby dN1_5) (pc' := 6) rfl ?_
  show Go p e below _ (T0.setTop (mkF m 6 #[.val (.ref x), .val (.ref b)] [.null, (.int (0 : Int32)), (.int (0 : Int32)), (.ref b), (.ref x)]))
  refine g_special S0 (rmN4 X na S0.old E Fv Fc) (sf1 E.lt (hsf x List.mem_cons_self)) rfl (w12 hw) (w13 hw) (w7 hw) (w15 hw) (by decide) (hb hby dN1_6) (by rw [hml]; rfl) x [(.ref b), (.int (0 : Int32)), (.int (0 : Int32)), .null] (lenOf pd7 rfl) rfl rfl (Nat.le_of_ble_eq_true rfl) (Nat.le_of_ble_eq_true rfl) (Nat.le_of_ble_eq_true rfl) (Nat.le_of_ble_eq_true rfl) ?_
  intro v299 T299 V299 h299 S299 C299 q299
  obtain ⟨rfl, K61, F61⟩ := q299
  show Go p e below _ (T299.setTop (mkF m 9 #[.val (.ref x), .val (.ref b)] []))
  exact g_ret S299 (hb hby dN1_9) hret ⟨rfl, K61, F61⟩
theorem dUL1_0 : decode jdk_52_method_6_code 0 = .ok (.aload_n 0, 1) := by decide +kernel
theorem dUL1_1 : decode jdk_52_method_6_code 1 = .ok (.arraylength, 1) := by decide +kernel
theorem dUL1_2 : decode jdk_52_method_6_code 2 = .ok (.iconst 1, 1) := by decide +kernel
theorem dUL1_3 : decode jdk_52_method_6_code 3 = .ok (.ishr, 1) := by decide +kernel
theorem dUL1_4 : decode jdk_52_method_6_code 4 = .ok (.ireturn, 1) := by decide +kernel
set_option maxRecDepth 65536 in
set_option maxHeartbeats 40000000 in
theorem rmUL1 {l : Launch} {Z : State} {a0 : Array Value} {n0 : Nat} (X : Ctx Z a0) {u : Addr} {ku : ClassId} {vs : List Value} {dv : Value} {h : Heap} (hO : Old Z n0 h) (Vu : Arv Z h u ku .byte (2 : Int32) vs dv) :
    Ctr l Z EL1 n0 (⟨"java/lang/StringUTF16", "length", "([B)I"⟩ : MethodName) jdk_52_method_6_code 1 (some .int) ({ frames := 0, cells := 0, slots := 0, locals := 0 } : Room) #[(.ref u)] h [] (fun v h' => v = some (.int (1 : Int32)) ∧ h' = h) := by
  have hw := X.hw
  obtain ⟨z1, hz1, hz2⟩ := X.2.2.1
  refine Ctr.intro (a0 := a0) (plainFor_of_name pn0) hO X.ew ?_
  intro p e s m below meth c T0 V0 S0 hby hml hret hnm hsf
  rw [ef0]
  refine s_aloadN S0 (hb hby dUL1_0) rfl rfl (pc' := 1) rfl ?_
  refine g_len S0 Vu (hb hby dUL1_1) ?_
  show Go p e below _ (T0.setTop (mkF m 2 #[.val (.ref u)] [(.int (2 : Int32))]))
  refine s_iconst S0 (hb hby dUL1_2) (v := (1 : Int32)) rfl (pc' := 3) rfl ?_
  refine s_ishr S0 (hb hby dUL1_3) (z := (1 : Int32)) (by decide) (pc' := 4) rfl ?_
  exact g_iret S0 (hb hby dUL1_4) hret ⟨rfl, rfl⟩
theorem dUL2_0 : decode jdk_52_method_6_code 0 = .ok (.aload_n 0, 1) := by decide +kernel
theorem dUL2_1 : decode jdk_52_method_6_code 1 = .ok (.arraylength, 1) := by decide +kernel
theorem dUL2_2 : decode jdk_52_method_6_code 2 = .ok (.iconst 1, 1) := by decide +kernel
theorem dUL2_3 : decode jdk_52_method_6_code 3 = .ok (.ishr, 1) := by decide +kernel
theorem dUL2_4 : decode jdk_52_method_6_code 4 = .ok (.ireturn, 1) := by decide +kernel
set_option maxRecDepth 65536 in
set_option maxHeartbeats 40000000 in
theorem rmUL2 {l : Launch} {Z : State} {a0 : Array Value} {n0 : Nat} (X : Ctx Z a0) {u : Addr} {ku : ClassId} {vs : List Value} {dv : Value} {h : Heap} (hO : Old Z n0 h) (Vu : Arv Z h u ku .byte (4 : Int32) vs dv) :
    Ctr l Z EL1 n0 (⟨"java/lang/StringUTF16", "length", "([B)I"⟩ : MethodName) jdk_52_method_6_code 1 (some .int) ({ frames := 0, cells := 0, slots := 0, locals := 0 } : Room) #[(.ref u)] h [] (fun v h' => v = some (.int (2 : Int32)) ∧ h' = h) := by
  have hw := X.hw
  obtain ⟨z1, hz1, hz2⟩ := X.2.2.1
  refine Ctr.intro (a0 := a0) (plainFor_of_name pn0) hO X.ew ?_
  intro p e s m below meth c T0 V0 S0 hby hml hret hnm hsf
  rw [ef0]
  refine s_aloadN S0 (hb hby dUL2_0) rfl rfl (pc' := 1) rfl ?_
  refine g_len S0 Vu (hb hby dUL2_1) ?_
  show Go p e below _ (T0.setTop (mkF m 2 #[.val (.ref u)] [(.int (4 : Int32))]))
  refine s_iconst S0 (hb hby dUL2_2) (v := (1 : Int32)) rfl (pc' := 3) rfl ?_
  refine s_ishr S0 (hb hby dUL2_3) (z := (2 : Int32)) (by decide) (pc' := 4) rfl ?_
  exact g_iret S0 (hb hby dUL2_4) hret ⟨rfl, rfl⟩
theorem dUL3_0 : decode jdk_52_method_6_code 0 = .ok (.aload_n 0, 1) := by decide +kernel
theorem dUL3_1 : decode jdk_52_method_6_code 1 = .ok (.arraylength, 1) := by decide +kernel
theorem dUL3_2 : decode jdk_52_method_6_code 2 = .ok (.iconst 1, 1) := by decide +kernel
theorem dUL3_3 : decode jdk_52_method_6_code 3 = .ok (.ishr, 1) := by decide +kernel
theorem dUL3_4 : decode jdk_52_method_6_code 4 = .ok (.ireturn, 1) := by decide +kernel
set_option maxRecDepth 65536 in
set_option maxHeartbeats 40000000 in
theorem rmUL3 {l : Launch} {Z : State} {a0 : Array Value} {n0 : Nat} (X : Ctx Z a0) {u : Addr} {ku : ClassId} {vs : List Value} {dv : Value} {h : Heap} (hO : Old Z n0 h) (Vu : Arv Z h u ku .byte (6 : Int32) vs dv) :
    Ctr l Z EL1 n0 (⟨"java/lang/StringUTF16", "length", "([B)I"⟩ : MethodName) jdk_52_method_6_code 1 (some .int) ({ frames := 0, cells := 0, slots := 0, locals := 0 } : Room) #[(.ref u)] h [] (fun v h' => v = some (.int (3 : Int32)) ∧ h' = h) := by
  have hw := X.hw
  obtain ⟨z1, hz1, hz2⟩ := X.2.2.1
  refine Ctr.intro (a0 := a0) (plainFor_of_name pn0) hO X.ew ?_
  intro p e s m below meth c T0 V0 S0 hby hml hret hnm hsf
  rw [ef0]
  refine s_aloadN S0 (hb hby dUL3_0) rfl rfl (pc' := 1) rfl ?_
  refine g_len S0 Vu (hb hby dUL3_1) ?_
  show Go p e below _ (T0.setTop (mkF m 2 #[.val (.ref u)] [(.int (6 : Int32))]))
  refine s_iconst S0 (hb hby dUL3_2) (v := (1 : Int32)) rfl (pc' := 3) rfl ?_
  refine s_ishr S0 (hb hby dUL3_3) (z := (3 : Int32)) (by decide) (pc' := 4) rfl ?_
  exact g_iret S0 (hb hby dUL3_4) hret ⟨rfl, rfl⟩
theorem dGC10_0 : decode jdk_52_method_5_code 0 = .ok (.getstatic 44, 3) := by decide +kernel
theorem dGC10_3 : decode jdk_52_method_5_code 3 = .ok (.ifCond .ne 25, 3) := by decide +kernel
theorem dGC10_28 : decode jdk_52_method_5_code 28 = .ok (.iload_n 1, 1) := by decide +kernel
theorem dGC10_29 : decode jdk_52_method_5_code 29 = .ok (.iconst 1, 1) := by decide +kernel
theorem dGC10_30 : decode jdk_52_method_5_code 30 = .ok (.ishl, 1) := by decide +kernel
theorem dGC10_31 : decode jdk_52_method_5_code 31 = .ok (.istore_n 1, 1) := by decide +kernel
theorem dGC10_32 : decode jdk_52_method_5_code 32 = .ok (.aload_n 0, 1) := by decide +kernel
theorem dGC10_33 : decode jdk_52_method_5_code 33 = .ok (.iload_n 1, 1) := by decide +kernel
theorem dGC10_34 : decode jdk_52_method_5_code 34 = .ok (.iinc 1 1, 3) := by decide +kernel
theorem dGC10_37 : decode jdk_52_method_5_code 37 = .ok (.baload, 1) := by decide +kernel
theorem dGC10_38 : decode jdk_52_method_5_code 38 = .ok (.sipush 255, 3) := by decide +kernel
theorem dGC10_41 : decode jdk_52_method_5_code 41 = .ok (.iand, 1) := by decide +kernel
theorem dGC10_42 : decode jdk_52_method_5_code 42 = .ok (.getstatic 59, 3) := by decide +kernel
theorem dGC10_45 : decode jdk_52_method_5_code 45 = .ok (.ishl, 1) := by decide +kernel
theorem dGC10_46 : decode jdk_52_method_5_code 46 = .ok (.aload_n 0, 1) := by decide +kernel
theorem dGC10_47 : decode jdk_52_method_5_code 47 = .ok (.iload_n 1, 1) := by decide +kernel
theorem dGC10_48 : decode jdk_52_method_5_code 48 = .ok (.baload, 1) := by decide +kernel
theorem dGC10_49 : decode jdk_52_method_5_code 49 = .ok (.sipush 255, 3) := by decide +kernel
theorem dGC10_52 : decode jdk_52_method_5_code 52 = .ok (.iand, 1) := by decide +kernel
theorem dGC10_53 : decode jdk_52_method_5_code 53 = .ok (.getstatic 63, 3) := by decide +kernel
theorem dGC10_56 : decode jdk_52_method_5_code 56 = .ok (.ishl, 1) := by decide +kernel
theorem dGC10_57 : decode jdk_52_method_5_code 57 = .ok (.ior, 1) := by decide +kernel
theorem dGC10_58 : decode jdk_52_method_5_code 58 = .ok (.i2c, 1) := by decide +kernel
theorem dGC10_59 : decode jdk_52_method_5_code 59 = .ok (.ireturn, 1) := by decide +kernel
set_option maxRecDepth 65536 in
set_option maxHeartbeats 40000000 in
theorem rmGC10 {l : Launch} {Z : State} {a0 : Array Value} {n0 : Nat} (X : Ctx Z a0) {u : Addr} {ku : ClassId} {c0 : Int32} {h : Heap} (hO : Old Z n0 h) (Vu : Arv Z h u ku .byte (2 : Int32) [(.int (StrChars.lo8 c0)), (.int (StrChars.hi8 c0))] (.int (0 : Int32))) (r : ¬ c0 < 0 ∧ ¬ (65535 : Int32) < c0) :
    Ctr l Z EL1 n0 (⟨"java/lang/StringUTF16", "getChar", "([BI)C"⟩ : MethodName) jdk_52_method_5_code 2 (some .char) ({ frames := 0, cells := 0, slots := 0, locals := 0 } : Room) #[(.ref u), (.int (0 : Int32))] h [] (fun v h' => v = some (.int c0) ∧ h' = h) := by
  have hw := X.hw
  obtain ⟨z1, hz1, hz2⟩ := X.2.2.1
  refine Ctr.intro (a0 := a0) (plainFor_of_name pn0) hO X.ew ?_
  intro p e s m below meth c T0 V0 S0 hby hml hret hnm hsf
  rw [ef1]
  have hw16 := X.2.2.2.2
  show Go p e below _ (T0.setTop (mkF m 0 #[.val (.ref u), .val (.int (0 : Int32))] []))
  refine g_getS S0 (w97 hw) Via.refl (hw16.1.ext S0.old.2) (hb hby dGC10_0) ?_
  intro T1 ST1
  show Go p e below _ (T1.setTop (mkF m 3 #[.val (.ref u), .val (.int (0 : Int32))] [(.int (1 : Int32))]))
  refine s_ifY ST1 (hb hby dGC10_3) (by decide) (by decide) (pcT := 28) (by decide) ?_
  refine s_iloadN ST1 (hb hby dGC10_28) rfl (pc' := 29) rfl ?_
  refine s_iconst ST1 (hb hby dGC10_29) (v := (1 : Int32)) rfl (pc' := 30) rfl ?_
  refine s_ishl ST1 (hb hby dGC10_30) (z := (0 : Int32)) (by decide) (pc' := 31) rfl ?_
  refine s_istoreN ST1 (hb hby dGC10_31) (L' := #[.val (.ref u), .val (.int (0 : Int32))]) rfl (pc' := 32) rfl ?_
  refine s_aloadN ST1 (hb hby dGC10_32) rfl rfl (pc' := 33) rfl ?_
  refine s_iloadN ST1 (hb hby dGC10_33) rfl (pc' := 34) rfl ?_
  refine s_iinc ST1 (hb hby dGC10_34) rfl (z := (1 : Int32)) rfl (L' := #[.val (.ref u), .val (.int (1 : Int32))]) rfl (pc' := 37) rfl ?_
  refine g_baload ST1 Vu ⟨by decide, by decide⟩ (x := (StrChars.lo8 c0)) rfl (hb hby dGC10_37) ?_
  show Go p e below _ (T1.setTop (mkF m 38 #[.val (.ref u), .val (.int (1 : Int32))] [(.int (StrChars.lo8 c0))]))
  refine s_sipush ST1 (hb hby dGC10_38) (v := (255 : Int32)) rfl (pc' := 41) rfl ?_
  refine s_iand ST1 (hb hby dGC10_41) (z := ((StrChars.lo8 c0) &&& (255 : Int32))) rfl (pc' := 42) rfl ?_
  refine g_getS ST1 (w98 hw) Via.refl (hw16.2.1.ext ST1.old.2) (hb hby dGC10_42) ?_
  intro T2 ST2
  show Go p e below _ (T2.setTop (mkF m 45 #[.val (.ref u), .val (.int (1 : Int32))] [(.int (0 : Int32)), (.int ((StrChars.lo8 c0) &&& (255 : Int32)))]))
  refine s_ishl ST2 (hb hby dGC10_45) (z := (((StrChars.lo8 c0) &&& (255 : Int32)) <<< ((0 : Int32) &&& 31))) rfl (pc' := 46) rfl ?_
  refine s_aloadN ST2 (hb hby dGC10_46) rfl rfl (pc' := 47) rfl ?_
  refine s_iloadN ST2 (hb hby dGC10_47) rfl (pc' := 48) rfl ?_
  refine g_baload ST2 Vu ⟨by decide, by decide⟩ (x := (StrChars.hi8 c0)) rfl (hb hby dGC10_48) ?_
  show Go p e below _ (T2.setTop (mkF m 49 #[.val (.ref u), .val (.int (1 : Int32))] [(.int (StrChars.hi8 c0)), (.int (((StrChars.lo8 c0) &&& (255 : Int32)) <<< ((0 : Int32) &&& 31)))]))
  refine s_sipush ST2 (hb hby dGC10_49) (v := (255 : Int32)) rfl (pc' := 52) rfl ?_
  refine s_iand ST2 (hb hby dGC10_52) (z := ((StrChars.hi8 c0) &&& (255 : Int32))) rfl (pc' := 53) rfl ?_
  refine g_getS ST2 (w99 hw) Via.refl (hw16.2.2.ext ST2.old.2) (hb hby dGC10_53) ?_
  intro T3 ST3
  show Go p e below _ (T3.setTop (mkF m 56 #[.val (.ref u), .val (.int (1 : Int32))] [(.int (8 : Int32)), (.int ((StrChars.hi8 c0) &&& (255 : Int32))), (.int (((StrChars.lo8 c0) &&& (255 : Int32)) <<< ((0 : Int32) &&& 31)))]))
  refine s_ishl ST3 (hb hby dGC10_56) (z := (((StrChars.hi8 c0) &&& (255 : Int32)) <<< ((8 : Int32) &&& 31))) rfl (pc' := 57) rfl ?_
  refine s_ior ST3 (hb hby dGC10_57) (z := ((((StrChars.lo8 c0) &&& (255 : Int32)) <<< ((0 : Int32) &&& 31)) ||| (((StrChars.hi8 c0) &&& (255 : Int32)) <<< ((8 : Int32) &&& 31)))) rfl (pc' := 58) rfl ?_
  refine s_i2c ST3 (hb hby dGC10_58) (z := (((((StrChars.lo8 c0) &&& (255 : Int32)) <<< ((0 : Int32) &&& 31)) ||| (((StrChars.hi8 c0) &&& (255 : Int32)) <<< ((8 : Int32) &&& 31))).toUInt32.toUInt16.toUInt32.toInt32)) rfl (pc' := 59) rfl ?_
  show Go p e below _ (T3.setTop (mkF m 59 #[.val (.ref u), .val (.int (1 : Int32))] [(.int (((((StrChars.lo8 c0) &&& (255 : Int32)) <<< ((0 : Int32) &&& 31)) ||| (((StrChars.hi8 c0) &&& (255 : Int32)) <<< ((8 : Int32) &&& 31))).toUInt32.toUInt16.toUInt32.toInt32))]))
  rw [own_pair r]
  show Go p e below _ (T3.setTop (mkF m 59 #[.val (.ref u), .val (.int (1 : Int32))] [(.int c0)]))
  exact g_iretN ST3 (hb hby dGC10_59) hret (by simp) ⟨by rw [narC r], rfl⟩
theorem dGC20_0 : decode jdk_52_method_5_code 0 = .ok (.getstatic 44, 3) := by decide +kernel
theorem dGC20_3 : decode jdk_52_method_5_code 3 = .ok (.ifCond .ne 25, 3) := by decide +kernel
theorem dGC20_28 : decode jdk_52_method_5_code 28 = .ok (.iload_n 1, 1) := by decide +kernel
theorem dGC20_29 : decode jdk_52_method_5_code 29 = .ok (.iconst 1, 1) := by decide +kernel
theorem dGC20_30 : decode jdk_52_method_5_code 30 = .ok (.ishl, 1) := by decide +kernel
theorem dGC20_31 : decode jdk_52_method_5_code 31 = .ok (.istore_n 1, 1) := by decide +kernel
theorem dGC20_32 : decode jdk_52_method_5_code 32 = .ok (.aload_n 0, 1) := by decide +kernel
theorem dGC20_33 : decode jdk_52_method_5_code 33 = .ok (.iload_n 1, 1) := by decide +kernel
theorem dGC20_34 : decode jdk_52_method_5_code 34 = .ok (.iinc 1 1, 3) := by decide +kernel
theorem dGC20_37 : decode jdk_52_method_5_code 37 = .ok (.baload, 1) := by decide +kernel
theorem dGC20_38 : decode jdk_52_method_5_code 38 = .ok (.sipush 255, 3) := by decide +kernel
theorem dGC20_41 : decode jdk_52_method_5_code 41 = .ok (.iand, 1) := by decide +kernel
theorem dGC20_42 : decode jdk_52_method_5_code 42 = .ok (.getstatic 59, 3) := by decide +kernel
theorem dGC20_45 : decode jdk_52_method_5_code 45 = .ok (.ishl, 1) := by decide +kernel
theorem dGC20_46 : decode jdk_52_method_5_code 46 = .ok (.aload_n 0, 1) := by decide +kernel
theorem dGC20_47 : decode jdk_52_method_5_code 47 = .ok (.iload_n 1, 1) := by decide +kernel
theorem dGC20_48 : decode jdk_52_method_5_code 48 = .ok (.baload, 1) := by decide +kernel
theorem dGC20_49 : decode jdk_52_method_5_code 49 = .ok (.sipush 255, 3) := by decide +kernel
theorem dGC20_52 : decode jdk_52_method_5_code 52 = .ok (.iand, 1) := by decide +kernel
theorem dGC20_53 : decode jdk_52_method_5_code 53 = .ok (.getstatic 63, 3) := by decide +kernel
theorem dGC20_56 : decode jdk_52_method_5_code 56 = .ok (.ishl, 1) := by decide +kernel
theorem dGC20_57 : decode jdk_52_method_5_code 57 = .ok (.ior, 1) := by decide +kernel
theorem dGC20_58 : decode jdk_52_method_5_code 58 = .ok (.i2c, 1) := by decide +kernel
theorem dGC20_59 : decode jdk_52_method_5_code 59 = .ok (.ireturn, 1) := by decide +kernel
set_option maxRecDepth 65536 in
set_option maxHeartbeats 40000000 in
theorem rmGC20 {l : Launch} {Z : State} {a0 : Array Value} {n0 : Nat} (X : Ctx Z a0) {u : Addr} {ku : ClassId} {c0 c1 : Int32} {h : Heap} (hO : Old Z n0 h) (Vu : Arv Z h u ku .byte (4 : Int32) [(.int (StrChars.lo8 c0)), (.int (StrChars.hi8 c0)), (.int (StrChars.lo8 c1)), (.int (StrChars.hi8 c1))] (.int (0 : Int32))) (r : ¬ c0 < 0 ∧ ¬ (65535 : Int32) < c0) :
    Ctr l Z EL1 n0 (⟨"java/lang/StringUTF16", "getChar", "([BI)C"⟩ : MethodName) jdk_52_method_5_code 2 (some .char) ({ frames := 0, cells := 0, slots := 0, locals := 0 } : Room) #[(.ref u), (.int (0 : Int32))] h [] (fun v h' => v = some (.int c0) ∧ h' = h) := by
  have hw := X.hw
  obtain ⟨z1, hz1, hz2⟩ := X.2.2.1
  refine Ctr.intro (a0 := a0) (plainFor_of_name pn0) hO X.ew ?_
  intro p e s m below meth c T0 V0 S0 hby hml hret hnm hsf
  rw [ef1]
  have hw16 := X.2.2.2.2
  show Go p e below _ (T0.setTop (mkF m 0 #[.val (.ref u), .val (.int (0 : Int32))] []))
  refine g_getS S0 (w97 hw) Via.refl (hw16.1.ext S0.old.2) (hb hby dGC20_0) ?_
  intro T4 ST4
  show Go p e below _ (T4.setTop (mkF m 3 #[.val (.ref u), .val (.int (0 : Int32))] [(.int (1 : Int32))]))
  refine s_ifY ST4 (hb hby dGC20_3) (by decide) (by decide) (pcT := 28) (by decide) ?_
  refine s_iloadN ST4 (hb hby dGC20_28) rfl (pc' := 29) rfl ?_
  refine s_iconst ST4 (hb hby dGC20_29) (v := (1 : Int32)) rfl (pc' := 30) rfl ?_
  refine s_ishl ST4 (hb hby dGC20_30) (z := (0 : Int32)) (by decide) (pc' := 31) rfl ?_
  refine s_istoreN ST4 (hb hby dGC20_31) (L' := #[.val (.ref u), .val (.int (0 : Int32))]) rfl (pc' := 32) rfl ?_
  refine s_aloadN ST4 (hb hby dGC20_32) rfl rfl (pc' := 33) rfl ?_
  refine s_iloadN ST4 (hb hby dGC20_33) rfl (pc' := 34) rfl ?_
  refine s_iinc ST4 (hb hby dGC20_34) rfl (z := (1 : Int32)) rfl (L' := #[.val (.ref u), .val (.int (1 : Int32))]) rfl (pc' := 37) rfl ?_
  refine g_baload ST4 Vu ⟨by decide, by decide⟩ (x := (StrChars.lo8 c0)) rfl (hb hby dGC20_37) ?_
  show Go p e below _ (T4.setTop (mkF m 38 #[.val (.ref u), .val (.int (1 : Int32))] [(.int (StrChars.lo8 c0))]))
  refine s_sipush ST4 (hb hby dGC20_38) (v := (255 : Int32)) rfl (pc' := 41) rfl ?_
  refine s_iand ST4 (hb hby dGC20_41) (z := ((StrChars.lo8 c0) &&& (255 : Int32))) rfl (pc' := 42) rfl ?_
  refine g_getS ST4 (w98 hw) Via.refl (hw16.2.1.ext ST4.old.2) (hb hby dGC20_42) ?_
  intro T5 ST5
  show Go p e below _ (T5.setTop (mkF m 45 #[.val (.ref u), .val (.int (1 : Int32))] [(.int (0 : Int32)), (.int ((StrChars.lo8 c0) &&& (255 : Int32)))]))
  refine s_ishl ST5 (hb hby dGC20_45) (z := (((StrChars.lo8 c0) &&& (255 : Int32)) <<< ((0 : Int32) &&& 31))) rfl (pc' := 46) rfl ?_
  refine s_aloadN ST5 (hb hby dGC20_46) rfl rfl (pc' := 47) rfl ?_
  refine s_iloadN ST5 (hb hby dGC20_47) rfl (pc' := 48) rfl ?_
  refine g_baload ST5 Vu ⟨by decide, by decide⟩ (x := (StrChars.hi8 c0)) rfl (hb hby dGC20_48) ?_
  show Go p e below _ (T5.setTop (mkF m 49 #[.val (.ref u), .val (.int (1 : Int32))] [(.int (StrChars.hi8 c0)), (.int (((StrChars.lo8 c0) &&& (255 : Int32)) <<< ((0 : Int32) &&& 31)))]))
  refine s_sipush ST5 (hb hby dGC20_49) (v := (255 : Int32)) rfl (pc' := 52) rfl ?_
  refine s_iand ST5 (hb hby dGC20_52) (z := ((StrChars.hi8 c0) &&& (255 : Int32))) rfl (pc' := 53) rfl ?_
  refine g_getS ST5 (w99 hw) Via.refl (hw16.2.2.ext ST5.old.2) (hb hby dGC20_53) ?_
  intro T6 ST6
  show Go p e below _ (T6.setTop (mkF m 56 #[.val (.ref u), .val (.int (1 : Int32))] [(.int (8 : Int32)), (.int ((StrChars.hi8 c0) &&& (255 : Int32))), (.int (((StrChars.lo8 c0) &&& (255 : Int32)) <<< ((0 : Int32) &&& 31)))]))
  refine s_ishl ST6 (hb hby dGC20_56) (z := (((StrChars.hi8 c0) &&& (255 : Int32)) <<< ((8 : Int32) &&& 31))) rfl (pc' := 57) rfl ?_
  refine s_ior ST6 (hb hby dGC20_57) (z := ((((StrChars.lo8 c0) &&& (255 : Int32)) <<< ((0 : Int32) &&& 31)) ||| (((StrChars.hi8 c0) &&& (255 : Int32)) <<< ((8 : Int32) &&& 31)))) rfl (pc' := 58) rfl ?_
  refine s_i2c ST6 (hb hby dGC20_58) (z := (((((StrChars.lo8 c0) &&& (255 : Int32)) <<< ((0 : Int32) &&& 31)) ||| (((StrChars.hi8 c0) &&& (255 : Int32)) <<< ((8 : Int32) &&& 31))).toUInt32.toUInt16.toUInt32.toInt32)) rfl (pc' := 59) rfl ?_
  show Go p e below _ (T6.setTop (mkF m 59 #[.val (.ref u), .val (.int (1 : Int32))] [(.int (((((StrChars.lo8 c0) &&& (255 : Int32)) <<< ((0 : Int32) &&& 31)) ||| (((StrChars.hi8 c0) &&& (255 : Int32)) <<< ((8 : Int32) &&& 31))).toUInt32.toUInt16.toUInt32.toInt32))]))
  rw [own_pair r]
  show Go p e below _ (T6.setTop (mkF m 59 #[.val (.ref u), .val (.int (1 : Int32))] [(.int c0)]))
  exact g_iretN ST6 (hb hby dGC20_59) hret (by simp) ⟨by rw [narC r], rfl⟩
theorem dGC21_0 : decode jdk_52_method_5_code 0 = .ok (.getstatic 44, 3) := by decide +kernel
theorem dGC21_3 : decode jdk_52_method_5_code 3 = .ok (.ifCond .ne 25, 3) := by decide +kernel
theorem dGC21_28 : decode jdk_52_method_5_code 28 = .ok (.iload_n 1, 1) := by decide +kernel
theorem dGC21_29 : decode jdk_52_method_5_code 29 = .ok (.iconst 1, 1) := by decide +kernel
theorem dGC21_30 : decode jdk_52_method_5_code 30 = .ok (.ishl, 1) := by decide +kernel
theorem dGC21_31 : decode jdk_52_method_5_code 31 = .ok (.istore_n 1, 1) := by decide +kernel
theorem dGC21_32 : decode jdk_52_method_5_code 32 = .ok (.aload_n 0, 1) := by decide +kernel
theorem dGC21_33 : decode jdk_52_method_5_code 33 = .ok (.iload_n 1, 1) := by decide +kernel
theorem dGC21_34 : decode jdk_52_method_5_code 34 = .ok (.iinc 1 1, 3) := by decide +kernel
theorem dGC21_37 : decode jdk_52_method_5_code 37 = .ok (.baload, 1) := by decide +kernel
theorem dGC21_38 : decode jdk_52_method_5_code 38 = .ok (.sipush 255, 3) := by decide +kernel
theorem dGC21_41 : decode jdk_52_method_5_code 41 = .ok (.iand, 1) := by decide +kernel
theorem dGC21_42 : decode jdk_52_method_5_code 42 = .ok (.getstatic 59, 3) := by decide +kernel
theorem dGC21_45 : decode jdk_52_method_5_code 45 = .ok (.ishl, 1) := by decide +kernel
theorem dGC21_46 : decode jdk_52_method_5_code 46 = .ok (.aload_n 0, 1) := by decide +kernel
theorem dGC21_47 : decode jdk_52_method_5_code 47 = .ok (.iload_n 1, 1) := by decide +kernel
theorem dGC21_48 : decode jdk_52_method_5_code 48 = .ok (.baload, 1) := by decide +kernel
theorem dGC21_49 : decode jdk_52_method_5_code 49 = .ok (.sipush 255, 3) := by decide +kernel
theorem dGC21_52 : decode jdk_52_method_5_code 52 = .ok (.iand, 1) := by decide +kernel
theorem dGC21_53 : decode jdk_52_method_5_code 53 = .ok (.getstatic 63, 3) := by decide +kernel
theorem dGC21_56 : decode jdk_52_method_5_code 56 = .ok (.ishl, 1) := by decide +kernel
theorem dGC21_57 : decode jdk_52_method_5_code 57 = .ok (.ior, 1) := by decide +kernel
theorem dGC21_58 : decode jdk_52_method_5_code 58 = .ok (.i2c, 1) := by decide +kernel
theorem dGC21_59 : decode jdk_52_method_5_code 59 = .ok (.ireturn, 1) := by decide +kernel
set_option maxRecDepth 65536 in
set_option maxHeartbeats 40000000 in
theorem rmGC21 {l : Launch} {Z : State} {a0 : Array Value} {n0 : Nat} (X : Ctx Z a0) {u : Addr} {ku : ClassId} {c0 c1 : Int32} {h : Heap} (hO : Old Z n0 h) (Vu : Arv Z h u ku .byte (4 : Int32) [(.int (StrChars.lo8 c0)), (.int (StrChars.hi8 c0)), (.int (StrChars.lo8 c1)), (.int (StrChars.hi8 c1))] (.int (0 : Int32))) (r : ¬ c1 < 0 ∧ ¬ (65535 : Int32) < c1) :
    Ctr l Z EL1 n0 (⟨"java/lang/StringUTF16", "getChar", "([BI)C"⟩ : MethodName) jdk_52_method_5_code 2 (some .char) ({ frames := 0, cells := 0, slots := 0, locals := 0 } : Room) #[(.ref u), (.int (1 : Int32))] h [] (fun v h' => v = some (.int c1) ∧ h' = h) := by
  have hw := X.hw
  obtain ⟨z1, hz1, hz2⟩ := X.2.2.1
  refine Ctr.intro (a0 := a0) (plainFor_of_name pn0) hO X.ew ?_
  intro p e s m below meth c T0 V0 S0 hby hml hret hnm hsf
  rw [ef1]
  have hw16 := X.2.2.2.2
  show Go p e below _ (T0.setTop (mkF m 0 #[.val (.ref u), .val (.int (1 : Int32))] []))
  refine g_getS S0 (w97 hw) Via.refl (hw16.1.ext S0.old.2) (hb hby dGC21_0) ?_
  intro T7 ST7
  show Go p e below _ (T7.setTop (mkF m 3 #[.val (.ref u), .val (.int (1 : Int32))] [(.int (1 : Int32))]))
  refine s_ifY ST7 (hb hby dGC21_3) (by decide) (by decide) (pcT := 28) (by decide) ?_
  refine s_iloadN ST7 (hb hby dGC21_28) rfl (pc' := 29) rfl ?_
  refine s_iconst ST7 (hb hby dGC21_29) (v := (1 : Int32)) rfl (pc' := 30) rfl ?_
  refine s_ishl ST7 (hb hby dGC21_30) (z := (2 : Int32)) (by decide) (pc' := 31) rfl ?_
  refine s_istoreN ST7 (hb hby dGC21_31) (L' := #[.val (.ref u), .val (.int (2 : Int32))]) rfl (pc' := 32) rfl ?_
  refine s_aloadN ST7 (hb hby dGC21_32) rfl rfl (pc' := 33) rfl ?_
  refine s_iloadN ST7 (hb hby dGC21_33) rfl (pc' := 34) rfl ?_
  refine s_iinc ST7 (hb hby dGC21_34) rfl (z := (3 : Int32)) rfl (L' := #[.val (.ref u), .val (.int (3 : Int32))]) rfl (pc' := 37) rfl ?_
  refine g_baload ST7 Vu ⟨by decide, by decide⟩ (x := (StrChars.lo8 c1)) rfl (hb hby dGC21_37) ?_
  show Go p e below _ (T7.setTop (mkF m 38 #[.val (.ref u), .val (.int (3 : Int32))] [(.int (StrChars.lo8 c1))]))
  refine s_sipush ST7 (hb hby dGC21_38) (v := (255 : Int32)) rfl (pc' := 41) rfl ?_
  refine s_iand ST7 (hb hby dGC21_41) (z := ((StrChars.lo8 c1) &&& (255 : Int32))) rfl (pc' := 42) rfl ?_
  refine g_getS ST7 (w98 hw) Via.refl (hw16.2.1.ext ST7.old.2) (hb hby dGC21_42) ?_
  intro T8 ST8
  show Go p e below _ (T8.setTop (mkF m 45 #[.val (.ref u), .val (.int (3 : Int32))] [(.int (0 : Int32)), (.int ((StrChars.lo8 c1) &&& (255 : Int32)))]))
  refine s_ishl ST8 (hb hby dGC21_45) (z := (((StrChars.lo8 c1) &&& (255 : Int32)) <<< ((0 : Int32) &&& 31))) rfl (pc' := 46) rfl ?_
  refine s_aloadN ST8 (hb hby dGC21_46) rfl rfl (pc' := 47) rfl ?_
  refine s_iloadN ST8 (hb hby dGC21_47) rfl (pc' := 48) rfl ?_
  refine g_baload ST8 Vu ⟨by decide, by decide⟩ (x := (StrChars.hi8 c1)) rfl (hb hby dGC21_48) ?_
  show Go p e below _ (T8.setTop (mkF m 49 #[.val (.ref u), .val (.int (3 : Int32))] [(.int (StrChars.hi8 c1)), (.int (((StrChars.lo8 c1) &&& (255 : Int32)) <<< ((0 : Int32) &&& 31)))]))
  refine s_sipush ST8 (hb hby dGC21_49) (v := (255 : Int32)) rfl (pc' := 52) rfl ?_
  refine s_iand ST8 (hb hby dGC21_52) (z := ((StrChars.hi8 c1) &&& (255 : Int32))) rfl (pc' := 53) rfl ?_
  refine g_getS ST8 (w99 hw) Via.refl (hw16.2.2.ext ST8.old.2) (hb hby dGC21_53) ?_
  intro T9 ST9
  show Go p e below _ (T9.setTop (mkF m 56 #[.val (.ref u), .val (.int (3 : Int32))] [(.int (8 : Int32)), (.int ((StrChars.hi8 c1) &&& (255 : Int32))), (.int (((StrChars.lo8 c1) &&& (255 : Int32)) <<< ((0 : Int32) &&& 31)))]))
  refine s_ishl ST9 (hb hby dGC21_56) (z := (((StrChars.hi8 c1) &&& (255 : Int32)) <<< ((8 : Int32) &&& 31))) rfl (pc' := 57) rfl ?_
  refine s_ior ST9 (hb hby dGC21_57) (z := ((((StrChars.lo8 c1) &&& (255 : Int32)) <<< ((0 : Int32) &&& 31)) ||| (((StrChars.hi8 c1) &&& (255 : Int32)) <<< ((8 : Int32) &&& 31)))) rfl (pc' := 58) rfl ?_
  refine s_i2c ST9 (hb hby dGC21_58) (z := (((((StrChars.lo8 c1) &&& (255 : Int32)) <<< ((0 : Int32) &&& 31)) ||| (((StrChars.hi8 c1) &&& (255 : Int32)) <<< ((8 : Int32) &&& 31))).toUInt32.toUInt16.toUInt32.toInt32)) rfl (pc' := 59) rfl ?_
  show Go p e below _ (T9.setTop (mkF m 59 #[.val (.ref u), .val (.int (3 : Int32))] [(.int (((((StrChars.lo8 c1) &&& (255 : Int32)) <<< ((0 : Int32) &&& 31)) ||| (((StrChars.hi8 c1) &&& (255 : Int32)) <<< ((8 : Int32) &&& 31))).toUInt32.toUInt16.toUInt32.toInt32))]))
  rw [own_pair r]
  show Go p e below _ (T9.setTop (mkF m 59 #[.val (.ref u), .val (.int (3 : Int32))] [(.int c1)]))
  exact g_iretN ST9 (hb hby dGC21_59) hret (by simp) ⟨by rw [narC r], rfl⟩
theorem dGC30_0 : decode jdk_52_method_5_code 0 = .ok (.getstatic 44, 3) := by decide +kernel
theorem dGC30_3 : decode jdk_52_method_5_code 3 = .ok (.ifCond .ne 25, 3) := by decide +kernel
theorem dGC30_28 : decode jdk_52_method_5_code 28 = .ok (.iload_n 1, 1) := by decide +kernel
theorem dGC30_29 : decode jdk_52_method_5_code 29 = .ok (.iconst 1, 1) := by decide +kernel
theorem dGC30_30 : decode jdk_52_method_5_code 30 = .ok (.ishl, 1) := by decide +kernel
theorem dGC30_31 : decode jdk_52_method_5_code 31 = .ok (.istore_n 1, 1) := by decide +kernel
theorem dGC30_32 : decode jdk_52_method_5_code 32 = .ok (.aload_n 0, 1) := by decide +kernel
theorem dGC30_33 : decode jdk_52_method_5_code 33 = .ok (.iload_n 1, 1) := by decide +kernel
theorem dGC30_34 : decode jdk_52_method_5_code 34 = .ok (.iinc 1 1, 3) := by decide +kernel
theorem dGC30_37 : decode jdk_52_method_5_code 37 = .ok (.baload, 1) := by decide +kernel
theorem dGC30_38 : decode jdk_52_method_5_code 38 = .ok (.sipush 255, 3) := by decide +kernel
theorem dGC30_41 : decode jdk_52_method_5_code 41 = .ok (.iand, 1) := by decide +kernel
theorem dGC30_42 : decode jdk_52_method_5_code 42 = .ok (.getstatic 59, 3) := by decide +kernel
theorem dGC30_45 : decode jdk_52_method_5_code 45 = .ok (.ishl, 1) := by decide +kernel
theorem dGC30_46 : decode jdk_52_method_5_code 46 = .ok (.aload_n 0, 1) := by decide +kernel
theorem dGC30_47 : decode jdk_52_method_5_code 47 = .ok (.iload_n 1, 1) := by decide +kernel
theorem dGC30_48 : decode jdk_52_method_5_code 48 = .ok (.baload, 1) := by decide +kernel
theorem dGC30_49 : decode jdk_52_method_5_code 49 = .ok (.sipush 255, 3) := by decide +kernel
theorem dGC30_52 : decode jdk_52_method_5_code 52 = .ok (.iand, 1) := by decide +kernel
theorem dGC30_53 : decode jdk_52_method_5_code 53 = .ok (.getstatic 63, 3) := by decide +kernel
theorem dGC30_56 : decode jdk_52_method_5_code 56 = .ok (.ishl, 1) := by decide +kernel
theorem dGC30_57 : decode jdk_52_method_5_code 57 = .ok (.ior, 1) := by decide +kernel
theorem dGC30_58 : decode jdk_52_method_5_code 58 = .ok (.i2c, 1) := by decide +kernel
theorem dGC30_59 : decode jdk_52_method_5_code 59 = .ok (.ireturn, 1) := by decide +kernel
set_option maxRecDepth 65536 in
set_option maxHeartbeats 40000000 in
theorem rmGC30 {l : Launch} {Z : State} {a0 : Array Value} {n0 : Nat} (X : Ctx Z a0) {u : Addr} {ku : ClassId} {c0 c1 c2 : Int32} {h : Heap} (hO : Old Z n0 h) (Vu : Arv Z h u ku .byte (6 : Int32) [(.int (StrChars.lo8 c0)), (.int (StrChars.hi8 c0)), (.int (StrChars.lo8 c1)), (.int (StrChars.hi8 c1)), (.int (StrChars.lo8 c2)), (.int (StrChars.hi8 c2))] (.int (0 : Int32))) (r : ¬ c0 < 0 ∧ ¬ (65535 : Int32) < c0) :
    Ctr l Z EL1 n0 (⟨"java/lang/StringUTF16", "getChar", "([BI)C"⟩ : MethodName) jdk_52_method_5_code 2 (some .char) ({ frames := 0, cells := 0, slots := 0, locals := 0 } : Room) #[(.ref u), (.int (0 : Int32))] h [] (fun v h' => v = some (.int c0) ∧ h' = h) := by
  have hw := X.hw
  obtain ⟨z1, hz1, hz2⟩ := X.2.2.1
  refine Ctr.intro (a0 := a0) (plainFor_of_name pn0) hO X.ew ?_
  intro p e s m below meth c T0 V0 S0 hby hml hret hnm hsf
  rw [ef1]
  have hw16 := X.2.2.2.2
  show Go p e below _ (T0.setTop (mkF m 0 #[.val (.ref u), .val (.int (0 : Int32))] []))
  refine g_getS S0 (w97 hw) Via.refl (hw16.1.ext S0.old.2) (hb hby dGC30_0) ?_
  intro T10 ST10
  show Go p e below _ (T10.setTop (mkF m 3 #[.val (.ref u), .val (.int (0 : Int32))] [(.int (1 : Int32))]))
  refine s_ifY ST10 (hb hby dGC30_3) (by decide) (by decide) (pcT := 28) (by decide) ?_
  refine s_iloadN ST10 (hb hby dGC30_28) rfl (pc' := 29) rfl ?_
  refine s_iconst ST10 (hb hby dGC30_29) (v := (1 : Int32)) rfl (pc' := 30) rfl ?_
  refine s_ishl ST10 (hb hby dGC30_30) (z := (0 : Int32)) (by decide) (pc' := 31) rfl ?_
  refine s_istoreN ST10 (hb hby dGC30_31) (L' := #[.val (.ref u), .val (.int (0 : Int32))]) rfl (pc' := 32) rfl ?_
  refine s_aloadN ST10 (hb hby dGC30_32) rfl rfl (pc' := 33) rfl ?_
  refine s_iloadN ST10 (hb hby dGC30_33) rfl (pc' := 34) rfl ?_
  refine s_iinc ST10 (hb hby dGC30_34) rfl (z := (1 : Int32)) rfl (L' := #[.val (.ref u), .val (.int (1 : Int32))]) rfl (pc' := 37) rfl ?_
  refine g_baload ST10 Vu ⟨by decide, by decide⟩ (x := (StrChars.lo8 c0)) rfl (hb hby dGC30_37) ?_
  show Go p e below _ (T10.setTop (mkF m 38 #[.val (.ref u), .val (.int (1 : Int32))] [(.int (StrChars.lo8 c0))]))
  refine s_sipush ST10 (hb hby dGC30_38) (v := (255 : Int32)) rfl (pc' := 41) rfl ?_
  refine s_iand ST10 (hb hby dGC30_41) (z := ((StrChars.lo8 c0) &&& (255 : Int32))) rfl (pc' := 42) rfl ?_
  refine g_getS ST10 (w98 hw) Via.refl (hw16.2.1.ext ST10.old.2) (hb hby dGC30_42) ?_
  intro T11 ST11
  show Go p e below _ (T11.setTop (mkF m 45 #[.val (.ref u), .val (.int (1 : Int32))] [(.int (0 : Int32)), (.int ((StrChars.lo8 c0) &&& (255 : Int32)))]))
  refine s_ishl ST11 (hb hby dGC30_45) (z := (((StrChars.lo8 c0) &&& (255 : Int32)) <<< ((0 : Int32) &&& 31))) rfl (pc' := 46) rfl ?_
  refine s_aloadN ST11 (hb hby dGC30_46) rfl rfl (pc' := 47) rfl ?_
  refine s_iloadN ST11 (hb hby dGC30_47) rfl (pc' := 48) rfl ?_
  refine g_baload ST11 Vu ⟨by decide, by decide⟩ (x := (StrChars.hi8 c0)) rfl (hb hby dGC30_48) ?_
  show Go p e below _ (T11.setTop (mkF m 49 #[.val (.ref u), .val (.int (1 : Int32))] [(.int (StrChars.hi8 c0)), (.int (((StrChars.lo8 c0) &&& (255 : Int32)) <<< ((0 : Int32) &&& 31)))]))
  refine s_sipush ST11 (hb hby dGC30_49) (v := (255 : Int32)) rfl (pc' := 52) rfl ?_
  refine s_iand ST11 (hb hby dGC30_52) (z := ((StrChars.hi8 c0) &&& (255 : Int32))) rfl (pc' := 53) rfl ?_
  refine g_getS ST11 (w99 hw) Via.refl (hw16.2.2.ext ST11.old.2) (hb hby dGC30_53) ?_
  intro T12 ST12
  show Go p e below _ (T12.setTop (mkF m 56 #[.val (.ref u), .val (.int (1 : Int32))] [(.int (8 : Int32)), (.int ((StrChars.hi8 c0) &&& (255 : Int32))), (.int (((StrChars.lo8 c0) &&& (255 : Int32)) <<< ((0 : Int32) &&& 31)))]))
  refine s_ishl ST12 (hb hby dGC30_56) (z := (((StrChars.hi8 c0) &&& (255 : Int32)) <<< ((8 : Int32) &&& 31))) rfl (pc' := 57) rfl ?_
  refine s_ior ST12 (hb hby dGC30_57) (z := ((((StrChars.lo8 c0) &&& (255 : Int32)) <<< ((0 : Int32) &&& 31)) ||| (((StrChars.hi8 c0) &&& (255 : Int32)) <<< ((8 : Int32) &&& 31)))) rfl (pc' := 58) rfl ?_
  refine s_i2c ST12 (hb hby dGC30_58) (z := (((((StrChars.lo8 c0) &&& (255 : Int32)) <<< ((0 : Int32) &&& 31)) ||| (((StrChars.hi8 c0) &&& (255 : Int32)) <<< ((8 : Int32) &&& 31))).toUInt32.toUInt16.toUInt32.toInt32)) rfl (pc' := 59) rfl ?_
  show Go p e below _ (T12.setTop (mkF m 59 #[.val (.ref u), .val (.int (1 : Int32))] [(.int (((((StrChars.lo8 c0) &&& (255 : Int32)) <<< ((0 : Int32) &&& 31)) ||| (((StrChars.hi8 c0) &&& (255 : Int32)) <<< ((8 : Int32) &&& 31))).toUInt32.toUInt16.toUInt32.toInt32))]))
  rw [own_pair r]
  show Go p e below _ (T12.setTop (mkF m 59 #[.val (.ref u), .val (.int (1 : Int32))] [(.int c0)]))
  exact g_iretN ST12 (hb hby dGC30_59) hret (by simp) ⟨by rw [narC r], rfl⟩
theorem dGC31_0 : decode jdk_52_method_5_code 0 = .ok (.getstatic 44, 3) := by decide +kernel
theorem dGC31_3 : decode jdk_52_method_5_code 3 = .ok (.ifCond .ne 25, 3) := by decide +kernel
theorem dGC31_28 : decode jdk_52_method_5_code 28 = .ok (.iload_n 1, 1) := by decide +kernel
theorem dGC31_29 : decode jdk_52_method_5_code 29 = .ok (.iconst 1, 1) := by decide +kernel
theorem dGC31_30 : decode jdk_52_method_5_code 30 = .ok (.ishl, 1) := by decide +kernel
theorem dGC31_31 : decode jdk_52_method_5_code 31 = .ok (.istore_n 1, 1) := by decide +kernel
theorem dGC31_32 : decode jdk_52_method_5_code 32 = .ok (.aload_n 0, 1) := by decide +kernel
theorem dGC31_33 : decode jdk_52_method_5_code 33 = .ok (.iload_n 1, 1) := by decide +kernel
theorem dGC31_34 : decode jdk_52_method_5_code 34 = .ok (.iinc 1 1, 3) := by decide +kernel
theorem dGC31_37 : decode jdk_52_method_5_code 37 = .ok (.baload, 1) := by decide +kernel
theorem dGC31_38 : decode jdk_52_method_5_code 38 = .ok (.sipush 255, 3) := by decide +kernel
theorem dGC31_41 : decode jdk_52_method_5_code 41 = .ok (.iand, 1) := by decide +kernel
theorem dGC31_42 : decode jdk_52_method_5_code 42 = .ok (.getstatic 59, 3) := by decide +kernel
theorem dGC31_45 : decode jdk_52_method_5_code 45 = .ok (.ishl, 1) := by decide +kernel
theorem dGC31_46 : decode jdk_52_method_5_code 46 = .ok (.aload_n 0, 1) := by decide +kernel
theorem dGC31_47 : decode jdk_52_method_5_code 47 = .ok (.iload_n 1, 1) := by decide +kernel
theorem dGC31_48 : decode jdk_52_method_5_code 48 = .ok (.baload, 1) := by decide +kernel
theorem dGC31_49 : decode jdk_52_method_5_code 49 = .ok (.sipush 255, 3) := by decide +kernel
theorem dGC31_52 : decode jdk_52_method_5_code 52 = .ok (.iand, 1) := by decide +kernel
theorem dGC31_53 : decode jdk_52_method_5_code 53 = .ok (.getstatic 63, 3) := by decide +kernel
theorem dGC31_56 : decode jdk_52_method_5_code 56 = .ok (.ishl, 1) := by decide +kernel
theorem dGC31_57 : decode jdk_52_method_5_code 57 = .ok (.ior, 1) := by decide +kernel
theorem dGC31_58 : decode jdk_52_method_5_code 58 = .ok (.i2c, 1) := by decide +kernel
theorem dGC31_59 : decode jdk_52_method_5_code 59 = .ok (.ireturn, 1) := by decide +kernel
set_option maxRecDepth 65536 in
set_option maxHeartbeats 40000000 in
theorem rmGC31 {l : Launch} {Z : State} {a0 : Array Value} {n0 : Nat} (X : Ctx Z a0) {u : Addr} {ku : ClassId} {c0 c1 c2 : Int32} {h : Heap} (hO : Old Z n0 h) (Vu : Arv Z h u ku .byte (6 : Int32) [(.int (StrChars.lo8 c0)), (.int (StrChars.hi8 c0)), (.int (StrChars.lo8 c1)), (.int (StrChars.hi8 c1)), (.int (StrChars.lo8 c2)), (.int (StrChars.hi8 c2))] (.int (0 : Int32))) (r : ¬ c1 < 0 ∧ ¬ (65535 : Int32) < c1) :
    Ctr l Z EL1 n0 (⟨"java/lang/StringUTF16", "getChar", "([BI)C"⟩ : MethodName) jdk_52_method_5_code 2 (some .char) ({ frames := 0, cells := 0, slots := 0, locals := 0 } : Room) #[(.ref u), (.int (1 : Int32))] h [] (fun v h' => v = some (.int c1) ∧ h' = h) := by
  have hw := X.hw
  obtain ⟨z1, hz1, hz2⟩ := X.2.2.1
  refine Ctr.intro (a0 := a0) (plainFor_of_name pn0) hO X.ew ?_
  intro p e s m below meth c T0 V0 S0 hby hml hret hnm hsf
  rw [ef1]
  have hw16 := X.2.2.2.2
  show Go p e below _ (T0.setTop (mkF m 0 #[.val (.ref u), .val (.int (1 : Int32))] []))
  refine g_getS S0 (w97 hw) Via.refl (hw16.1.ext S0.old.2) (hb hby dGC31_0) ?_
  intro T13 ST13
  show Go p e below _ (T13.setTop (mkF m 3 #[.val (.ref u), .val (.int (1 : Int32))] [(.int (1 : Int32))]))
  refine s_ifY ST13 (hb hby dGC31_3) (by decide) (by decide) (pcT := 28) (by decide) ?_
  refine s_iloadN ST13 (hb hby dGC31_28) rfl (pc' := 29) rfl ?_
  refine s_iconst ST13 (hb hby dGC31_29) (v := (1 : Int32)) rfl (pc' := 30) rfl ?_
  refine s_ishl ST13 (hb hby dGC31_30) (z := (2 : Int32)) (by decide) (pc' := 31) rfl ?_
  refine s_istoreN ST13 (hb hby dGC31_31) (L' := #[.val (.ref u), .val (.int (2 : Int32))]) rfl (pc' := 32) rfl ?_
  refine s_aloadN ST13 (hb hby dGC31_32) rfl rfl (pc' := 33) rfl ?_
  refine s_iloadN ST13 (hb hby dGC31_33) rfl (pc' := 34) rfl ?_
  refine s_iinc ST13 (hb hby dGC31_34) rfl (z := (3 : Int32)) rfl (L' := #[.val (.ref u), .val (.int (3 : Int32))]) rfl (pc' := 37) rfl ?_
  refine g_baload ST13 Vu ⟨by decide, by decide⟩ (x := (StrChars.lo8 c1)) rfl (hb hby dGC31_37) ?_
  show Go p e below _ (T13.setTop (mkF m 38 #[.val (.ref u), .val (.int (3 : Int32))] [(.int (StrChars.lo8 c1))]))
  refine s_sipush ST13 (hb hby dGC31_38) (v := (255 : Int32)) rfl (pc' := 41) rfl ?_
  refine s_iand ST13 (hb hby dGC31_41) (z := ((StrChars.lo8 c1) &&& (255 : Int32))) rfl (pc' := 42) rfl ?_
  refine g_getS ST13 (w98 hw) Via.refl (hw16.2.1.ext ST13.old.2) (hb hby dGC31_42) ?_
  intro T14 ST14
  show Go p e below _ (T14.setTop (mkF m 45 #[.val (.ref u), .val (.int (3 : Int32))] [(.int (0 : Int32)), (.int ((StrChars.lo8 c1) &&& (255 : Int32)))]))
  refine s_ishl ST14 (hb hby dGC31_45) (z := (((StrChars.lo8 c1) &&& (255 : Int32)) <<< ((0 : Int32) &&& 31))) rfl (pc' := 46) rfl ?_
  refine s_aloadN ST14 (hb hby dGC31_46) rfl rfl (pc' := 47) rfl ?_
  refine s_iloadN ST14 (hb hby dGC31_47) rfl (pc' := 48) rfl ?_
  refine g_baload ST14 Vu ⟨by decide, by decide⟩ (x := (StrChars.hi8 c1)) rfl (hb hby dGC31_48) ?_
  show Go p e below _ (T14.setTop (mkF m 49 #[.val (.ref u), .val (.int (3 : Int32))] [(.int (StrChars.hi8 c1)), (.int (((StrChars.lo8 c1) &&& (255 : Int32)) <<< ((0 : Int32) &&& 31)))]))
  refine s_sipush ST14 (hb hby dGC31_49) (v := (255 : Int32)) rfl (pc' := 52) rfl ?_
  refine s_iand ST14 (hb hby dGC31_52) (z := ((StrChars.hi8 c1) &&& (255 : Int32))) rfl (pc' := 53) rfl ?_
  refine g_getS ST14 (w99 hw) Via.refl (hw16.2.2.ext ST14.old.2) (hb hby dGC31_53) ?_
  intro T15 ST15
  show Go p e below _ (T15.setTop (mkF m 56 #[.val (.ref u), .val (.int (3 : Int32))] [(.int (8 : Int32)), (.int ((StrChars.hi8 c1) &&& (255 : Int32))), (.int (((StrChars.lo8 c1) &&& (255 : Int32)) <<< ((0 : Int32) &&& 31)))]))
  refine s_ishl ST15 (hb hby dGC31_56) (z := (((StrChars.hi8 c1) &&& (255 : Int32)) <<< ((8 : Int32) &&& 31))) rfl (pc' := 57) rfl ?_
  refine s_ior ST15 (hb hby dGC31_57) (z := ((((StrChars.lo8 c1) &&& (255 : Int32)) <<< ((0 : Int32) &&& 31)) ||| (((StrChars.hi8 c1) &&& (255 : Int32)) <<< ((8 : Int32) &&& 31)))) rfl (pc' := 58) rfl ?_
  refine s_i2c ST15 (hb hby dGC31_58) (z := (((((StrChars.lo8 c1) &&& (255 : Int32)) <<< ((0 : Int32) &&& 31)) ||| (((StrChars.hi8 c1) &&& (255 : Int32)) <<< ((8 : Int32) &&& 31))).toUInt32.toUInt16.toUInt32.toInt32)) rfl (pc' := 59) rfl ?_
  show Go p e below _ (T15.setTop (mkF m 59 #[.val (.ref u), .val (.int (3 : Int32))] [(.int (((((StrChars.lo8 c1) &&& (255 : Int32)) <<< ((0 : Int32) &&& 31)) ||| (((StrChars.hi8 c1) &&& (255 : Int32)) <<< ((8 : Int32) &&& 31))).toUInt32.toUInt16.toUInt32.toInt32))]))
  rw [own_pair r]
  show Go p e below _ (T15.setTop (mkF m 59 #[.val (.ref u), .val (.int (3 : Int32))] [(.int c1)]))
  exact g_iretN ST15 (hb hby dGC31_59) hret (by simp) ⟨by rw [narC r], rfl⟩
theorem dGC32_0 : decode jdk_52_method_5_code 0 = .ok (.getstatic 44, 3) := by decide +kernel
theorem dGC32_3 : decode jdk_52_method_5_code 3 = .ok (.ifCond .ne 25, 3) := by decide +kernel
theorem dGC32_28 : decode jdk_52_method_5_code 28 = .ok (.iload_n 1, 1) := by decide +kernel
theorem dGC32_29 : decode jdk_52_method_5_code 29 = .ok (.iconst 1, 1) := by decide +kernel
theorem dGC32_30 : decode jdk_52_method_5_code 30 = .ok (.ishl, 1) := by decide +kernel
theorem dGC32_31 : decode jdk_52_method_5_code 31 = .ok (.istore_n 1, 1) := by decide +kernel
theorem dGC32_32 : decode jdk_52_method_5_code 32 = .ok (.aload_n 0, 1) := by decide +kernel
theorem dGC32_33 : decode jdk_52_method_5_code 33 = .ok (.iload_n 1, 1) := by decide +kernel
theorem dGC32_34 : decode jdk_52_method_5_code 34 = .ok (.iinc 1 1, 3) := by decide +kernel
theorem dGC32_37 : decode jdk_52_method_5_code 37 = .ok (.baload, 1) := by decide +kernel
theorem dGC32_38 : decode jdk_52_method_5_code 38 = .ok (.sipush 255, 3) := by decide +kernel
theorem dGC32_41 : decode jdk_52_method_5_code 41 = .ok (.iand, 1) := by decide +kernel
theorem dGC32_42 : decode jdk_52_method_5_code 42 = .ok (.getstatic 59, 3) := by decide +kernel
theorem dGC32_45 : decode jdk_52_method_5_code 45 = .ok (.ishl, 1) := by decide +kernel
theorem dGC32_46 : decode jdk_52_method_5_code 46 = .ok (.aload_n 0, 1) := by decide +kernel
theorem dGC32_47 : decode jdk_52_method_5_code 47 = .ok (.iload_n 1, 1) := by decide +kernel
theorem dGC32_48 : decode jdk_52_method_5_code 48 = .ok (.baload, 1) := by decide +kernel
theorem dGC32_49 : decode jdk_52_method_5_code 49 = .ok (.sipush 255, 3) := by decide +kernel
theorem dGC32_52 : decode jdk_52_method_5_code 52 = .ok (.iand, 1) := by decide +kernel
theorem dGC32_53 : decode jdk_52_method_5_code 53 = .ok (.getstatic 63, 3) := by decide +kernel
theorem dGC32_56 : decode jdk_52_method_5_code 56 = .ok (.ishl, 1) := by decide +kernel
theorem dGC32_57 : decode jdk_52_method_5_code 57 = .ok (.ior, 1) := by decide +kernel
theorem dGC32_58 : decode jdk_52_method_5_code 58 = .ok (.i2c, 1) := by decide +kernel
theorem dGC32_59 : decode jdk_52_method_5_code 59 = .ok (.ireturn, 1) := by decide +kernel
set_option maxRecDepth 65536 in
set_option maxHeartbeats 40000000 in
theorem rmGC32 {l : Launch} {Z : State} {a0 : Array Value} {n0 : Nat} (X : Ctx Z a0) {u : Addr} {ku : ClassId} {c0 c1 c2 : Int32} {h : Heap} (hO : Old Z n0 h) (Vu : Arv Z h u ku .byte (6 : Int32) [(.int (StrChars.lo8 c0)), (.int (StrChars.hi8 c0)), (.int (StrChars.lo8 c1)), (.int (StrChars.hi8 c1)), (.int (StrChars.lo8 c2)), (.int (StrChars.hi8 c2))] (.int (0 : Int32))) (r : ¬ c2 < 0 ∧ ¬ (65535 : Int32) < c2) :
    Ctr l Z EL1 n0 (⟨"java/lang/StringUTF16", "getChar", "([BI)C"⟩ : MethodName) jdk_52_method_5_code 2 (some .char) ({ frames := 0, cells := 0, slots := 0, locals := 0 } : Room) #[(.ref u), (.int (2 : Int32))] h [] (fun v h' => v = some (.int c2) ∧ h' = h) := by
  have hw := X.hw
  obtain ⟨z1, hz1, hz2⟩ := X.2.2.1
  refine Ctr.intro (a0 := a0) (plainFor_of_name pn0) hO X.ew ?_
  intro p e s m below meth c T0 V0 S0 hby hml hret hnm hsf
  rw [ef1]
  have hw16 := X.2.2.2.2
  show Go p e below _ (T0.setTop (mkF m 0 #[.val (.ref u), .val (.int (2 : Int32))] []))
  refine g_getS S0 (w97 hw) Via.refl (hw16.1.ext S0.old.2) (hb hby dGC32_0) ?_
  intro T16 ST16
  show Go p e below _ (T16.setTop (mkF m 3 #[.val (.ref u), .val (.int (2 : Int32))] [(.int (1 : Int32))]))
  refine s_ifY ST16 (hb hby dGC32_3) (by decide) (by decide) (pcT := 28) (by decide) ?_
  refine s_iloadN ST16 (hb hby dGC32_28) rfl (pc' := 29) rfl ?_
  refine s_iconst ST16 (hb hby dGC32_29) (v := (1 : Int32)) rfl (pc' := 30) rfl ?_
  refine s_ishl ST16 (hb hby dGC32_30) (z := (4 : Int32)) (by decide) (pc' := 31) rfl ?_
  refine s_istoreN ST16 (hb hby dGC32_31) (L' := #[.val (.ref u), .val (.int (4 : Int32))]) rfl (pc' := 32) rfl ?_
  refine s_aloadN ST16 (hb hby dGC32_32) rfl rfl (pc' := 33) rfl ?_
  refine s_iloadN ST16 (hb hby dGC32_33) rfl (pc' := 34) rfl ?_
  refine s_iinc ST16 (hb hby dGC32_34) rfl (z := (5 : Int32)) rfl (L' := #[.val (.ref u), .val (.int (5 : Int32))]) rfl (pc' := 37) rfl ?_
  refine g_baload ST16 Vu ⟨by decide, by decide⟩ (x := (StrChars.lo8 c2)) rfl (hb hby dGC32_37) ?_
  show Go p e below _ (T16.setTop (mkF m 38 #[.val (.ref u), .val (.int (5 : Int32))] [(.int (StrChars.lo8 c2))]))
  refine s_sipush ST16 (hb hby dGC32_38) (v := (255 : Int32)) rfl (pc' := 41) rfl ?_
  refine s_iand ST16 (hb hby dGC32_41) (z := ((StrChars.lo8 c2) &&& (255 : Int32))) rfl (pc' := 42) rfl ?_
  refine g_getS ST16 (w98 hw) Via.refl (hw16.2.1.ext ST16.old.2) (hb hby dGC32_42) ?_
  intro T17 ST17
  show Go p e below _ (T17.setTop (mkF m 45 #[.val (.ref u), .val (.int (5 : Int32))] [(.int (0 : Int32)), (.int ((StrChars.lo8 c2) &&& (255 : Int32)))]))
  refine s_ishl ST17 (hb hby dGC32_45) (z := (((StrChars.lo8 c2) &&& (255 : Int32)) <<< ((0 : Int32) &&& 31))) rfl (pc' := 46) rfl ?_
  refine s_aloadN ST17 (hb hby dGC32_46) rfl rfl (pc' := 47) rfl ?_
  refine s_iloadN ST17 (hb hby dGC32_47) rfl (pc' := 48) rfl ?_
  refine g_baload ST17 Vu ⟨by decide, by decide⟩ (x := (StrChars.hi8 c2)) rfl (hb hby dGC32_48) ?_
  show Go p e below _ (T17.setTop (mkF m 49 #[.val (.ref u), .val (.int (5 : Int32))] [(.int (StrChars.hi8 c2)), (.int (((StrChars.lo8 c2) &&& (255 : Int32)) <<< ((0 : Int32) &&& 31)))]))
  refine s_sipush ST17 (hb hby dGC32_49) (v := (255 : Int32)) rfl (pc' := 52) rfl ?_
  refine s_iand ST17 (hb hby dGC32_52) (z := ((StrChars.hi8 c2) &&& (255 : Int32))) rfl (pc' := 53) rfl ?_
  refine g_getS ST17 (w99 hw) Via.refl (hw16.2.2.ext ST17.old.2) (hb hby dGC32_53) ?_
  intro T18 ST18
  show Go p e below _ (T18.setTop (mkF m 56 #[.val (.ref u), .val (.int (5 : Int32))] [(.int (8 : Int32)), (.int ((StrChars.hi8 c2) &&& (255 : Int32))), (.int (((StrChars.lo8 c2) &&& (255 : Int32)) <<< ((0 : Int32) &&& 31)))]))
  refine s_ishl ST18 (hb hby dGC32_56) (z := (((StrChars.hi8 c2) &&& (255 : Int32)) <<< ((8 : Int32) &&& 31))) rfl (pc' := 57) rfl ?_
  refine s_ior ST18 (hb hby dGC32_57) (z := ((((StrChars.lo8 c2) &&& (255 : Int32)) <<< ((0 : Int32) &&& 31)) ||| (((StrChars.hi8 c2) &&& (255 : Int32)) <<< ((8 : Int32) &&& 31)))) rfl (pc' := 58) rfl ?_
  refine s_i2c ST18 (hb hby dGC32_58) (z := (((((StrChars.lo8 c2) &&& (255 : Int32)) <<< ((0 : Int32) &&& 31)) ||| (((StrChars.hi8 c2) &&& (255 : Int32)) <<< ((8 : Int32) &&& 31))).toUInt32.toUInt16.toUInt32.toInt32)) rfl (pc' := 59) rfl ?_
  show Go p e below _ (T18.setTop (mkF m 59 #[.val (.ref u), .val (.int (5 : Int32))] [(.int (((((StrChars.lo8 c2) &&& (255 : Int32)) <<< ((0 : Int32) &&& 31)) ||| (((StrChars.hi8 c2) &&& (255 : Int32)) <<< ((8 : Int32) &&& 31))).toUInt32.toUInt16.toUInt32.toInt32))]))
  rw [own_pair r]
  show Go p e below _ (T18.setTop (mkF m 59 #[.val (.ref u), .val (.int (5 : Int32))] [(.int c2)]))
  exact g_iretN ST18 (hb hby dGC32_59) hret (by simp) ⟨by rw [narC r], rfl⟩
theorem dPC10_0 : decode jdk_52_method_4_code 0 = .ok (.getstatic 44, 3) := by decide +kernel
theorem dPC10_3 : decode jdk_52_method_4_code 3 = .ok (.ifCond .ne 25, 3) := by decide +kernel
theorem dPC10_28 : decode jdk_52_method_4_code 28 = .ok (.iload_n 1, 1) := by decide +kernel
theorem dPC10_29 : decode jdk_52_method_4_code 29 = .ok (.iconst 1, 1) := by decide +kernel
theorem dPC10_30 : decode jdk_52_method_4_code 30 = .ok (.ishl, 1) := by decide +kernel
theorem dPC10_31 : decode jdk_52_method_4_code 31 = .ok (.istore_n 1, 1) := by decide +kernel
theorem dPC10_32 : decode jdk_52_method_4_code 32 = .ok (.aload_n 0, 1) := by decide +kernel
theorem dPC10_33 : decode jdk_52_method_4_code 33 = .ok (.iload_n 1, 1) := by decide +kernel
theorem dPC10_34 : decode jdk_52_method_4_code 34 = .ok (.iinc 1 1, 3) := by decide +kernel
theorem dPC10_37 : decode jdk_52_method_4_code 37 = .ok (.iload_n 2, 1) := by decide +kernel
theorem dPC10_38 : decode jdk_52_method_4_code 38 = .ok (.getstatic 59, 3) := by decide +kernel
theorem dPC10_41 : decode jdk_52_method_4_code 41 = .ok (.ishr, 1) := by decide +kernel
theorem dPC10_42 : decode jdk_52_method_4_code 42 = .ok (.i2b, 1) := by decide +kernel
theorem dPC10_43 : decode jdk_52_method_4_code 43 = .ok (.bastore, 1) := by decide +kernel
theorem dPC10_44 : decode jdk_52_method_4_code 44 = .ok (.aload_n 0, 1) := by decide +kernel
theorem dPC10_45 : decode jdk_52_method_4_code 45 = .ok (.iload_n 1, 1) := by decide +kernel
theorem dPC10_46 : decode jdk_52_method_4_code 46 = .ok (.iload_n 2, 1) := by decide +kernel
theorem dPC10_47 : decode jdk_52_method_4_code 47 = .ok (.getstatic 63, 3) := by decide +kernel
theorem dPC10_50 : decode jdk_52_method_4_code 50 = .ok (.ishr, 1) := by decide +kernel
theorem dPC10_51 : decode jdk_52_method_4_code 51 = .ok (.i2b, 1) := by decide +kernel
theorem dPC10_52 : decode jdk_52_method_4_code 52 = .ok (.bastore, 1) := by decide +kernel
theorem dPC10_53 : decode jdk_52_method_4_code 53 = .ok (.return_, 1) := by decide +kernel
set_option maxRecDepth 65536 in
set_option maxHeartbeats 40000000 in
theorem rmPC10 {l : Launch} {Z : State} {a0 : Array Value} {n0 : Nat} (X : Ctx Z a0) {u : Addr} {ku : ClassId} {v0 v1 : Value} (ch : Int32) (na : n0 ≤ u) {h : Heap} (hO : Old Z n0 h) (Vu : Arv Z h u ku .byte (2 : Int32) [v0, v1] (.int (0 : Int32))) :
    Ctr l Z EL1 n0 (⟨"java/lang/StringUTF16", "putChar", "([BII)V"⟩ : MethodName) jdk_52_method_4_code 3 none ({ frames := 0, cells := 0, slots := 0, locals := 0 } : Room) #[(.ref u), (.int (0 : Int32)), (.int ch)] h [u] (fun v h' => v = none ∧ Keep h h' [u] ∧ Arv Z h' u ku .byte (2 : Int32) [(.int (StrChars.lo8 ch)), (.int (StrChars.hi8 ch))] (.int (0 : Int32))) := by
  have hw := X.hw
  obtain ⟨z1, hz1, hz2⟩ := X.2.2.1
  refine Ctr.intro (a0 := a0) (plainFor_of_name pn0) hO X.ew ?_
  intro p e s m below meth c T0 V0 S0 hby hml hret hnm hsf
  rw [ef2]
  have hw16 := X.2.2.2.2
  show Go p e below _ (T0.setTop (mkF m 0 #[.val (.ref u), .val (.int (0 : Int32)), .val (.int ch)] []))
  refine g_getS S0 (w97 hw) Via.refl (hw16.1.ext S0.old.2) (hb hby dPC10_0) ?_
  intro T19 ST19
  show Go p e below _ (T19.setTop (mkF m 3 #[.val (.ref u), .val (.int (0 : Int32)), .val (.int ch)] [(.int (1 : Int32))]))
  refine s_ifY ST19 (hb hby dPC10_3) (by decide) (by decide) (pcT := 28) (by decide) ?_
  refine s_iloadN ST19 (hb hby dPC10_28) rfl (pc' := 29) rfl ?_
  refine s_iconst ST19 (hb hby dPC10_29) (v := (1 : Int32)) rfl (pc' := 30) rfl ?_
  refine s_ishl ST19 (hb hby dPC10_30) (z := (0 : Int32)) (by decide) (pc' := 31) rfl ?_
  refine s_istoreN ST19 (hb hby dPC10_31) (L' := #[.val (.ref u), .val (.int (0 : Int32)), .val (.int ch)]) rfl (pc' := 32) rfl ?_
  refine s_aloadN ST19 (hb hby dPC10_32) rfl rfl (pc' := 33) rfl ?_
  refine s_iloadN ST19 (hb hby dPC10_33) rfl (pc' := 34) rfl ?_
  refine s_iinc ST19 (hb hby dPC10_34) rfl (z := (1 : Int32)) rfl (L' := #[.val (.ref u), .val (.int (1 : Int32)), .val (.int ch)]) rfl (pc' := 37) rfl ?_
  refine s_iloadN ST19 (hb hby dPC10_37) rfl (pc' := 38) rfl ?_
  refine g_getS ST19 (w98 hw) Via.refl (hw16.2.1.ext ST19.old.2) (hb hby dPC10_38) ?_
  intro T20 ST20
  show Go p e below _ (T20.setTop (mkF m 41 #[.val (.ref u), .val (.int (1 : Int32)), .val (.int ch)] [(.int (0 : Int32)), (.int ch), (.int (0 : Int32)), (.ref u)]))
  refine s_ishr ST20 (hb hby dPC10_41) (z := (ch >>> ((0 : Int32) &&& 31))) rfl (pc' := 42) rfl ?_
  refine s_i2b ST20 (hb hby dPC10_42) (z := ((ch >>> ((0 : Int32) &&& 31)).toInt8.toInt32)) rfl (pc' := 43) rfl ?_
  show Go p e below _ (T20.setTop (mkF m 43 #[.val (.ref u), .val (.int (1 : Int32)), .val (.int ch)] [(.int ((ch >>> ((0 : Int32) &&& 31)).toInt8.toInt32)), (.int (0 : Int32)), (.ref u)]))
  refine g_bastore ST20 Vu ⟨by decide, by decide⟩ 0 rfl (Nat.le_of_ble_eq_true rfl) na (hsf u List.mem_cons_self) (hb hby dPC10_43) ?_
  intro T21 h21 S21 K21 V21 sg21
  have sf22 := Safe.keep K21 (sfS (hsf u List.mem_cons_self) sf0) ST20.chv (hsf u List.mem_cons_self)
  rw [own_pcLo ch] at V21
  have V21 : Arv Z h21 u ku .byte (2 : Int32) [(.int (StrChars.lo8 ch)), v1] (.int (0 : Int32)) := V21
  show Go p e below _ (T21.setTop (mkF m 44 #[.val (.ref u), .val (.int (1 : Int32)), .val (.int ch)] []))
  refine s_aloadN S21 (hb hby dPC10_44) rfl rfl (pc' := 45) rfl ?_
  refine s_iloadN S21 (hb hby dPC10_45) rfl (pc' := 46) rfl ?_
  refine s_iloadN S21 (hb hby dPC10_46) rfl (pc' := 47) rfl ?_
  refine g_getS S21 (w99 hw) Via.refl (hw16.2.2.ext S21.old.2) (hb hby dPC10_47) ?_
  intro T23 ST23
  show Go p e below _ (T23.setTop (mkF m 50 #[.val (.ref u), .val (.int (1 : Int32)), .val (.int ch)] [(.int (8 : Int32)), (.int ch), (.int (1 : Int32)), (.ref u)]))
  refine s_ishr ST23 (hb hby dPC10_50) (z := (ch >>> ((8 : Int32) &&& 31))) rfl (pc' := 51) rfl ?_
  refine s_i2b ST23 (hb hby dPC10_51) (z := ((ch >>> ((8 : Int32) &&& 31)).toInt8.toInt32)) rfl (pc' := 52) rfl ?_
  show Go p e below _ (T23.setTop (mkF m 52 #[.val (.ref u), .val (.int (1 : Int32)), .val (.int ch)] [(.int ((ch >>> ((8 : Int32) &&& 31)).toInt8.toInt32)), (.int (1 : Int32)), (.ref u)]))
  refine g_bastore ST23 V21 ⟨by decide, by decide⟩ 1 rfl (Nat.le_of_ble_eq_true rfl) na sg21 (hb hby dPC10_52) ?_
  intro T24 h24 S24 K24 V24 sg24
  have sf25 := Safe.keep K24 (sfS sg21 sf0) ST23.chv sg21
  rw [own_pcHi ch] at V24
  have V24 : Arv Z h24 u ku .byte (2 : Int32) [(.int (StrChars.lo8 ch)), (.int (StrChars.hi8 ch))] (.int (0 : Int32)) := V24
  show Go p e below _ (T24.setTop (mkF m 53 #[.val (.ref u), .val (.int (1 : Int32)), .val (.int ch)] []))
  show Go p e below _ (T24.setTop (mkF m 53 #[.val (.ref u), .val (.int (1 : Int32)), .val (.int ch)] []))
  have KA26 : Keep h h24 [u] := (((Keep.refl h [u]).trans K21 (fun y hy => Or.inl hy)).trans K24 (fun y hy => Or.inl hy))
  exact g_ret S24 (hb hby dPC10_53) hret ⟨rfl, KA26, V24⟩
theorem dPC20_0 : decode jdk_52_method_4_code 0 = .ok (.getstatic 44, 3) := by decide +kernel
theorem dPC20_3 : decode jdk_52_method_4_code 3 = .ok (.ifCond .ne 25, 3) := by decide +kernel
theorem dPC20_28 : decode jdk_52_method_4_code 28 = .ok (.iload_n 1, 1) := by decide +kernel
theorem dPC20_29 : decode jdk_52_method_4_code 29 = .ok (.iconst 1, 1) := by decide +kernel
theorem dPC20_30 : decode jdk_52_method_4_code 30 = .ok (.ishl, 1) := by decide +kernel
theorem dPC20_31 : decode jdk_52_method_4_code 31 = .ok (.istore_n 1, 1) := by decide +kernel
theorem dPC20_32 : decode jdk_52_method_4_code 32 = .ok (.aload_n 0, 1) := by decide +kernel
theorem dPC20_33 : decode jdk_52_method_4_code 33 = .ok (.iload_n 1, 1) := by decide +kernel
theorem dPC20_34 : decode jdk_52_method_4_code 34 = .ok (.iinc 1 1, 3) := by decide +kernel
theorem dPC20_37 : decode jdk_52_method_4_code 37 = .ok (.iload_n 2, 1) := by decide +kernel
theorem dPC20_38 : decode jdk_52_method_4_code 38 = .ok (.getstatic 59, 3) := by decide +kernel
theorem dPC20_41 : decode jdk_52_method_4_code 41 = .ok (.ishr, 1) := by decide +kernel
theorem dPC20_42 : decode jdk_52_method_4_code 42 = .ok (.i2b, 1) := by decide +kernel
theorem dPC20_43 : decode jdk_52_method_4_code 43 = .ok (.bastore, 1) := by decide +kernel
theorem dPC20_44 : decode jdk_52_method_4_code 44 = .ok (.aload_n 0, 1) := by decide +kernel
theorem dPC20_45 : decode jdk_52_method_4_code 45 = .ok (.iload_n 1, 1) := by decide +kernel
theorem dPC20_46 : decode jdk_52_method_4_code 46 = .ok (.iload_n 2, 1) := by decide +kernel
theorem dPC20_47 : decode jdk_52_method_4_code 47 = .ok (.getstatic 63, 3) := by decide +kernel
theorem dPC20_50 : decode jdk_52_method_4_code 50 = .ok (.ishr, 1) := by decide +kernel
theorem dPC20_51 : decode jdk_52_method_4_code 51 = .ok (.i2b, 1) := by decide +kernel
theorem dPC20_52 : decode jdk_52_method_4_code 52 = .ok (.bastore, 1) := by decide +kernel
theorem dPC20_53 : decode jdk_52_method_4_code 53 = .ok (.return_, 1) := by decide +kernel
set_option maxRecDepth 65536 in
set_option maxHeartbeats 40000000 in
theorem rmPC20 {l : Launch} {Z : State} {a0 : Array Value} {n0 : Nat} (X : Ctx Z a0) {u : Addr} {ku : ClassId} {v0 v1 v2 v3 : Value} (ch : Int32) (na : n0 ≤ u) {h : Heap} (hO : Old Z n0 h) (Vu : Arv Z h u ku .byte (4 : Int32) [v0, v1, v2, v3] (.int (0 : Int32))) :
    Ctr l Z EL1 n0 (⟨"java/lang/StringUTF16", "putChar", "([BII)V"⟩ : MethodName) jdk_52_method_4_code 3 none ({ frames := 0, cells := 0, slots := 0, locals := 0 } : Room) #[(.ref u), (.int (0 : Int32)), (.int ch)] h [u] (fun v h' => v = none ∧ Keep h h' [u] ∧ Arv Z h' u ku .byte (4 : Int32) [(.int (StrChars.lo8 ch)), (.int (StrChars.hi8 ch)), v2, v3] (.int (0 : Int32))) := by
  have hw := X.hw
  obtain ⟨z1, hz1, hz2⟩ := X.2.2.1
  refine Ctr.intro (a0 := a0) (plainFor_of_name pn0) hO X.ew ?_
  intro p e s m below meth c T0 V0 S0 hby hml hret hnm hsf
  rw [ef2]
  have hw16 := X.2.2.2.2
  show Go p e below _ (T0.setTop (mkF m 0 #[.val (.ref u), .val (.int (0 : Int32)), .val (.int ch)] []))
  refine g_getS S0 (w97 hw) Via.refl (hw16.1.ext S0.old.2) (hb hby dPC20_0) ?_
  intro T27 ST27
  show Go p e below _ (T27.setTop (mkF m 3 #[.val (.ref u), .val (.int (0 : Int32)), .val (.int ch)] [(.int (1 : Int32))]))
  refine s_ifY ST27 (hb hby dPC20_3) (by decide) (by decide) (pcT := 28) (by decide) ?_
  refine s_iloadN ST27 (hb hby dPC20_28) rfl (pc' := 29) rfl ?_
  refine s_iconst ST27 (hb hby dPC20_29) (v := (1 : Int32)) rfl (pc' := 30) rfl ?_
  refine s_ishl ST27 (hb hby dPC20_30) (z := (0 : Int32)) (by decide) (pc' := 31) rfl ?_
  refine s_istoreN ST27 (hb hby dPC20_31) (L' := #[.val (.ref u), .val (.int (0 : Int32)), .val (.int ch)]) rfl (pc' := 32) rfl ?_
  refine s_aloadN ST27 (hb hby dPC20_32) rfl rfl (pc' := 33) rfl ?_
  refine s_iloadN ST27 (hb hby dPC20_33) rfl (pc' := 34) rfl ?_
  refine s_iinc ST27 (hb hby dPC20_34) rfl (z := (1 : Int32)) rfl (L' := #[.val (.ref u), .val (.int (1 : Int32)), .val (.int ch)]) rfl (pc' := 37) rfl ?_
  refine s_iloadN ST27 (hb hby dPC20_37) rfl (pc' := 38) rfl ?_
  refine g_getS ST27 (w98 hw) Via.refl (hw16.2.1.ext ST27.old.2) (hb hby dPC20_38) ?_
  intro T28 ST28
  show Go p e below _ (T28.setTop (mkF m 41 #[.val (.ref u), .val (.int (1 : Int32)), .val (.int ch)] [(.int (0 : Int32)), (.int ch), (.int (0 : Int32)), (.ref u)]))
  refine s_ishr ST28 (hb hby dPC20_41) (z := (ch >>> ((0 : Int32) &&& 31))) rfl (pc' := 42) rfl ?_
  refine s_i2b ST28 (hb hby dPC20_42) (z := ((ch >>> ((0 : Int32) &&& 31)).toInt8.toInt32)) rfl (pc' := 43) rfl ?_
  show Go p e below _ (T28.setTop (mkF m 43 #[.val (.ref u), .val (.int (1 : Int32)), .val (.int ch)] [(.int ((ch >>> ((0 : Int32) &&& 31)).toInt8.toInt32)), (.int (0 : Int32)), (.ref u)]))
  refine g_bastore ST28 Vu ⟨by decide, by decide⟩ 0 rfl (Nat.le_of_ble_eq_true rfl) na (hsf u List.mem_cons_self) (hb hby dPC20_43) ?_
  intro T29 h29 S29 K29 V29 sg29
  have sf30 := Safe.keep K29 (sfS (hsf u List.mem_cons_self) sf0) ST28.chv (hsf u List.mem_cons_self)
  rw [own_pcLo ch] at V29
  have V29 : Arv Z h29 u ku .byte (4 : Int32) [(.int (StrChars.lo8 ch)), v1, v2, v3] (.int (0 : Int32)) := V29
  show Go p e below _ (T29.setTop (mkF m 44 #[.val (.ref u), .val (.int (1 : Int32)), .val (.int ch)] []))
  refine s_aloadN S29 (hb hby dPC20_44) rfl rfl (pc' := 45) rfl ?_
  refine s_iloadN S29 (hb hby dPC20_45) rfl (pc' := 46) rfl ?_
  refine s_iloadN S29 (hb hby dPC20_46) rfl (pc' := 47) rfl ?_
  refine g_getS S29 (w99 hw) Via.refl (hw16.2.2.ext S29.old.2) (hb hby dPC20_47) ?_
  intro T31 ST31
  show Go p e below _ (T31.setTop (mkF m 50 #[.val (.ref u), .val (.int (1 : Int32)), .val (.int ch)] [(.int (8 : Int32)), (.int ch), (.int (1 : Int32)), (.ref u)]))
  refine s_ishr ST31 (hb hby dPC20_50) (z := (ch >>> ((8 : Int32) &&& 31))) rfl (pc' := 51) rfl ?_
  refine s_i2b ST31 (hb hby dPC20_51) (z := ((ch >>> ((8 : Int32) &&& 31)).toInt8.toInt32)) rfl (pc' := 52) rfl ?_
  show Go p e below _ (T31.setTop (mkF m 52 #[.val (.ref u), .val (.int (1 : Int32)), .val (.int ch)] [(.int ((ch >>> ((8 : Int32) &&& 31)).toInt8.toInt32)), (.int (1 : Int32)), (.ref u)]))
  refine g_bastore ST31 V29 ⟨by decide, by decide⟩ 1 rfl (Nat.le_of_ble_eq_true rfl) na sg29 (hb hby dPC20_52) ?_
  intro T32 h32 S32 K32 V32 sg32
  have sf33 := Safe.keep K32 (sfS sg29 sf0) ST31.chv sg29
  rw [own_pcHi ch] at V32
  have V32 : Arv Z h32 u ku .byte (4 : Int32) [(.int (StrChars.lo8 ch)), (.int (StrChars.hi8 ch)), v2, v3] (.int (0 : Int32)) := V32
  show Go p e below _ (T32.setTop (mkF m 53 #[.val (.ref u), .val (.int (1 : Int32)), .val (.int ch)] []))
  show Go p e below _ (T32.setTop (mkF m 53 #[.val (.ref u), .val (.int (1 : Int32)), .val (.int ch)] []))
  have KA34 : Keep h h32 [u] := (((Keep.refl h [u]).trans K29 (fun y hy => Or.inl hy)).trans K32 (fun y hy => Or.inl hy))
  exact g_ret S32 (hb hby dPC20_53) hret ⟨rfl, KA34, V32⟩
theorem dPC21_0 : decode jdk_52_method_4_code 0 = .ok (.getstatic 44, 3) := by decide +kernel
theorem dPC21_3 : decode jdk_52_method_4_code 3 = .ok (.ifCond .ne 25, 3) := by decide +kernel
theorem dPC21_28 : decode jdk_52_method_4_code 28 = .ok (.iload_n 1, 1) := by decide +kernel
theorem dPC21_29 : decode jdk_52_method_4_code 29 = .ok (.iconst 1, 1) := by decide +kernel
theorem dPC21_30 : decode jdk_52_method_4_code 30 = .ok (.ishl, 1) := by decide +kernel
theorem dPC21_31 : decode jdk_52_method_4_code 31 = .ok (.istore_n 1, 1) := by decide +kernel
theorem dPC21_32 : decode jdk_52_method_4_code 32 = .ok (.aload_n 0, 1) := by decide +kernel
theorem dPC21_33 : decode jdk_52_method_4_code 33 = .ok (.iload_n 1, 1) := by decide +kernel
theorem dPC21_34 : decode jdk_52_method_4_code 34 = .ok (.iinc 1 1, 3) := by decide +kernel
theorem dPC21_37 : decode jdk_52_method_4_code 37 = .ok (.iload_n 2, 1) := by decide +kernel
theorem dPC21_38 : decode jdk_52_method_4_code 38 = .ok (.getstatic 59, 3) := by decide +kernel
theorem dPC21_41 : decode jdk_52_method_4_code 41 = .ok (.ishr, 1) := by decide +kernel
theorem dPC21_42 : decode jdk_52_method_4_code 42 = .ok (.i2b, 1) := by decide +kernel
theorem dPC21_43 : decode jdk_52_method_4_code 43 = .ok (.bastore, 1) := by decide +kernel
theorem dPC21_44 : decode jdk_52_method_4_code 44 = .ok (.aload_n 0, 1) := by decide +kernel
theorem dPC21_45 : decode jdk_52_method_4_code 45 = .ok (.iload_n 1, 1) := by decide +kernel
theorem dPC21_46 : decode jdk_52_method_4_code 46 = .ok (.iload_n 2, 1) := by decide +kernel
theorem dPC21_47 : decode jdk_52_method_4_code 47 = .ok (.getstatic 63, 3) := by decide +kernel
theorem dPC21_50 : decode jdk_52_method_4_code 50 = .ok (.ishr, 1) := by decide +kernel
theorem dPC21_51 : decode jdk_52_method_4_code 51 = .ok (.i2b, 1) := by decide +kernel
theorem dPC21_52 : decode jdk_52_method_4_code 52 = .ok (.bastore, 1) := by decide +kernel
theorem dPC21_53 : decode jdk_52_method_4_code 53 = .ok (.return_, 1) := by decide +kernel
set_option maxRecDepth 65536 in
set_option maxHeartbeats 40000000 in
theorem rmPC21 {l : Launch} {Z : State} {a0 : Array Value} {n0 : Nat} (X : Ctx Z a0) {u : Addr} {ku : ClassId} {v0 v1 v2 v3 : Value} (ch : Int32) (na : n0 ≤ u) {h : Heap} (hO : Old Z n0 h) (Vu : Arv Z h u ku .byte (4 : Int32) [v0, v1, v2, v3] (.int (0 : Int32))) :
    Ctr l Z EL1 n0 (⟨"java/lang/StringUTF16", "putChar", "([BII)V"⟩ : MethodName) jdk_52_method_4_code 3 none ({ frames := 0, cells := 0, slots := 0, locals := 0 } : Room) #[(.ref u), (.int (1 : Int32)), (.int ch)] h [u] (fun v h' => v = none ∧ Keep h h' [u] ∧ Arv Z h' u ku .byte (4 : Int32) [v0, v1, (.int (StrChars.lo8 ch)), (.int (StrChars.hi8 ch))] (.int (0 : Int32))) := by
  have hw := X.hw
  obtain ⟨z1, hz1, hz2⟩ := X.2.2.1
  refine Ctr.intro (a0 := a0) (plainFor_of_name pn0) hO X.ew ?_
  intro p e s m below meth c T0 V0 S0 hby hml hret hnm hsf
  rw [ef2]
  have hw16 := X.2.2.2.2
  show Go p e below _ (T0.setTop (mkF m 0 #[.val (.ref u), .val (.int (1 : Int32)), .val (.int ch)] []))
  refine g_getS S0 (w97 hw) Via.refl (hw16.1.ext S0.old.2) (hb hby dPC21_0) ?_
  intro T35 ST35
  show Go p e below _ (T35.setTop (mkF m 3 #[.val (.ref u), .val (.int (1 : Int32)), .val (.int ch)] [(.int (1 : Int32))]))
  refine s_ifY ST35 (hb hby dPC21_3) (by decide) (by decide) (pcT := 28) (by decide) ?_
  refine s_iloadN ST35 (hb hby dPC21_28) rfl (pc' := 29) rfl ?_
  refine s_iconst ST35 (hb hby dPC21_29) (v := (1 : Int32)) rfl (pc' := 30) rfl ?_
  refine s_ishl ST35 (hb hby dPC21_30) (z := (2 : Int32)) (by decide) (pc' := 31) rfl ?_
  refine s_istoreN ST35 (hb hby dPC21_31) (L' := #[.val (.ref u), .val (.int (2 : Int32)), .val (.int ch)]) rfl (pc' := 32) rfl ?_
  refine s_aloadN ST35 (hb hby dPC21_32) rfl rfl (pc' := 33) rfl ?_
  refine s_iloadN ST35 (hb hby dPC21_33) rfl (pc' := 34) rfl ?_
  refine s_iinc ST35 (hb hby dPC21_34) rfl (z := (3 : Int32)) rfl (L' := #[.val (.ref u), .val (.int (3 : Int32)), .val (.int ch)]) rfl (pc' := 37) rfl ?_
  refine s_iloadN ST35 (hb hby dPC21_37) rfl (pc' := 38) rfl ?_
  refine g_getS ST35 (w98 hw) Via.refl (hw16.2.1.ext ST35.old.2) (hb hby dPC21_38) ?_
  intro T36 ST36
  show Go p e below _ (T36.setTop (mkF m 41 #[.val (.ref u), .val (.int (3 : Int32)), .val (.int ch)] [(.int (0 : Int32)), (.int ch), (.int (2 : Int32)), (.ref u)]))
  refine s_ishr ST36 (hb hby dPC21_41) (z := (ch >>> ((0 : Int32) &&& 31))) rfl (pc' := 42) rfl ?_
  refine s_i2b ST36 (hb hby dPC21_42) (z := ((ch >>> ((0 : Int32) &&& 31)).toInt8.toInt32)) rfl (pc' := 43) rfl ?_
  show Go p e below _ (T36.setTop (mkF m 43 #[.val (.ref u), .val (.int (3 : Int32)), .val (.int ch)] [(.int ((ch >>> ((0 : Int32) &&& 31)).toInt8.toInt32)), (.int (2 : Int32)), (.ref u)]))
  refine g_bastore ST36 Vu ⟨by decide, by decide⟩ 2 rfl (Nat.le_of_ble_eq_true rfl) na (hsf u List.mem_cons_self) (hb hby dPC21_43) ?_
  intro T37 h37 S37 K37 V37 sg37
  have sf38 := Safe.keep K37 (sfS (hsf u List.mem_cons_self) sf0) ST36.chv (hsf u List.mem_cons_self)
  rw [own_pcLo ch] at V37
  have V37 : Arv Z h37 u ku .byte (4 : Int32) [v0, v1, (.int (StrChars.lo8 ch)), v3] (.int (0 : Int32)) := V37
  show Go p e below _ (T37.setTop (mkF m 44 #[.val (.ref u), .val (.int (3 : Int32)), .val (.int ch)] []))
  refine s_aloadN S37 (hb hby dPC21_44) rfl rfl (pc' := 45) rfl ?_
  refine s_iloadN S37 (hb hby dPC21_45) rfl (pc' := 46) rfl ?_
  refine s_iloadN S37 (hb hby dPC21_46) rfl (pc' := 47) rfl ?_
  refine g_getS S37 (w99 hw) Via.refl (hw16.2.2.ext S37.old.2) (hb hby dPC21_47) ?_
  intro T39 ST39
  show Go p e below _ (T39.setTop (mkF m 50 #[.val (.ref u), .val (.int (3 : Int32)), .val (.int ch)] [(.int (8 : Int32)), (.int ch), (.int (3 : Int32)), (.ref u)]))
  refine s_ishr ST39 (hb hby dPC21_50) (z := (ch >>> ((8 : Int32) &&& 31))) rfl (pc' := 51) rfl ?_
  refine s_i2b ST39 (hb hby dPC21_51) (z := ((ch >>> ((8 : Int32) &&& 31)).toInt8.toInt32)) rfl (pc' := 52) rfl ?_
  show Go p e below _ (T39.setTop (mkF m 52 #[.val (.ref u), .val (.int (3 : Int32)), .val (.int ch)] [(.int ((ch >>> ((8 : Int32) &&& 31)).toInt8.toInt32)), (.int (3 : Int32)), (.ref u)]))
  refine g_bastore ST39 V37 ⟨by decide, by decide⟩ 3 rfl (Nat.le_of_ble_eq_true rfl) na sg37 (hb hby dPC21_52) ?_
  intro T40 h40 S40 K40 V40 sg40
  have sf41 := Safe.keep K40 (sfS sg37 sf0) ST39.chv sg37
  rw [own_pcHi ch] at V40
  have V40 : Arv Z h40 u ku .byte (4 : Int32) [v0, v1, (.int (StrChars.lo8 ch)), (.int (StrChars.hi8 ch))] (.int (0 : Int32)) := V40
  show Go p e below _ (T40.setTop (mkF m 53 #[.val (.ref u), .val (.int (3 : Int32)), .val (.int ch)] []))
  show Go p e below _ (T40.setTop (mkF m 53 #[.val (.ref u), .val (.int (3 : Int32)), .val (.int ch)] []))
  have KA42 : Keep h h40 [u] := (((Keep.refl h [u]).trans K37 (fun y hy => Or.inl hy)).trans K40 (fun y hy => Or.inl hy))
  exact g_ret S40 (hb hby dPC21_53) hret ⟨rfl, KA42, V40⟩
theorem dPC30_0 : decode jdk_52_method_4_code 0 = .ok (.getstatic 44, 3) := by decide +kernel
theorem dPC30_3 : decode jdk_52_method_4_code 3 = .ok (.ifCond .ne 25, 3) := by decide +kernel
theorem dPC30_28 : decode jdk_52_method_4_code 28 = .ok (.iload_n 1, 1) := by decide +kernel
theorem dPC30_29 : decode jdk_52_method_4_code 29 = .ok (.iconst 1, 1) := by decide +kernel
theorem dPC30_30 : decode jdk_52_method_4_code 30 = .ok (.ishl, 1) := by decide +kernel
theorem dPC30_31 : decode jdk_52_method_4_code 31 = .ok (.istore_n 1, 1) := by decide +kernel
theorem dPC30_32 : decode jdk_52_method_4_code 32 = .ok (.aload_n 0, 1) := by decide +kernel
theorem dPC30_33 : decode jdk_52_method_4_code 33 = .ok (.iload_n 1, 1) := by decide +kernel
theorem dPC30_34 : decode jdk_52_method_4_code 34 = .ok (.iinc 1 1, 3) := by decide +kernel
theorem dPC30_37 : decode jdk_52_method_4_code 37 = .ok (.iload_n 2, 1) := by decide +kernel
theorem dPC30_38 : decode jdk_52_method_4_code 38 = .ok (.getstatic 59, 3) := by decide +kernel
theorem dPC30_41 : decode jdk_52_method_4_code 41 = .ok (.ishr, 1) := by decide +kernel
theorem dPC30_42 : decode jdk_52_method_4_code 42 = .ok (.i2b, 1) := by decide +kernel
theorem dPC30_43 : decode jdk_52_method_4_code 43 = .ok (.bastore, 1) := by decide +kernel
theorem dPC30_44 : decode jdk_52_method_4_code 44 = .ok (.aload_n 0, 1) := by decide +kernel
theorem dPC30_45 : decode jdk_52_method_4_code 45 = .ok (.iload_n 1, 1) := by decide +kernel
theorem dPC30_46 : decode jdk_52_method_4_code 46 = .ok (.iload_n 2, 1) := by decide +kernel
theorem dPC30_47 : decode jdk_52_method_4_code 47 = .ok (.getstatic 63, 3) := by decide +kernel
theorem dPC30_50 : decode jdk_52_method_4_code 50 = .ok (.ishr, 1) := by decide +kernel
theorem dPC30_51 : decode jdk_52_method_4_code 51 = .ok (.i2b, 1) := by decide +kernel
theorem dPC30_52 : decode jdk_52_method_4_code 52 = .ok (.bastore, 1) := by decide +kernel
theorem dPC30_53 : decode jdk_52_method_4_code 53 = .ok (.return_, 1) := by decide +kernel
set_option maxRecDepth 65536 in
set_option maxHeartbeats 40000000 in
theorem rmPC30 {l : Launch} {Z : State} {a0 : Array Value} {n0 : Nat} (X : Ctx Z a0) {u : Addr} {ku : ClassId} {v0 v1 v2 v3 v4 v5 : Value} (ch : Int32) (na : n0 ≤ u) {h : Heap} (hO : Old Z n0 h) (Vu : Arv Z h u ku .byte (6 : Int32) [v0, v1, v2, v3, v4, v5] (.int (0 : Int32))) :
    Ctr l Z EL1 n0 (⟨"java/lang/StringUTF16", "putChar", "([BII)V"⟩ : MethodName) jdk_52_method_4_code 3 none ({ frames := 0, cells := 0, slots := 0, locals := 0 } : Room) #[(.ref u), (.int (0 : Int32)), (.int ch)] h [u] (fun v h' => v = none ∧ Keep h h' [u] ∧ Arv Z h' u ku .byte (6 : Int32) [(.int (StrChars.lo8 ch)), (.int (StrChars.hi8 ch)), v2, v3, v4, v5] (.int (0 : Int32))) := by
  have hw := X.hw
  obtain ⟨z1, hz1, hz2⟩ := X.2.2.1
  refine Ctr.intro (a0 := a0) (plainFor_of_name pn0) hO X.ew ?_
  intro p e s m below meth c T0 V0 S0 hby hml hret hnm hsf
  rw [ef2]
  have hw16 := X.2.2.2.2
  show Go p e below _ (T0.setTop (mkF m 0 #[.val (.ref u), .val (.int (0 : Int32)), .val (.int ch)] []))
  refine g_getS S0 (w97 hw) Via.refl (hw16.1.ext S0.old.2) (hb hby dPC30_0) ?_
  intro T43 ST43
  show Go p e below _ (T43.setTop (mkF m 3 #[.val (.ref u), .val (.int (0 : Int32)), .val (.int ch)] [(.int (1 : Int32))]))
  refine s_ifY ST43 (hb hby dPC30_3) (by decide) (by decide) (pcT := 28) (by decide) ?_
  refine s_iloadN ST43 (hb hby dPC30_28) rfl (pc' := 29) rfl ?_
  refine s_iconst ST43 (hb hby dPC30_29) (v := (1 : Int32)) rfl (pc' := 30) rfl ?_
  refine s_ishl ST43 (hb hby dPC30_30) (z := (0 : Int32)) (by decide) (pc' := 31) rfl ?_
  refine s_istoreN ST43 (hb hby dPC30_31) (L' := #[.val (.ref u), .val (.int (0 : Int32)), .val (.int ch)]) rfl (pc' := 32) rfl ?_
  refine s_aloadN ST43 (hb hby dPC30_32) rfl rfl (pc' := 33) rfl ?_
  refine s_iloadN ST43 (hb hby dPC30_33) rfl (pc' := 34) rfl ?_
  refine s_iinc ST43 (hb hby dPC30_34) rfl (z := (1 : Int32)) rfl (L' := #[.val (.ref u), .val (.int (1 : Int32)), .val (.int ch)]) rfl (pc' := 37) rfl ?_
  refine s_iloadN ST43 (hb hby dPC30_37) rfl (pc' := 38) rfl ?_
  refine g_getS ST43 (w98 hw) Via.refl (hw16.2.1.ext ST43.old.2) (hb hby dPC30_38) ?_
  intro T44 ST44
  show Go p e below _ (T44.setTop (mkF m 41 #[.val (.ref u), .val (.int (1 : Int32)), .val (.int ch)] [(.int (0 : Int32)), (.int ch), (.int (0 : Int32)), (.ref u)]))
  refine s_ishr ST44 (hb hby dPC30_41) (z := (ch >>> ((0 : Int32) &&& 31))) rfl (pc' := 42) rfl ?_
  refine s_i2b ST44 (hb hby dPC30_42) (z := ((ch >>> ((0 : Int32) &&& 31)).toInt8.toInt32)) rfl (pc' := 43) rfl ?_
  show Go p e below _ (T44.setTop (mkF m 43 #[.val (.ref u), .val (.int (1 : Int32)), .val (.int ch)] [(.int ((ch >>> ((0 : Int32) &&& 31)).toInt8.toInt32)), (.int (0 : Int32)), (.ref u)]))
  refine g_bastore ST44 Vu ⟨by decide, by decide⟩ 0 rfl (Nat.le_of_ble_eq_true rfl) na (hsf u List.mem_cons_self) (hb hby dPC30_43) ?_
  intro T45 h45 S45 K45 V45 sg45
  have sf46 := Safe.keep K45 (sfS (hsf u List.mem_cons_self) sf0) ST44.chv (hsf u List.mem_cons_self)
  rw [own_pcLo ch] at V45
  have V45 : Arv Z h45 u ku .byte (6 : Int32) [(.int (StrChars.lo8 ch)), v1, v2, v3, v4, v5] (.int (0 : Int32)) := V45
  show Go p e below _ (T45.setTop (mkF m 44 #[.val (.ref u), .val (.int (1 : Int32)), .val (.int ch)] []))
  refine s_aloadN S45 (hb hby dPC30_44) rfl rfl (pc' := 45) rfl ?_
  refine s_iloadN S45 (hb hby dPC30_45) rfl (pc' := 46) rfl ?_
  refine s_iloadN S45 (hb hby dPC30_46) rfl (pc' := 47) rfl ?_
  refine g_getS S45 (w99 hw) Via.refl (hw16.2.2.ext S45.old.2) (hb hby dPC30_47) ?_
  intro T47 ST47
  show Go p e below _ (T47.setTop (mkF m 50 #[.val (.ref u), .val (.int (1 : Int32)), .val (.int ch)] [(.int (8 : Int32)), (.int ch), (.int (1 : Int32)), (.ref u)]))
  refine s_ishr ST47 (hb hby dPC30_50) (z := (ch >>> ((8 : Int32) &&& 31))) rfl (pc' := 51) rfl ?_
  refine s_i2b ST47 (hb hby dPC30_51) (z := ((ch >>> ((8 : Int32) &&& 31)).toInt8.toInt32)) rfl (pc' := 52) rfl ?_
  show Go p e below _ (T47.setTop (mkF m 52 #[.val (.ref u), .val (.int (1 : Int32)), .val (.int ch)] [(.int ((ch >>> ((8 : Int32) &&& 31)).toInt8.toInt32)), (.int (1 : Int32)), (.ref u)]))
  refine g_bastore ST47 V45 ⟨by decide, by decide⟩ 1 rfl (Nat.le_of_ble_eq_true rfl) na sg45 (hb hby dPC30_52) ?_
  intro T48 h48 S48 K48 V48 sg48
  have sf49 := Safe.keep K48 (sfS sg45 sf0) ST47.chv sg45
  rw [own_pcHi ch] at V48
  have V48 : Arv Z h48 u ku .byte (6 : Int32) [(.int (StrChars.lo8 ch)), (.int (StrChars.hi8 ch)), v2, v3, v4, v5] (.int (0 : Int32)) := V48
  show Go p e below _ (T48.setTop (mkF m 53 #[.val (.ref u), .val (.int (1 : Int32)), .val (.int ch)] []))
  show Go p e below _ (T48.setTop (mkF m 53 #[.val (.ref u), .val (.int (1 : Int32)), .val (.int ch)] []))
  have KA50 : Keep h h48 [u] := (((Keep.refl h [u]).trans K45 (fun y hy => Or.inl hy)).trans K48 (fun y hy => Or.inl hy))
  exact g_ret S48 (hb hby dPC30_53) hret ⟨rfl, KA50, V48⟩
theorem dPC31_0 : decode jdk_52_method_4_code 0 = .ok (.getstatic 44, 3) := by decide +kernel
theorem dPC31_3 : decode jdk_52_method_4_code 3 = .ok (.ifCond .ne 25, 3) := by decide +kernel
theorem dPC31_28 : decode jdk_52_method_4_code 28 = .ok (.iload_n 1, 1) := by decide +kernel
theorem dPC31_29 : decode jdk_52_method_4_code 29 = .ok (.iconst 1, 1) := by decide +kernel
theorem dPC31_30 : decode jdk_52_method_4_code 30 = .ok (.ishl, 1) := by decide +kernel
theorem dPC31_31 : decode jdk_52_method_4_code 31 = .ok (.istore_n 1, 1) := by decide +kernel
theorem dPC31_32 : decode jdk_52_method_4_code 32 = .ok (.aload_n 0, 1) := by decide +kernel
theorem dPC31_33 : decode jdk_52_method_4_code 33 = .ok (.iload_n 1, 1) := by decide +kernel
theorem dPC31_34 : decode jdk_52_method_4_code 34 = .ok (.iinc 1 1, 3) := by decide +kernel
theorem dPC31_37 : decode jdk_52_method_4_code 37 = .ok (.iload_n 2, 1) := by decide +kernel
theorem dPC31_38 : decode jdk_52_method_4_code 38 = .ok (.getstatic 59, 3) := by decide +kernel
theorem dPC31_41 : decode jdk_52_method_4_code 41 = .ok (.ishr, 1) := by decide +kernel
theorem dPC31_42 : decode jdk_52_method_4_code 42 = .ok (.i2b, 1) := by decide +kernel
theorem dPC31_43 : decode jdk_52_method_4_code 43 = .ok (.bastore, 1) := by decide +kernel
theorem dPC31_44 : decode jdk_52_method_4_code 44 = .ok (.aload_n 0, 1) := by decide +kernel
theorem dPC31_45 : decode jdk_52_method_4_code 45 = .ok (.iload_n 1, 1) := by decide +kernel
theorem dPC31_46 : decode jdk_52_method_4_code 46 = .ok (.iload_n 2, 1) := by decide +kernel
theorem dPC31_47 : decode jdk_52_method_4_code 47 = .ok (.getstatic 63, 3) := by decide +kernel
theorem dPC31_50 : decode jdk_52_method_4_code 50 = .ok (.ishr, 1) := by decide +kernel
theorem dPC31_51 : decode jdk_52_method_4_code 51 = .ok (.i2b, 1) := by decide +kernel
theorem dPC31_52 : decode jdk_52_method_4_code 52 = .ok (.bastore, 1) := by decide +kernel
theorem dPC31_53 : decode jdk_52_method_4_code 53 = .ok (.return_, 1) := by decide +kernel
set_option maxRecDepth 65536 in
set_option maxHeartbeats 40000000 in
theorem rmPC31 {l : Launch} {Z : State} {a0 : Array Value} {n0 : Nat} (X : Ctx Z a0) {u : Addr} {ku : ClassId} {v0 v1 v2 v3 v4 v5 : Value} (ch : Int32) (na : n0 ≤ u) {h : Heap} (hO : Old Z n0 h) (Vu : Arv Z h u ku .byte (6 : Int32) [v0, v1, v2, v3, v4, v5] (.int (0 : Int32))) :
    Ctr l Z EL1 n0 (⟨"java/lang/StringUTF16", "putChar", "([BII)V"⟩ : MethodName) jdk_52_method_4_code 3 none ({ frames := 0, cells := 0, slots := 0, locals := 0 } : Room) #[(.ref u), (.int (1 : Int32)), (.int ch)] h [u] (fun v h' => v = none ∧ Keep h h' [u] ∧ Arv Z h' u ku .byte (6 : Int32) [v0, v1, (.int (StrChars.lo8 ch)), (.int (StrChars.hi8 ch)), v4, v5] (.int (0 : Int32))) := by
  have hw := X.hw
  obtain ⟨z1, hz1, hz2⟩ := X.2.2.1
  refine Ctr.intro (a0 := a0) (plainFor_of_name pn0) hO X.ew ?_
  intro p e s m below meth c T0 V0 S0 hby hml hret hnm hsf
  rw [ef2]
  have hw16 := X.2.2.2.2
  show Go p e below _ (T0.setTop (mkF m 0 #[.val (.ref u), .val (.int (1 : Int32)), .val (.int ch)] []))
  refine g_getS S0 (w97 hw) Via.refl (hw16.1.ext S0.old.2) (hb hby dPC31_0) ?_
  intro T51 ST51
  show Go p e below _ (T51.setTop (mkF m 3 #[.val (.ref u), .val (.int (1 : Int32)), .val (.int ch)] [(.int (1 : Int32))]))
  refine s_ifY ST51 (hb hby dPC31_3) (by decide) (by decide) (pcT := 28) (by decide) ?_
  refine s_iloadN ST51 (hb hby dPC31_28) rfl (pc' := 29) rfl ?_
  refine s_iconst ST51 (hb hby dPC31_29) (v := (1 : Int32)) rfl (pc' := 30) rfl ?_
  refine s_ishl ST51 (hb hby dPC31_30) (z := (2 : Int32)) (by decide) (pc' := 31) rfl ?_
  refine s_istoreN ST51 (hb hby dPC31_31) (L' := #[.val (.ref u), .val (.int (2 : Int32)), .val (.int ch)]) rfl (pc' := 32) rfl ?_
  refine s_aloadN ST51 (hb hby dPC31_32) rfl rfl (pc' := 33) rfl ?_
  refine s_iloadN ST51 (hb hby dPC31_33) rfl (pc' := 34) rfl ?_
  refine s_iinc ST51 (hb hby dPC31_34) rfl (z := (3 : Int32)) rfl (L' := #[.val (.ref u), .val (.int (3 : Int32)), .val (.int ch)]) rfl (pc' := 37) rfl ?_
  refine s_iloadN ST51 (hb hby dPC31_37) rfl (pc' := 38) rfl ?_
  refine g_getS ST51 (w98 hw) Via.refl (hw16.2.1.ext ST51.old.2) (hb hby dPC31_38) ?_
  intro T52 ST52
  show Go p e below _ (T52.setTop (mkF m 41 #[.val (.ref u), .val (.int (3 : Int32)), .val (.int ch)] [(.int (0 : Int32)), (.int ch), (.int (2 : Int32)), (.ref u)]))
  refine s_ishr ST52 (hb hby dPC31_41) (z := (ch >>> ((0 : Int32) &&& 31))) rfl (pc' := 42) rfl ?_
  refine s_i2b ST52 (hb hby dPC31_42) (z := ((ch >>> ((0 : Int32) &&& 31)).toInt8.toInt32)) rfl (pc' := 43) rfl ?_
  show Go p e below _ (T52.setTop (mkF m 43 #[.val (.ref u), .val (.int (3 : Int32)), .val (.int ch)] [(.int ((ch >>> ((0 : Int32) &&& 31)).toInt8.toInt32)), (.int (2 : Int32)), (.ref u)]))
  refine g_bastore ST52 Vu ⟨by decide, by decide⟩ 2 rfl (Nat.le_of_ble_eq_true rfl) na (hsf u List.mem_cons_self) (hb hby dPC31_43) ?_
  intro T53 h53 S53 K53 V53 sg53
  have sf54 := Safe.keep K53 (sfS (hsf u List.mem_cons_self) sf0) ST52.chv (hsf u List.mem_cons_self)
  rw [own_pcLo ch] at V53
  have V53 : Arv Z h53 u ku .byte (6 : Int32) [v0, v1, (.int (StrChars.lo8 ch)), v3, v4, v5] (.int (0 : Int32)) := V53
  show Go p e below _ (T53.setTop (mkF m 44 #[.val (.ref u), .val (.int (3 : Int32)), .val (.int ch)] []))
  refine s_aloadN S53 (hb hby dPC31_44) rfl rfl (pc' := 45) rfl ?_
  refine s_iloadN S53 (hb hby dPC31_45) rfl (pc' := 46) rfl ?_
  refine s_iloadN S53 (hb hby dPC31_46) rfl (pc' := 47) rfl ?_
  refine g_getS S53 (w99 hw) Via.refl (hw16.2.2.ext S53.old.2) (hb hby dPC31_47) ?_
  intro T55 ST55
  show Go p e below _ (T55.setTop (mkF m 50 #[.val (.ref u), .val (.int (3 : Int32)), .val (.int ch)] [(.int (8 : Int32)), (.int ch), (.int (3 : Int32)), (.ref u)]))
  refine s_ishr ST55 (hb hby dPC31_50) (z := (ch >>> ((8 : Int32) &&& 31))) rfl (pc' := 51) rfl ?_
  refine s_i2b ST55 (hb hby dPC31_51) (z := ((ch >>> ((8 : Int32) &&& 31)).toInt8.toInt32)) rfl (pc' := 52) rfl ?_
  show Go p e below _ (T55.setTop (mkF m 52 #[.val (.ref u), .val (.int (3 : Int32)), .val (.int ch)] [(.int ((ch >>> ((8 : Int32) &&& 31)).toInt8.toInt32)), (.int (3 : Int32)), (.ref u)]))
  refine g_bastore ST55 V53 ⟨by decide, by decide⟩ 3 rfl (Nat.le_of_ble_eq_true rfl) na sg53 (hb hby dPC31_52) ?_
  intro T56 h56 S56 K56 V56 sg56
  have sf57 := Safe.keep K56 (sfS sg53 sf0) ST55.chv sg53
  rw [own_pcHi ch] at V56
  have V56 : Arv Z h56 u ku .byte (6 : Int32) [v0, v1, (.int (StrChars.lo8 ch)), (.int (StrChars.hi8 ch)), v4, v5] (.int (0 : Int32)) := V56
  show Go p e below _ (T56.setTop (mkF m 53 #[.val (.ref u), .val (.int (3 : Int32)), .val (.int ch)] []))
  show Go p e below _ (T56.setTop (mkF m 53 #[.val (.ref u), .val (.int (3 : Int32)), .val (.int ch)] []))
  have KA58 : Keep h h56 [u] := (((Keep.refl h [u]).trans K53 (fun y hy => Or.inl hy)).trans K56 (fun y hy => Or.inl hy))
  exact g_ret S56 (hb hby dPC31_53) hret ⟨rfl, KA58, V56⟩
theorem dPC32_0 : decode jdk_52_method_4_code 0 = .ok (.getstatic 44, 3) := by decide +kernel
theorem dPC32_3 : decode jdk_52_method_4_code 3 = .ok (.ifCond .ne 25, 3) := by decide +kernel
theorem dPC32_28 : decode jdk_52_method_4_code 28 = .ok (.iload_n 1, 1) := by decide +kernel
theorem dPC32_29 : decode jdk_52_method_4_code 29 = .ok (.iconst 1, 1) := by decide +kernel
theorem dPC32_30 : decode jdk_52_method_4_code 30 = .ok (.ishl, 1) := by decide +kernel
theorem dPC32_31 : decode jdk_52_method_4_code 31 = .ok (.istore_n 1, 1) := by decide +kernel
theorem dPC32_32 : decode jdk_52_method_4_code 32 = .ok (.aload_n 0, 1) := by decide +kernel
theorem dPC32_33 : decode jdk_52_method_4_code 33 = .ok (.iload_n 1, 1) := by decide +kernel
theorem dPC32_34 : decode jdk_52_method_4_code 34 = .ok (.iinc 1 1, 3) := by decide +kernel
theorem dPC32_37 : decode jdk_52_method_4_code 37 = .ok (.iload_n 2, 1) := by decide +kernel
theorem dPC32_38 : decode jdk_52_method_4_code 38 = .ok (.getstatic 59, 3) := by decide +kernel
theorem dPC32_41 : decode jdk_52_method_4_code 41 = .ok (.ishr, 1) := by decide +kernel
theorem dPC32_42 : decode jdk_52_method_4_code 42 = .ok (.i2b, 1) := by decide +kernel
theorem dPC32_43 : decode jdk_52_method_4_code 43 = .ok (.bastore, 1) := by decide +kernel
theorem dPC32_44 : decode jdk_52_method_4_code 44 = .ok (.aload_n 0, 1) := by decide +kernel
theorem dPC32_45 : decode jdk_52_method_4_code 45 = .ok (.iload_n 1, 1) := by decide +kernel
theorem dPC32_46 : decode jdk_52_method_4_code 46 = .ok (.iload_n 2, 1) := by decide +kernel
theorem dPC32_47 : decode jdk_52_method_4_code 47 = .ok (.getstatic 63, 3) := by decide +kernel
theorem dPC32_50 : decode jdk_52_method_4_code 50 = .ok (.ishr, 1) := by decide +kernel
theorem dPC32_51 : decode jdk_52_method_4_code 51 = .ok (.i2b, 1) := by decide +kernel
theorem dPC32_52 : decode jdk_52_method_4_code 52 = .ok (.bastore, 1) := by decide +kernel
theorem dPC32_53 : decode jdk_52_method_4_code 53 = .ok (.return_, 1) := by decide +kernel
set_option maxRecDepth 65536 in
set_option maxHeartbeats 40000000 in
theorem rmPC32 {l : Launch} {Z : State} {a0 : Array Value} {n0 : Nat} (X : Ctx Z a0) {u : Addr} {ku : ClassId} {v0 v1 v2 v3 v4 v5 : Value} (ch : Int32) (na : n0 ≤ u) {h : Heap} (hO : Old Z n0 h) (Vu : Arv Z h u ku .byte (6 : Int32) [v0, v1, v2, v3, v4, v5] (.int (0 : Int32))) :
    Ctr l Z EL1 n0 (⟨"java/lang/StringUTF16", "putChar", "([BII)V"⟩ : MethodName) jdk_52_method_4_code 3 none ({ frames := 0, cells := 0, slots := 0, locals := 0 } : Room) #[(.ref u), (.int (2 : Int32)), (.int ch)] h [u] (fun v h' => v = none ∧ Keep h h' [u] ∧ Arv Z h' u ku .byte (6 : Int32) [v0, v1, v2, v3, (.int (StrChars.lo8 ch)), (.int (StrChars.hi8 ch))] (.int (0 : Int32))) := by
  have hw := X.hw
  obtain ⟨z1, hz1, hz2⟩ := X.2.2.1
  refine Ctr.intro (a0 := a0) (plainFor_of_name pn0) hO X.ew ?_
  intro p e s m below meth c T0 V0 S0 hby hml hret hnm hsf
  rw [ef2]
  have hw16 := X.2.2.2.2
  show Go p e below _ (T0.setTop (mkF m 0 #[.val (.ref u), .val (.int (2 : Int32)), .val (.int ch)] []))
  refine g_getS S0 (w97 hw) Via.refl (hw16.1.ext S0.old.2) (hb hby dPC32_0) ?_
  intro T59 ST59
  show Go p e below _ (T59.setTop (mkF m 3 #[.val (.ref u), .val (.int (2 : Int32)), .val (.int ch)] [(.int (1 : Int32))]))
  refine s_ifY ST59 (hb hby dPC32_3) (by decide) (by decide) (pcT := 28) (by decide) ?_
  refine s_iloadN ST59 (hb hby dPC32_28) rfl (pc' := 29) rfl ?_
  refine s_iconst ST59 (hb hby dPC32_29) (v := (1 : Int32)) rfl (pc' := 30) rfl ?_
  refine s_ishl ST59 (hb hby dPC32_30) (z := (4 : Int32)) (by decide) (pc' := 31) rfl ?_
  refine s_istoreN ST59 (hb hby dPC32_31) (L' := #[.val (.ref u), .val (.int (4 : Int32)), .val (.int ch)]) rfl (pc' := 32) rfl ?_
  refine s_aloadN ST59 (hb hby dPC32_32) rfl rfl (pc' := 33) rfl ?_
  refine s_iloadN ST59 (hb hby dPC32_33) rfl (pc' := 34) rfl ?_
  refine s_iinc ST59 (hb hby dPC32_34) rfl (z := (5 : Int32)) rfl (L' := #[.val (.ref u), .val (.int (5 : Int32)), .val (.int ch)]) rfl (pc' := 37) rfl ?_
  refine s_iloadN ST59 (hb hby dPC32_37) rfl (pc' := 38) rfl ?_
  refine g_getS ST59 (w98 hw) Via.refl (hw16.2.1.ext ST59.old.2) (hb hby dPC32_38) ?_
  intro T60 ST60
  show Go p e below _ (T60.setTop (mkF m 41 #[.val (.ref u), .val (.int (5 : Int32)), .val (.int ch)] [(.int (0 : Int32)), (.int ch), (.int (4 : Int32)), (.ref u)]))
  refine s_ishr ST60 (hb hby dPC32_41) (z := (ch >>> ((0 : Int32) &&& 31))) rfl (pc' := 42) rfl ?_
  refine s_i2b ST60 (hb hby dPC32_42) (z := ((ch >>> ((0 : Int32) &&& 31)).toInt8.toInt32)) rfl (pc' := 43) rfl ?_
  show Go p e below _ (T60.setTop (mkF m 43 #[.val (.ref u), .val (.int (5 : Int32)), .val (.int ch)] [(.int ((ch >>> ((0 : Int32) &&& 31)).toInt8.toInt32)), (.int (4 : Int32)), (.ref u)]))
  refine g_bastore ST60 Vu ⟨by decide, by decide⟩ 4 rfl (Nat.le_of_ble_eq_true rfl) na (hsf u List.mem_cons_self) (hb hby dPC32_43) ?_
  intro T61 h61 S61 K61 V61 sg61
  have sf62 := Safe.keep K61 (sfS (hsf u List.mem_cons_self) sf0) ST60.chv (hsf u List.mem_cons_self)
  rw [own_pcLo ch] at V61
  have V61 : Arv Z h61 u ku .byte (6 : Int32) [v0, v1, v2, v3, (.int (StrChars.lo8 ch)), v5] (.int (0 : Int32)) := V61
  show Go p e below _ (T61.setTop (mkF m 44 #[.val (.ref u), .val (.int (5 : Int32)), .val (.int ch)] []))
  refine s_aloadN S61 (hb hby dPC32_44) rfl rfl (pc' := 45) rfl ?_
  refine s_iloadN S61 (hb hby dPC32_45) rfl (pc' := 46) rfl ?_
  refine s_iloadN S61 (hb hby dPC32_46) rfl (pc' := 47) rfl ?_
  refine g_getS S61 (w99 hw) Via.refl (hw16.2.2.ext S61.old.2) (hb hby dPC32_47) ?_
  intro T63 ST63
  show Go p e below _ (T63.setTop (mkF m 50 #[.val (.ref u), .val (.int (5 : Int32)), .val (.int ch)] [(.int (8 : Int32)), (.int ch), (.int (5 : Int32)), (.ref u)]))
  refine s_ishr ST63 (hb hby dPC32_50) (z := (ch >>> ((8 : Int32) &&& 31))) rfl (pc' := 51) rfl ?_
  refine s_i2b ST63 (hb hby dPC32_51) (z := ((ch >>> ((8 : Int32) &&& 31)).toInt8.toInt32)) rfl (pc' := 52) rfl ?_
  show Go p e below _ (T63.setTop (mkF m 52 #[.val (.ref u), .val (.int (5 : Int32)), .val (.int ch)] [(.int ((ch >>> ((8 : Int32) &&& 31)).toInt8.toInt32)), (.int (5 : Int32)), (.ref u)]))
  refine g_bastore ST63 V61 ⟨by decide, by decide⟩ 5 rfl (Nat.le_of_ble_eq_true rfl) na sg61 (hb hby dPC32_52) ?_
  intro T64 h64 S64 K64 V64 sg64
  have sf65 := Safe.keep K64 (sfS sg61 sf0) ST63.chv sg61
  rw [own_pcHi ch] at V64
  have V64 : Arv Z h64 u ku .byte (6 : Int32) [v0, v1, v2, v3, (.int (StrChars.lo8 ch)), (.int (StrChars.hi8 ch))] (.int (0 : Int32)) := V64
  show Go p e below _ (T64.setTop (mkF m 53 #[.val (.ref u), .val (.int (5 : Int32)), .val (.int ch)] []))
  show Go p e below _ (T64.setTop (mkF m 53 #[.val (.ref u), .val (.int (5 : Int32)), .val (.int ch)] []))
  have KA66 : Keep h h64 [u] := (((Keep.refl h [u]).trans K61 (fun y hy => Or.inl hy)).trans K64 (fun y hy => Or.inl hy))
  exact g_ret S64 (hb hby dPC32_53) hret ⟨rfl, KA66, V64⟩
theorem dNL1_0 : decode jdk_52_method_3_code 0 = .ok (.iload_n 0, 1) := by decide +kernel
theorem dNL1_1 : decode jdk_52_method_3_code 1 = .ok (.ifCond .ge 11, 3) := by decide +kernel
theorem dNL1_12 : decode jdk_52_method_3_code 12 = .ok (.iload_n 0, 1) := by decide +kernel
theorem dNL1_13 : decode jdk_52_method_3_code 13 = .ok (.ldc 20, 2) := by decide +kernel
theorem dNL1_15 : decode jdk_52_method_3_code 15 = .ok (.if_icmp .lt 40, 3) := by decide +kernel
theorem dNL1_55 : decode jdk_52_method_3_code 55 = .ok (.iload_n 0, 1) := by decide +kernel
theorem dNL1_56 : decode jdk_52_method_3_code 56 = .ok (.iconst 1, 1) := by decide +kernel
theorem dNL1_57 : decode jdk_52_method_3_code 57 = .ok (.ishl, 1) := by decide +kernel
theorem dNL1_58 : decode jdk_52_method_3_code 58 = .ok (.ireturn, 1) := by decide +kernel
set_option maxRecDepth 65536 in
set_option maxHeartbeats 40000000 in
theorem rmNL1 {l : Launch} {Z : State} {a0 : Array Value} {n0 : Nat} (X : Ctx Z a0)  {h : Heap} (hO : Old Z n0 h)  :
    Ctr l Z EL1 n0 (⟨"java/lang/StringUTF16", "newBytesLength", "(I)I"⟩ : MethodName) jdk_52_method_3_code 1 (some .int) ({ frames := 0, cells := 0, slots := 0, locals := 0 } : Room) #[(.int (1 : Int32))] h [] (fun v h' => v = some (.int (2 : Int32)) ∧ h' = h) := by
  have hw := X.hw
  obtain ⟨z1, hz1, hz2⟩ := X.2.2.1
  refine Ctr.intro (a0 := a0) (plainFor_of_name pn0) hO X.ew ?_
  intro p e s m below meth c T0 V0 S0 hby hml hret hnm hsf
  rw [ef3]
  refine s_iloadN S0 (hb hby dNL1_0) rfl (pc' := 1) rfl ?_
  refine s_ifY S0 (hb hby dNL1_1) (by decide) (by decide) (pcT := 12) (by decide) ?_
  refine s_iloadN S0 (hb hby dNL1_12) rfl (pc' := 13) rfl ?_
  refine g_ldcI S0 (w93 hw) (hb hby dNL1_13) ?_
  show Go p e below _ (T0.setTop (mkF m 15 #[.val (.int (1 : Int32))] [(.int (1073741823 : Int32)), (.int (1 : Int32))]))
  refine s_icmpY S0 (hb hby dNL1_15) (by decide) (by decide) (pcT := 55) (by decide) ?_
  refine s_iloadN S0 (hb hby dNL1_55) rfl (pc' := 56) rfl ?_
  refine s_iconst S0 (hb hby dNL1_56) (v := (1 : Int32)) rfl (pc' := 57) rfl ?_
  refine s_ishl S0 (hb hby dNL1_57) (z := (2 : Int32)) (by decide) (pc' := 58) rfl ?_
  exact g_iret S0 (hb hby dNL1_58) hret ⟨rfl, rfl⟩
theorem dNB1_0 : decode jdk_52_method_2_code 0 = .ok (.iload_n 0, 1) := by decide +kernel
theorem dNB1_1 : decode jdk_52_method_2_code 1 = .ok (.invokestatic 11, 3) := by decide +kernel
theorem dNB1_4 : decode jdk_52_method_2_code 4 = .ok (.newarray .byte, 2) := by decide +kernel
theorem dNB1_6 : decode jdk_52_method_2_code 6 = .ok (.areturn, 1) := by decide +kernel
set_option maxRecDepth 65536 in
set_option maxHeartbeats 40000000 in
theorem rmNB1 {l : Launch} {Z : State} {a0 : Array Value} {n0 : Nat} (X : Ctx Z a0)  {h : Heap} (hO : Old Z n0 h)  :
    CtrV l Z EL1 n0 (⟨"java/lang/StringUTF16", "newBytesFor", "(I)[B"⟩ : MethodName) jdk_52_method_2_code 1 (some (.array .byte)) ({ frames := 1, cells := 1, slots := 2, locals := 12 } : Room) #[(.int (1 : Int32))] h [] (fun v h' vm => ∃ u ku, v = some (.ref u) ∧ Ext h h' ∧ h.size ≤ u ∧ u < h'.size ∧ n0 ≤ u ∧ Safe Z EL1 vm h' u ∧ Arv Z h' u ku .byte (2 : Int32) [(.int (0 : Int32)), (.int (0 : Int32))] (.int (0 : Int32))) := by
  have hw := X.hw
  obtain ⟨z1, hz1, hz2⟩ := X.2.2.1
  refine CtrV.intro (a0 := a0) (plainFor_of_name pn0) hO X.ew ?_
  intro p e s m below meth c T0 V0 S0 hby hml hret hnm hsf
  rw [ef3]
  refine s_iloadN S0 (hb hby dNB1_0) rfl (pc' := 1) rfl ?_
  show Go p e below _ (T0.setTop (mkF m 1 #[.val (.int (1 : Int32))] [(.int (1 : Int32))]))
  refine g_static S0 (rmNL1 X S0.old) (fun _ q => nomatch q) (w90 hw) (w91 hw) (w44 hw) (w92 hw) (by decide) (hb hby dNB1_1) (by rw [hml]; rfl) [(.int (1 : Int32))] (lenOf pd0 rfl) rfl rfl (Nat.le_of_ble_eq_true rfl) (Nat.le_of_ble_eq_true rfl) (Nat.le_of_ble_eq_true rfl) (Nat.le_of_ble_eq_true rfl) ?_
  intro v67 T67 V67 h67 S67 C67 q67
  obtain ⟨rfl, rfl⟩ := q67
  show Go p e below _ (T67.setTop (mkF m 4 #[.val (.int (1 : Int32))] [(.int (2 : Int32))]))
  refine g_newarr (aty := .byte) S67 (w20 hw) (hb hby dNB1_4) (by decide) (cap := 2) (by decide) (by decide) (Nat.le_of_ble_eq_true rfl) (Nat.le_of_ble_eq_true rfl) ?_
  intro T68 h68 b68 kc68 S68 E68 fr68 lt68 na68 sf68 A68
  have V68 : Arv Z h68 b68 kc68 .byte (2 : Int32) [(.int (0 : Int32)), (.int (0 : Int32))] (.int (0 : Int32)) := A68 2
  show Go p e below _ (T68.setTop (mkF m 6 #[.val (.int (1 : Int32))] [(.ref b68)]))
  show Go p e below _ (T68.setTop (mkF m 6 #[.val (.int (1 : Int32))] [(.ref b68)]))
  exact g_aretV S68 (hb hby dNB1_6) hret rfl rfl rfl (fun sfx => ⟨b68, kc68, rfl, E68, fr68, lt68, na68, sfx _ lt68 sf68, V68⟩)
theorem dT1_0 : decode jdk_52_method_14_code 0 = .ok (.iload_n 2, 1) := by decide +kernel
theorem dT1_1 : decode jdk_52_method_14_code 1 = .ok (.invokestatic 107, 3) := by decide +kernel
theorem dT1_4 : decode jdk_52_method_14_code 4 = .ok (.astore_n 3, 1) := by decide +kernel
theorem dT1_5 : decode jdk_52_method_14_code 5 = .ok (.iconst 0, 1) := by decide +kernel
theorem dT1_6 : decode jdk_52_method_14_code 6 = .ok (.istore 4, 2) := by decide +kernel
theorem dT1_8 : decode jdk_52_method_14_code 8 = .ok (.iload 4, 2) := by decide +kernel
theorem dT1_10 : decode jdk_52_method_14_code 10 = .ok (.iload_n 2, 1) := by decide +kernel
theorem dT1_11 : decode jdk_52_method_14_code 11 = .ok (.if_icmp .ge 21, 3) := by decide +kernel
theorem dT1_14 : decode jdk_52_method_14_code 14 = .ok (.aload_n 3, 1) := by decide +kernel
theorem dT1_15 : decode jdk_52_method_14_code 15 = .ok (.iload 4, 2) := by decide +kernel
theorem dT1_17 : decode jdk_52_method_14_code 17 = .ok (.aload_n 0, 1) := by decide +kernel
theorem dT1_18 : decode jdk_52_method_14_code 18 = .ok (.iload_n 1, 1) := by decide +kernel
theorem dT1_19 : decode jdk_52_method_14_code 19 = .ok (.caload, 1) := by decide +kernel
theorem dT1_20 : decode jdk_52_method_14_code 20 = .ok (.invokestatic 111, 3) := by decide +kernel
theorem dT1_23 : decode jdk_52_method_14_code 23 = .ok (.iinc 1 1, 3) := by decide +kernel
theorem dT1_26 : decode jdk_52_method_14_code 26 = .ok (.iinc 4 1, 3) := by decide +kernel
theorem dT1_29 : decode jdk_52_method_14_code 29 = .ok (.goto (-21), 3) := by decide +kernel
theorem dT1_32 : decode jdk_52_method_14_code 32 = .ok (.aload_n 3, 1) := by decide +kernel
theorem dT1_33 : decode jdk_52_method_14_code 33 = .ok (.areturn, 1) := by decide +kernel
set_option maxRecDepth 65536 in
set_option maxHeartbeats 40000000 in
theorem rmT1 {l : Launch} {Z : State} {a0 : Array Value} {n0 : Nat} (X : Ctx Z a0) {a : Addr} {ka : ClassId} {c0 : Int32} {dv : Value} {h : Heap} (hO : Old Z n0 h) (Va : Arv Z h a ka .char (1 : Int32) [(.int c0)] dv) :
    Ctr l Z EL1 n0 (⟨"java/lang/StringUTF16", "toBytes", "([CII)[B"⟩ : MethodName) jdk_52_method_14_code 5 (some (.array .byte)) ({ frames := 2, cells := 1, slots := 2, locals := 28 } : Room) #[(.ref a), (.int (0 : Int32)), (.int (1 : Int32))] h [] (fun v h' => ∃ u ku, v = some (.ref u) ∧ Ext h h' ∧ Arv Z h' u ku .byte (2 : Int32) [(.int (StrChars.lo8 c0)), (.int (StrChars.hi8 c0))] (.int (0 : Int32))) := by
  have hw := X.hw
  obtain ⟨z1, hz1, hz2⟩ := X.2.2.1
  refine Ctr.intro (a0 := a0) (plainFor_of_name pn0) hO X.ew ?_
  intro p e s m below meth c T0 V0 S0 hby hml hret hnm hsf
  rw [ef4]
  refine s_iloadN S0 (hb hby dT1_0) rfl (pc' := 1) rfl ?_
  show Go p e below _ (T0.setTop (mkF m 1 #[.val (.ref a), .val (.int (0 : Int32)), .val (.int (1 : Int32)), .unset, .unset] [(.int (1 : Int32))]))
  refine g_static S0 (rmNB1 X S0.old) (fun _ q => nomatch q) (w87 hw) (w88 hw) (w44 hw) (w89 hw) (by decide) (hb hby dT1_1) (by rw [hml]; rfl) [(.int (1 : Int32))] (lenOf pd1 rfl) rfl rfl (Nat.le_of_ble_eq_true rfl) (Nat.le_of_ble_eq_true rfl) (Nat.le_of_ble_eq_true rfl) (Nat.le_of_ble_eq_true rfl) ?_
  intro v69 T69 V69 h69 S69 C69 q69
  obtain ⟨u, ku, rfl, Eu, fru, ltu, nau, sfu, Vu⟩ := q69
  show Go p e below _ (T69.setTop (mkF m 4 #[.val (.ref a), .val (.int (0 : Int32)), .val (.int (1 : Int32)), .unset, .unset] [(.ref u)]))
  refine s_astoreN S69 (hb hby dT1_4) rfl (L' := #[.val (.ref a), .val (.int (0 : Int32)), .val (.int (1 : Int32)), .val (.ref u), .unset]) rfl (pc' := 5) rfl ?_
  refine s_iconst S69 (hb hby dT1_5) (v := (0 : Int32)) rfl (pc' := 6) rfl ?_
  refine s_istore S69 (hb hby dT1_6) (L' := #[.val (.ref a), .val (.int (0 : Int32)), .val (.int (1 : Int32)), .val (.ref u), .val (.int (0 : Int32))]) rfl (pc' := 8) rfl ?_
  refine s_iload S69 (hb hby dT1_8) rfl (pc' := 10) rfl ?_
  refine s_iloadN S69 (hb hby dT1_10) rfl (pc' := 11) rfl ?_
  refine s_icmpN S69 (hb hby dT1_11) (by decide) (pc' := 14) rfl ?_
  refine s_aloadN S69 (hb hby dT1_14) rfl rfl (pc' := 15) rfl ?_
  refine s_iload S69 (hb hby dT1_15) rfl (pc' := 17) rfl ?_
  refine s_aloadN S69 (hb hby dT1_17) rfl rfl (pc' := 18) rfl ?_
  refine s_iloadN S69 (hb hby dT1_18) rfl (pc' := 19) rfl ?_
  have Va70 := Va.ext Eu
  refine g_caload S69 Va70 ⟨by decide, by decide⟩ (x := c0) rfl (hb hby dT1_19) ?_
  show Go p e below _ (T69.setTop (mkF m 20 #[.val (.ref a), .val (.int (0 : Int32)), .val (.int (1 : Int32)), .val (.ref u), .val (.int (0 : Int32))] [(.int c0), (.int (0 : Int32)), (.ref u)]))
  show Go p e below _ (T69.setTop (mkF m 20 #[.val (.ref a), .val (.int (0 : Int32)), .val (.int (1 : Int32)), .val (.ref u), .val (.int (0 : Int32))] [(.int c0), (.int (0 : Int32)), (.ref u)]))
  refine g_static S69 (rmPC10 X c0 nau S69.old Vu) (sf1 (Vu).lt sfu) (w94 hw) (w95 hw) (w44 hw) (w96 hw) (by decide) (hb hby dT1_20) (by rw [hml]; rfl) [(.ref u), (.int (0 : Int32)), (.int c0)] (lenOf pd2 rfl) rfl rfl (Nat.le_of_ble_eq_true rfl) (Nat.le_of_ble_eq_true rfl) (Nat.le_of_ble_eq_true rfl) (Nat.le_of_ble_eq_true rfl) ?_
  intro v72 T72 V72 h72 S72 C72 q72
  obtain ⟨rfl, Kk71, Vk71⟩ := q72
  have sfk71 := C72.safe (Vu).lt sfu
  show Go p e below _ (T72.setTop (mkF m 23 #[.val (.ref a), .val (.int (0 : Int32)), .val (.int (1 : Int32)), .val (.ref u), .val (.int (0 : Int32))] []))
  refine s_iinc S72 (hb hby dT1_23) rfl (z := (1 : Int32)) rfl (L' := #[.val (.ref a), .val (.int (1 : Int32)), .val (.int (1 : Int32)), .val (.ref u), .val (.int (0 : Int32))]) rfl (pc' := 26) rfl ?_
  refine s_iinc S72 (hb hby dT1_26) rfl (z := (1 : Int32)) rfl (L' := #[.val (.ref a), .val (.int (1 : Int32)), .val (.int (1 : Int32)), .val (.ref u), .val (.int (1 : Int32))]) rfl (pc' := 29) rfl ?_
  refine s_goto S72 (hb hby dT1_29) (by decide) (pcT := 8) (by decide) ?_
  refine s_iload S72 (hb hby dT1_8) rfl (pc' := 10) rfl ?_
  refine s_iloadN S72 (hb hby dT1_10) rfl (pc' := 11) rfl ?_
  refine s_icmpY S72 (hb hby dT1_11) (by decide) (by decide) (pcT := 32) (by decide) ?_
  refine s_aloadN S72 (hb hby dT1_32) rfl rfl (pc' := 33) rfl ?_
  show Go p e below _ (T72.setTop (mkF m 33 #[.val (.ref a), .val (.int (1 : Int32)), .val (.int (1 : Int32)), .val (.ref u), .val (.int (1 : Int32))] [(.ref u)]))
  have X73 : Ext h h72 := ext_keep1 Eu Kk71 fru
  exact g_aret S72 (hb hby dT1_33) hret rfl rfl rfl ⟨u, ku, rfl, X73, Vk71⟩
theorem dC51_0 : decode jdk_52_method_21_code 0 = .ok (.iconst 0, 1) := by decide +kernel
theorem dC51_1 : decode jdk_52_method_21_code 1 = .ok (.istore 5, 2) := by decide +kernel
theorem dC51_3 : decode jdk_52_method_21_code 3 = .ok (.iload 5, 2) := by decide +kernel
theorem dC51_5 : decode jdk_52_method_21_code 5 = .ok (.iload 4, 2) := by decide +kernel
theorem dC51_7 : decode jdk_52_method_21_code 7 = .ok (.if_icmp .ge 37, 3) := by decide +kernel
theorem dC51_10 : decode jdk_52_method_21_code 10 = .ok (.aload_n 0, 1) := by decide +kernel
theorem dC51_11 : decode jdk_52_method_21_code 11 = .ok (.iload_n 1, 1) := by decide +kernel
theorem dC51_12 : decode jdk_52_method_21_code 12 = .ok (.caload, 1) := by decide +kernel
theorem dC51_13 : decode jdk_52_method_21_code 13 = .ok (.istore 6, 2) := by decide +kernel
theorem dC51_15 : decode jdk_52_method_21_code 15 = .ok (.iload 6, 2) := by decide +kernel
theorem dC51_17 : decode jdk_52_method_21_code 17 = .ok (.sipush 255, 3) := by decide +kernel
theorem dC51_20 : decode jdk_52_method_21_code 20 = .ok (.if_icmp .le 6, 3) := by decide +kernel
theorem dC51_23 : decode jdk_52_method_21_code 23 = .ok (.iload 5, 2) := by decide +kernel
theorem dC51_25 : decode jdk_52_method_21_code 25 = .ok (.ireturn, 1) := by decide +kernel
theorem dC51_26 : decode jdk_52_method_21_code 26 = .ok (.aload_n 2, 1) := by decide +kernel
theorem dC51_27 : decode jdk_52_method_21_code 27 = .ok (.iload_n 3, 1) := by decide +kernel
theorem dC51_28 : decode jdk_52_method_21_code 28 = .ok (.iload 6, 2) := by decide +kernel
theorem dC51_30 : decode jdk_52_method_21_code 30 = .ok (.i2b, 1) := by decide +kernel
theorem dC51_31 : decode jdk_52_method_21_code 31 = .ok (.bastore, 1) := by decide +kernel
theorem dC51_32 : decode jdk_52_method_21_code 32 = .ok (.iinc 1 1, 3) := by decide +kernel
theorem dC51_35 : decode jdk_52_method_21_code 35 = .ok (.iinc 3 1, 3) := by decide +kernel
theorem dC51_38 : decode jdk_52_method_21_code 38 = .ok (.iinc 5 1, 3) := by decide +kernel
theorem dC51_41 : decode jdk_52_method_21_code 41 = .ok (.goto (-38), 3) := by decide +kernel
set_option maxRecDepth 65536 in
set_option maxHeartbeats 40000000 in
theorem rmC51 {l : Launch} {Z : State} {a0 : Array Value} {n0 : Nat} (X : Ctx Z a0) {a b : Addr} {ka kb : ClassId} {c0 : Int32} {v0 dv : Value} (na : n0 ≤ b) (hab : a ≠ b) {h : Heap} (hO : Old Z n0 h) (Va : Arv Z h a ka .char (1 : Int32) [(.int c0)] dv) (Vb : Arv Z h b kb .byte (1 : Int32) [v0] (.int (0 : Int32))) (hwd : (255 : Int32) < c0) :
    Ctr l Z EL1 n0 (⟨"java/lang/StringUTF16", "compress", "([CI[BII)I"⟩ : MethodName) jdk_52_method_21_code 7 (some .int) ({ frames := 0, cells := 0, slots := 0, locals := 0 } : Room) #[(.ref a), (.int (0 : Int32)), (.ref b), (.int (0 : Int32)), (.int (1 : Int32))] h [b] (fun v h' => ((v = some (.int (0 : Int32)) ∧ (255 : Int32) < c0)) ∧ Keep h h' [b]) := by
  have hw := X.hw
  obtain ⟨z1, hz1, hz2⟩ := X.2.2.1
  refine Ctr.intro (a0 := a0) (plainFor_of_name pn0) hO X.ew ?_
  intro p e s m below meth c T0 V0 S0 hby hml hret hnm hsf
  rw [ef5]
  refine s_iconst S0 (hb hby dC51_0) (v := (0 : Int32)) rfl (pc' := 1) rfl ?_
  refine s_istore S0 (hb hby dC51_1) (L' := #[.val (.ref a), .val (.int (0 : Int32)), .val (.ref b), .val (.int (0 : Int32)), .val (.int (1 : Int32)), .val (.int (0 : Int32)), .unset]) rfl (pc' := 3) rfl ?_
  refine s_iload S0 (hb hby dC51_3) rfl (pc' := 5) rfl ?_
  refine s_iload S0 (hb hby dC51_5) rfl (pc' := 7) rfl ?_
  refine s_icmpN S0 (hb hby dC51_7) (by decide) (pc' := 10) rfl ?_
  refine s_aloadN S0 (hb hby dC51_10) rfl rfl (pc' := 11) rfl ?_
  refine s_iloadN S0 (hb hby dC51_11) rfl (pc' := 12) rfl ?_
  refine g_caload S0 Va ⟨by decide, by decide⟩ (x := c0) rfl (hb hby dC51_12) ?_
  show Go p e below _ (T0.setTop (mkF m 13 #[.val (.ref a), .val (.int (0 : Int32)), .val (.ref b), .val (.int (0 : Int32)), .val (.int (1 : Int32)), .val (.int (0 : Int32)), .unset] [(.int c0)]))
  refine s_istore S0 (hb hby dC51_13) (L' := #[.val (.ref a), .val (.int (0 : Int32)), .val (.ref b), .val (.int (0 : Int32)), .val (.int (1 : Int32)), .val (.int (0 : Int32)), .val (.int c0)]) rfl (pc' := 15) rfl ?_
  refine s_iload S0 (hb hby dC51_15) rfl (pc' := 17) rfl ?_
  refine s_sipush S0 (hb hby dC51_17) (v := (255 : Int32)) rfl (pc' := 20) rfl ?_
  refine g_icmp S0 (hb hby dC51_20) (by decide) (pcT := 26) (by decide) (fun q => ?_) (fun q => ?_)
  · have hc20_74 : ¬ (255 : Int32) < c0 := icT_le q
    show Go p e below _ (T0.setTop (mkF m 26 #[.val (.ref a), .val (.int (0 : Int32)), .val (.ref b), .val (.int (0 : Int32)), .val (.int (1 : Int32)), .val (.int (0 : Int32)), .val (.int c0)] []))
    refine s_aloadN S0 (hb hby dC51_26) rfl rfl (pc' := 27) rfl ?_
    refine s_iloadN S0 (hb hby dC51_27) rfl (pc' := 28) rfl ?_
    refine s_iload S0 (hb hby dC51_28) rfl (pc' := 30) rfl ?_
    refine s_i2b S0 (hb hby dC51_30) (z := (c0.toInt8.toInt32)) rfl (pc' := 31) rfl ?_
    show Go p e below _ (T0.setTop (mkF m 31 #[.val (.ref a), .val (.int (0 : Int32)), .val (.ref b), .val (.int (0 : Int32)), .val (.int (1 : Int32)), .val (.int (0 : Int32)), .val (.int c0)] [(.int (c0.toInt8.toInt32)), (.int (0 : Int32)), (.ref b)]))
    refine g_bastore S0 Vb ⟨by decide, by decide⟩ 0 rfl (Nat.le_of_ble_eq_true rfl) na (hsf b List.mem_cons_self) (hb hby dC51_31) ?_
    intro T75 h75 S75 K75 V75 sg75
    have sf76 := Safe.keep K75 (sfS (hsf b List.mem_cons_self) sf0) S0.chv (hsf b List.mem_cons_self)
    rw [own_nb c0] at V75
    have V75 : Arv Z h75 b kb .byte (1 : Int32) [(.int (StrChars.lo8 c0))] (.int (0 : Int32)) := V75
    show Go p e below _ (T75.setTop (mkF m 32 #[.val (.ref a), .val (.int (0 : Int32)), .val (.ref b), .val (.int (0 : Int32)), .val (.int (1 : Int32)), .val (.int (0 : Int32)), .val (.int c0)] []))
    refine s_iinc S75 (hb hby dC51_32) rfl (z := (1 : Int32)) rfl (L' := #[.val (.ref a), .val (.int (1 : Int32)), .val (.ref b), .val (.int (0 : Int32)), .val (.int (1 : Int32)), .val (.int (0 : Int32)), .val (.int c0)]) rfl (pc' := 35) rfl ?_
    refine s_iinc S75 (hb hby dC51_35) rfl (z := (1 : Int32)) rfl (L' := #[.val (.ref a), .val (.int (1 : Int32)), .val (.ref b), .val (.int (1 : Int32)), .val (.int (1 : Int32)), .val (.int (0 : Int32)), .val (.int c0)]) rfl (pc' := 38) rfl ?_
    refine s_iinc S75 (hb hby dC51_38) rfl (z := (1 : Int32)) rfl (L' := #[.val (.ref a), .val (.int (1 : Int32)), .val (.ref b), .val (.int (1 : Int32)), .val (.int (1 : Int32)), .val (.int (1 : Int32)), .val (.int c0)]) rfl (pc' := 41) rfl ?_
    refine s_goto S75 (hb hby dC51_41) (by decide) (pcT := 3) (by decide) ?_
    refine s_iload S75 (hb hby dC51_3) rfl (pc' := 5) rfl ?_
    refine s_iload S75 (hb hby dC51_5) rfl (pc' := 7) rfl ?_
    refine s_icmpY S75 (hb hby dC51_7) (by decide) (by decide) (pcT := 44) (by decide) ?_
    exact absurd hwd (by simp [hc20_74])
  · have hc20_74 : (255 : Int32) < c0 := icF_le q
    show Go p e below _ (T0.setTop (mkF m 23 #[.val (.ref a), .val (.int (0 : Int32)), .val (.ref b), .val (.int (0 : Int32)), .val (.int (1 : Int32)), .val (.int (0 : Int32)), .val (.int c0)] []))
    refine s_iload S0 (hb hby dC51_23) rfl (pc' := 25) rfl ?_
    show Go p e below _ (T0.setTop (mkF m 25 #[.val (.ref a), .val (.int (0 : Int32)), .val (.ref b), .val (.int (0 : Int32)), .val (.int (1 : Int32)), .val (.int (0 : Int32)), .val (.int c0)] [(.int (0 : Int32))]))
    have KA77 : Keep h h [b] := (Keep.refl h [b])
    exact g_iret S0 (hb hby dC51_25) hret ⟨⟨rfl, hc20_74⟩, KA77⟩
theorem dC31_0 : decode jdk_52_method_16_code 0 = .ok (.iload_n 2, 1) := by decide +kernel
theorem dC31_1 : decode jdk_52_method_16_code 1 = .ok (.newarray .byte, 2) := by decide +kernel
theorem dC31_3 : decode jdk_52_method_16_code 3 = .ok (.astore_n 3, 1) := by decide +kernel
theorem dC31_4 : decode jdk_52_method_16_code 4 = .ok (.aload_n 0, 1) := by decide +kernel
theorem dC31_5 : decode jdk_52_method_16_code 5 = .ok (.iload_n 1, 1) := by decide +kernel
theorem dC31_6 : decode jdk_52_method_16_code 6 = .ok (.aload_n 3, 1) := by decide +kernel
theorem dC31_7 : decode jdk_52_method_16_code 7 = .ok (.iconst 0, 1) := by decide +kernel
theorem dC31_8 : decode jdk_52_method_16_code 8 = .ok (.iload_n 2, 1) := by decide +kernel
theorem dC31_9 : decode jdk_52_method_16_code 9 = .ok (.invokestatic 115, 3) := by decide +kernel
theorem dC31_12 : decode jdk_52_method_16_code 12 = .ok (.istore 4, 2) := by decide +kernel
theorem dC31_14 : decode jdk_52_method_16_code 14 = .ok (.iload 4, 2) := by decide +kernel
theorem dC31_16 : decode jdk_52_method_16_code 16 = .ok (.iload_n 2, 1) := by decide +kernel
theorem dC31_17 : decode jdk_52_method_16_code 17 = .ok (.if_icmp .eq 40, 3) := by decide +kernel
theorem dC31_20 : decode jdk_52_method_16_code 20 = .ok (.aload_n 0, 1) := by decide +kernel
theorem dC31_21 : decode jdk_52_method_16_code 21 = .ok (.iload_n 1, 1) := by decide +kernel
theorem dC31_22 : decode jdk_52_method_16_code 22 = .ok (.iload_n 2, 1) := by decide +kernel
theorem dC31_23 : decode jdk_52_method_16_code 23 = .ok (.invokestatic 119, 3) := by decide +kernel
theorem dC31_26 : decode jdk_52_method_16_code 26 = .ok (.astore 5, 2) := by decide +kernel
theorem dC31_28 : decode jdk_52_method_16_code 28 = .ok (.aload 5, 2) := by decide +kernel
theorem dC31_30 : decode jdk_52_method_16_code 30 = .ok (.iload 4, 2) := by decide +kernel
theorem dC31_32 : decode jdk_52_method_16_code 32 = .ok (.invokestatic 71, 3) := by decide +kernel
theorem dC31_35 : decode jdk_52_method_16_code 35 = .ok (.sipush 255, 3) := by decide +kernel
theorem dC31_38 : decode jdk_52_method_16_code 38 = .ok (.if_icmp .gt 16, 3) := by decide +kernel
theorem dC31_54 : decode jdk_52_method_16_code 54 = .ok (.aload 5, 2) := by decide +kernel
theorem dC31_56 : decode jdk_52_method_16_code 56 = .ok (.areturn, 1) := by decide +kernel
set_option maxRecDepth 65536 in
set_option maxHeartbeats 40000000 in
theorem rmC31 {l : Launch} {Z : State} {a0 : Array Value} {n0 : Nat} (X : Ctx Z a0) {a : Addr} {ka : ClassId} {c0 : Int32} {dv : Value} {h : Heap} (hO : Old Z n0 h) (Va : Arv Z h a ka .char (1 : Int32) [(.int c0)] dv) (rc0 : ¬ c0 < 0 ∧ ¬ (65535 : Int32) < c0) (hwd : (255 : Int32) < c0) :
    Ctr l Z EL1 n0 (⟨"java/lang/StringUTF16", "compress", "([CII)[B"⟩ : MethodName) jdk_52_method_16_code 6 (some (.array .byte)) ({ frames := 3, cells := 2, slots := 3, locals := 47 } : Room) #[(.ref a), (.int (0 : Int32)), (.int (1 : Int32))] h [] (fun v h' => ∃ u ku, v = some (.ref u) ∧ Ext h h' ∧ Arv Z h' u ku .byte (2 : Int32) [(.int (StrChars.lo8 c0)), (.int (StrChars.hi8 c0))] (.int (0 : Int32))) := by
  have hw := X.hw
  obtain ⟨z1, hz1, hz2⟩ := X.2.2.1
  refine Ctr.intro (a0 := a0) (plainFor_of_name pn0) hO X.ew ?_
  intro p e s m below meth c T0 V0 S0 hby hml hret hnm hsf
  rw [ef6]
  refine s_iloadN S0 (hb hby dC31_0) rfl (pc' := 1) rfl ?_
  refine g_newarr (aty := .byte) S0 (w20 hw) (hb hby dC31_1) (by decide) (cap := 1) (by decide) (by decide) (Nat.le_of_ble_eq_true rfl) (Nat.le_of_ble_eq_true rfl) ?_
  intro T78 h78 b78 kc78 S78 E78 fr78 lt78 na78 sf78 A78
  have V78 : Arv Z h78 b78 kc78 .byte (1 : Int32) [(.int (0 : Int32))] (.int (0 : Int32)) := A78 1
  show Go p e below _ (T78.setTop (mkF m 3 #[.val (.ref a), .val (.int (0 : Int32)), .val (.int (1 : Int32)), .unset, .unset, .unset] [(.ref b78)]))
  refine s_astoreN S78 (hb hby dC31_3) rfl (L' := #[.val (.ref a), .val (.int (0 : Int32)), .val (.int (1 : Int32)), .val (.ref b78), .unset, .unset]) rfl (pc' := 4) rfl ?_
  refine s_aloadN S78 (hb hby dC31_4) rfl rfl (pc' := 5) rfl ?_
  refine s_iloadN S78 (hb hby dC31_5) rfl (pc' := 6) rfl ?_
  refine s_aloadN S78 (hb hby dC31_6) rfl rfl (pc' := 7) rfl ?_
  refine s_iconst S78 (hb hby dC31_7) (v := (0 : Int32)) rfl (pc' := 8) rfl ?_
  refine s_iloadN S78 (hb hby dC31_8) rfl (pc' := 9) rfl ?_
  have Va79 := Va.ext E78
  show Go p e below _ (T78.setTop (mkF m 9 #[.val (.ref a), .val (.int (0 : Int32)), .val (.int (1 : Int32)), .val (.ref b78), .unset, .unset] [(.int (1 : Int32)), (.int (0 : Int32)), (.ref b78), (.int (0 : Int32)), (.ref a)]))
  refine g_static S78 (rmC51 X na78 (arv_kne Va79 V78 (by decide)) S78.old Va79 V78 hwd) (sf1 (V78).lt sf78) (w46 hw) (w47 hw) (w44 hw) (w48 hw) (by decide) (hb hby dC31_9) (by rw [hml]; rfl) [(.ref a), (.int (0 : Int32)), (.ref b78), (.int (0 : Int32)), (.int (1 : Int32))] (lenOf pd3 rfl) rfl rfl (Nat.le_of_ble_eq_true rfl) (Nat.le_of_ble_eq_true rfl) (Nat.le_of_ble_eq_true rfl) (Nat.le_of_ble_eq_true rfl) ?_
  intro v81 T81 V81 h81 S81 C81 q81
  obtain ⟨hq80, Kq80⟩ := q81
  rcases hq80 with ⟨rfl, hq80⟩
  · skip
    show Go p e below _ (T81.setTop (mkF m 12 #[.val (.ref a), .val (.int (0 : Int32)), .val (.int (1 : Int32)), .val (.ref b78), .unset, .unset] [(.int (0 : Int32))]))
    refine s_istore S81 (hb hby dC31_12) (L' := #[.val (.ref a), .val (.int (0 : Int32)), .val (.int (1 : Int32)), .val (.ref b78), .val (.int (0 : Int32)), .unset]) rfl (pc' := 14) rfl ?_
    refine s_iload S81 (hb hby dC31_14) rfl (pc' := 16) rfl ?_
    refine s_iloadN S81 (hb hby dC31_16) rfl (pc' := 17) rfl ?_
    refine s_icmpN S81 (hb hby dC31_17) (by decide) (pc' := 20) rfl ?_
    refine s_aloadN S81 (hb hby dC31_20) rfl rfl (pc' := 21) rfl ?_
    refine s_iloadN S81 (hb hby dC31_21) rfl (pc' := 22) rfl ?_
    refine s_iloadN S81 (hb hby dC31_22) rfl (pc' := 23) rfl ?_
    have X82 : Ext h h81 := ext_keep1 E78 Kq80 fr78
    have Va83 := Va.ext X82
    show Go p e below _ (T81.setTop (mkF m 23 #[.val (.ref a), .val (.int (0 : Int32)), .val (.int (1 : Int32)), .val (.ref b78), .val (.int (0 : Int32)), .unset] [(.int (1 : Int32)), (.int (0 : Int32)), (.ref a)]))
    refine g_static S81 (rmT1 X S81.old Va83) (fun _ q => nomatch q) (w84 hw) (w85 hw) (w44 hw) (w86 hw) (by decide) (hb hby dC31_23) (by rw [hml]; rfl) [(.ref a), (.int (0 : Int32)), (.int (1 : Int32))] (lenOf pd4 rfl) rfl rfl (Nat.le_of_ble_eq_true rfl) (Nat.le_of_ble_eq_true rfl) (Nat.le_of_ble_eq_true rfl) (Nat.le_of_ble_eq_true rfl) ?_
    intro v84 T84 V84 h84 S84 C84 q84
    obtain ⟨u, ku, rfl, Eu, Vu⟩ := q84
    show Go p e below _ (T84.setTop (mkF m 26 #[.val (.ref a), .val (.int (0 : Int32)), .val (.int (1 : Int32)), .val (.ref b78), .val (.int (0 : Int32)), .unset] [(.ref u)]))
    refine s_astore S84 (hb hby dC31_26) rfl (L' := #[.val (.ref a), .val (.int (0 : Int32)), .val (.int (1 : Int32)), .val (.ref b78), .val (.int (0 : Int32)), .val (.ref u)]) rfl (pc' := 28) rfl ?_
    refine s_aload S84 (hb hby dC31_28) rfl rfl (pc' := 30) rfl ?_
    refine s_iload S84 (hb hby dC31_30) rfl (pc' := 32) rfl ?_
    show Go p e below _ (T84.setTop (mkF m 32 #[.val (.ref a), .val (.int (0 : Int32)), .val (.int (1 : Int32)), .val (.ref b78), .val (.int (0 : Int32)), .val (.ref u)] [(.int (0 : Int32)), (.ref u)]))
    refine g_static S84 (rmGC10 X S84.old Vu rc0) (fun _ q => nomatch q) (w100 hw) (w101 hw) (w44 hw) (w102 hw) (by decide) (hb hby dC31_32) (by rw [hml]; rfl) [(.ref u), (.int (0 : Int32))] (lenOf pd5 rfl) rfl rfl (Nat.le_of_ble_eq_true rfl) (Nat.le_of_ble_eq_true rfl) (Nat.le_of_ble_eq_true rfl) (Nat.le_of_ble_eq_true rfl) ?_
    intro v85 T85 V85 h85 S85 C85 q85
    obtain ⟨rfl, rfl⟩ := q85
    show Go p e below _ (T85.setTop (mkF m 35 #[.val (.ref a), .val (.int (0 : Int32)), .val (.int (1 : Int32)), .val (.ref b78), .val (.int (0 : Int32)), .val (.ref u)] [(.int c0)]))
    refine s_sipush S85 (hb hby dC31_35) (v := (255 : Int32)) rfl (pc' := 38) rfl ?_
    refine s_icmpY S85 (hb hby dC31_38) ((tlt hq80).2.2.1) (by decide) (pcT := 54) (by decide) ?_
    refine s_aload S85 (hb hby dC31_54) rfl rfl (pc' := 56) rfl ?_
    show Go p e below _ (T85.setTop (mkF m 56 #[.val (.ref a), .val (.int (0 : Int32)), .val (.int (1 : Int32)), .val (.ref b78), .val (.int (0 : Int32)), .val (.ref u)] [(.ref u)]))
    have X86 : Ext h h85 := ext_trans X82 Eu
    exact g_aret S85 (hb hby dC31_56) hret rfl rfl rfl ⟨u, ku, rfl, X86, Vu⟩
theorem dCL1_0 : decode jdk_52_method_15_code 0 = .ok (.iload_n 1, 1) := by decide +kernel
theorem dCL1_1 : decode jdk_52_method_15_code 1 = .ok (.aload_n 0, 1) := by decide +kernel
theorem dCL1_2 : decode jdk_52_method_15_code 2 = .ok (.arraylength, 1) := by decide +kernel
theorem dCL1_3 : decode jdk_52_method_15_code 3 = .ok (.isub, 1) := by decide +kernel
theorem dCL1_4 : decode jdk_52_method_15_code 4 = .ok (.bipush 31, 2) := by decide +kernel
theorem dCL1_6 : decode jdk_52_method_15_code 6 = .ok (.iushr, 1) := by decide +kernel
theorem dCL1_7 : decode jdk_52_method_15_code 7 = .ok (.i2b, 1) := by decide +kernel
theorem dCL1_8 : decode jdk_52_method_15_code 8 = .ok (.ireturn, 1) := by decide +kernel
set_option maxRecDepth 65536 in
set_option maxHeartbeats 40000000 in
theorem rmCL1 {l : Launch} {Z : State} {a0 : Array Value} {n0 : Nat} (X : Ctx Z a0) {u : Addr} {ku : ClassId} {vs : List Value} {dv : Value} {h : Heap} (hO : Old Z n0 h) (Vu : Arv Z h u ku .byte (2 : Int32) vs dv) :
    Ctr l Z EL1 n0 (⟨"java/lang/StringUTF16", "coderFromArrayLen", "([BI)B"⟩ : MethodName) jdk_52_method_15_code 2 (some .byte) ({ frames := 0, cells := 0, slots := 0, locals := 0 } : Room) #[(.ref u), (.int (1 : Int32))] h [] (fun v h' => v = some (.int 1) ∧ h' = h) := by
  have hw := X.hw
  obtain ⟨z1, hz1, hz2⟩ := X.2.2.1
  refine Ctr.intro (a0 := a0) (plainFor_of_name pn0) hO X.ew ?_
  intro p e s m below meth c T0 V0 S0 hby hml hret hnm hsf
  rw [ef1]
  refine s_iloadN S0 (hb hby dCL1_0) rfl (pc' := 1) rfl ?_
  refine s_aloadN S0 (hb hby dCL1_1) rfl rfl (pc' := 2) rfl ?_
  refine g_len S0 Vu (hb hby dCL1_2) ?_
  show Go p e below _ (T0.setTop (mkF m 3 #[.val (.ref u), .val (.int (1 : Int32))] [(.int (2 : Int32)), (.int (1 : Int32))]))
  refine s_isub S0 (hb hby dCL1_3) (z := (-1 : Int32)) rfl (pc' := 4) rfl ?_
  refine s_bipush S0 (hb hby dCL1_4) (v := (31 : Int32)) rfl (pc' := 6) rfl ?_
  refine s_iushr S0 (hb hby dCL1_6) (z := (1 : Int32)) (by decide) (pc' := 7) rfl ?_
  refine s_i2b S0 (hb hby dCL1_7) (z := (1 : Int32)) (by decide) (pc' := 8) rfl ?_
  exact g_iretN S0 (hb hby dCL1_8) hret (by simp) ⟨rfl, rfl⟩
theorem dW41_0 : decode jdk_42_method_149_code 0 = .ok (.aload_n 0, 1) := by decide +kernel
theorem dW41_1 : decode jdk_42_method_149_code 1 = .ok (.invokespecial 1, 3) := by decide +kernel
theorem dW41_4 : decode jdk_42_method_149_code 4 = .ok (.iload_n 3, 1) := by decide +kernel
theorem dW41_5 : decode jdk_42_method_149_code 5 = .ok (.ifCond .ne 22, 3) := by decide +kernel
theorem dW41_27 : decode jdk_42_method_149_code 27 = .ok (.getstatic 38, 3) := by decide +kernel
theorem dW41_30 : decode jdk_42_method_149_code 30 = .ok (.ifCond .eq 28, 3) := by decide +kernel
theorem dW41_33 : decode jdk_42_method_149_code 33 = .ok (.aload_n 1, 1) := by decide +kernel
theorem dW41_34 : decode jdk_42_method_149_code 34 = .ok (.iload_n 2, 1) := by decide +kernel
theorem dW41_35 : decode jdk_42_method_149_code 35 = .ok (.iload_n 3, 1) := by decide +kernel
theorem dW41_36 : decode jdk_42_method_149_code 36 = .ok (.invokestatic 177, 3) := by decide +kernel
theorem dW41_39 : decode jdk_42_method_149_code 39 = .ok (.astore 5, 2) := by decide +kernel
theorem dW41_41 : decode jdk_42_method_149_code 41 = .ok (.aload_n 0, 1) := by decide +kernel
theorem dW41_42 : decode jdk_42_method_149_code 42 = .ok (.aload 5, 2) := by decide +kernel
theorem dW41_44 : decode jdk_42_method_149_code 44 = .ok (.iload_n 3, 1) := by decide +kernel
theorem dW41_45 : decode jdk_42_method_149_code 45 = .ok (.invokestatic 47, 3) := by decide +kernel
theorem dW41_48 : decode jdk_42_method_149_code 48 = .ok (.putfield 15, 3) := by decide +kernel
theorem dW41_51 : decode jdk_42_method_149_code 51 = .ok (.aload_n 0, 1) := by decide +kernel
theorem dW41_52 : decode jdk_42_method_149_code 52 = .ok (.aload 5, 2) := by decide +kernel
theorem dW41_54 : decode jdk_42_method_149_code 54 = .ok (.putfield 9, 3) := by decide +kernel
theorem dW41_57 : decode jdk_42_method_149_code 57 = .ok (.return_, 1) := by decide +kernel
set_option maxRecDepth 65536 in
set_option maxHeartbeats 40000000 in
theorem rmW41 {l : Launch} {Z : State} {a0 : Array Value} {n0 : Nat} (X : Ctx Z a0) {x b : Addr} {kb : ClassId} {c0 : Int32} {v0 c0_ dv : Value} (na : n0 ≤ x) {h : Heap} (hO : Old Z n0 h) (E : Exa Z h x ST) (Fv : Fld Z h x ST "value" "[B" v0) (Fc : Fld Z h x ST "coder" "B" c0_) (Vb : Arv Z h b kb .char (1 : Int32) [(.int c0)] dv) (rc0 : ¬ c0 < 0 ∧ ¬ (65535 : Int32) < c0) (hwd : (255 : Int32) < c0) :
    Ctr l Z EL1 n0 (⟨"java/lang/String", "<init>", "([CIILjava/lang/Void;)V"⟩ : MethodName) jdk_42_method_149_code 6 none ({ frames := 4, cells := 2, slots := 3, locals := 65 } : Room) #[(.ref x), (.ref b), (.int (0 : Int32)), (.int (1 : Int32)), .null] h [x] (fun v h' => v = none ∧ Keep h h' [x] ∧ StrF Z h' x [c0]) := by
  have hw := X.hw
  obtain ⟨z1, hz1, hz2⟩ := X.2.2.1
  refine Ctr.intro (a0 := a0) (plainFor_of_name pn1) hO X.ew ?_
  intro p e s m below meth c T0 V0 S0 hby hml hret hnm hsf
  rw [ef7]
  refine s_aloadN S0 (hb hby dW41_0) rfl rfl (pc' := 1) rfl ?_
  refine g_initO S0 (w16 hw) (w17 hw) (w18 hw) (by rw [hml]; rfl) (hb hby dW41_1) (Nat.le_of_ble_eq_true rfl) (Nat.le_of_ble_eq_true rfl) ?_
  intro T87 ST87
  show Go p e below _ (T87.setTop (mkF m 4 #[.val (.ref x), .val (.ref b), .val (.int (0 : Int32)), .val (.int (1 : Int32)), .val .null, .unset] []))
  refine s_iloadN ST87 (hb hby dW41_4) rfl (pc' := 5) rfl ?_
  refine s_ifY ST87 (hb hby dW41_5) (by decide) (by decide) (pcT := 27) (by decide) ?_
  refine g_getS ST87 (w41 hw) Via.refl (hz1.ext ST87.old.2) (hb hby dW41_27) ?_
  intro T88 ST88
  show Go p e below _ (T88.setTop (mkF m 30 #[.val (.ref x), .val (.ref b), .val (.int (0 : Int32)), .val (.int (1 : Int32)), .val .null, .unset] [(.int z1)]))
  refine s_ifN ST88 (hb hby dW41_30) ((if0 _ _).trans (feq hz2).1) (pc' := 33) rfl ?_
  refine s_aloadN ST88 (hb hby dW41_33) rfl rfl (pc' := 34) rfl ?_
  refine s_iloadN ST88 (hb hby dW41_34) rfl (pc' := 35) rfl ?_
  refine s_iloadN ST88 (hb hby dW41_35) rfl (pc' := 36) rfl ?_
  show Go p e below _ (T88.setTop (mkF m 36 #[.val (.ref x), .val (.ref b), .val (.int (0 : Int32)), .val (.int (1 : Int32)), .val .null, .unset] [(.int (1 : Int32)), (.int (0 : Int32)), (.ref b)]))
  refine g_static ST88 (rmC31 X ST88.old Vb rc0 hwd) (fun _ q => nomatch q) (w42 hw) (w43 hw) (w44 hw) (w45 hw) (by decide) (hb hby dW41_36) (by rw [hml]; rfl) [(.ref b), (.int (0 : Int32)), (.int (1 : Int32))] (lenOf pd4 rfl) rfl rfl (Nat.le_of_ble_eq_true rfl) (Nat.le_of_ble_eq_true rfl) (Nat.le_of_ble_eq_true rfl) (Nat.le_of_ble_eq_true rfl) ?_
  intro v89 T89 V89 h89 S89 C89 q89
  obtain ⟨u, ku, rfl, Eu, Vu⟩ := q89
  have sf90 := C89.safe E.lt (hsf x List.mem_cons_self)
  have neu : u ≠ x := fun q => by obtain ⟨c1, A1, -⟩ := Vu; exact ne_arr (E.ext Eu) (w6 hw) A1 q.symm
  show Go p e below _ (T89.setTop (mkF m 39 #[.val (.ref x), .val (.ref b), .val (.int (0 : Int32)), .val (.int (1 : Int32)), .val .null, .unset] [(.ref u)]))
  refine s_astore S89 (hb hby dW41_39) rfl (L' := #[.val (.ref x), .val (.ref b), .val (.int (0 : Int32)), .val (.int (1 : Int32)), .val .null, .val (.ref u)]) rfl (pc' := 41) rfl ?_
  refine s_aloadN S89 (hb hby dW41_41) rfl rfl (pc' := 42) rfl ?_
  refine s_aload S89 (hb hby dW41_42) rfl rfl (pc' := 44) rfl ?_
  refine s_iloadN S89 (hb hby dW41_44) rfl (pc' := 45) rfl ?_
  show Go p e below _ (T89.setTop (mkF m 45 #[.val (.ref x), .val (.ref b), .val (.int (0 : Int32)), .val (.int (1 : Int32)), .val .null, .val (.ref u)] [(.int (1 : Int32)), (.ref u), (.ref x)]))
  refine g_static S89 (rmCL1 X S89.old Vu) (fun _ q => nomatch q) (w49 hw) (w50 hw) (w44 hw) (w51 hw) (by decide) (hb hby dW41_45) (by rw [hml]; rfl) [(.ref u), (.int (1 : Int32))] (lenOf pd6 rfl) rfl rfl (Nat.le_of_ble_eq_true rfl) (Nat.le_of_ble_eq_true rfl) (Nat.le_of_ble_eq_true rfl) (Nat.le_of_ble_eq_true rfl) ?_
  intro v91 T91 V91 h91 S91 C91 q91
  obtain ⟨rfl, rfl⟩ := q91
  have sf92 := C91.safe (Nat.lt_of_lt_of_le E.lt (Nat.le_trans (Nat.le_refl _) Eu.1)) sf90
  show Go p e below _ (T91.setTop (mkF m 48 #[.val (.ref x), .val (.ref b), .val (.int (0 : Int32)), .val (.int (1 : Int32)), .val .null, .val (.ref u)] [(.int (1 : Int32)), (.ref x)]))
  show Go p e below _ (T91.setTop (mkF m 48 #[.val (.ref x), .val (.ref b), .val (.int (0 : Int32)), .val (.int (1 : Int32)), .val .null, .val (.ref u)] [(.int (1 : Int32)), (.ref x)]))
  have Fc94 := Fc.ext Eu
  have E95 := E.ext Eu
  have Fv96 := Fv.ext Eu
  refine g_putF S91 (w26 hw) Via.refl Fc94 E95 (Or.inr ⟨(w22 hw), rfl, hnm⟩) (w6 hw) (ty := .byte) (v' := (.int (1 : Int32))) (by decide) rfl rfl na sf92 (hb hby dW41_48) ?_
  intro T93 h93 S93 K93 W93 A93 F93 sg93
  have sf97 := Safe.keep K93 (sfS sf92 sf0) S91.chv sf92
  have F98 := Fv96.other W93 (Or.inr (slot_ne (Or.inr (w21 hw)) (Or.inr (w22 hw)) (by decide) (t := (.array .byte)) (t' := .byte) (by decide) (by decide)))
  show Go p e below _ (T93.setTop (mkF m 51 #[.val (.ref x), .val (.ref b), .val (.int (0 : Int32)), .val (.int (1 : Int32)), .val .null, .val (.ref u)] []))
  refine s_aloadN S93 (hb hby dW41_51) rfl rfl (pc' := 52) rfl ?_
  refine s_aload S93 (hb hby dW41_52) rfl rfl (pc' := 54) rfl ?_
  show Go p e below _ (T93.setTop (mkF m 54 #[.val (.ref x), .val (.ref b), .val (.int (0 : Int32)), .val (.int (1 : Int32)), .val .null, .val (.ref u)] [(.ref u), (.ref x)]))
  refine g_putF S93 (w25 hw) Via.refl F98 A93 (Or.inr ⟨(w21 hw), rfl, hnm⟩) (w6 hw) (ty := (.array .byte)) (v' := (.ref u)) (by decide) rfl rfl na sg93 (hb hby dW41_54) ?_
  intro T99 h99 S99 K99 W99 A99 F99 sg99
  have sf100 := Safe.keep K99 (sfS sg93 sf0) S93.chv sg93
  have F101 := F93.other W99 (Or.inr (slot_ne (Or.inr (w22 hw)) (Or.inr (w21 hw)) (by decide) (t := .byte) (t' := (.array .byte)) (by decide) (by decide)))
  show Go p e below _ (T99.setTop (mkF m 57 #[.val (.ref x), .val (.ref b), .val (.int (0 : Int32)), .val (.int (1 : Int32)), .val .null, .val (.ref u)] []))
  show Go p e below _ (T99.setTop (mkF m 57 #[.val (.ref x), .val (.ref b), .val (.int (0 : Int32)), .val (.int (1 : Int32)), .val .null, .val (.ref u)] []))
  have KA102 : Keep h h99 [x] := ((((Keep.refl h [x]).ext Eu).trans K93 (fun y hy => Or.inl hy)).trans K99 (fun y hy => Or.inl hy))
  have F103 := Vu.keep K93 (ninS neu nin0)
  have F104 := F103.keep K99 (ninS neu nin0)
  exact g_ret S99 (hb hby dW41_57) hret ⟨rfl, KA102, u, ku, 1, _, _, A99, F99, F101, F104, Or.inr ⟨rfl, rfl, rfl, own_ex1 hwd⟩, (faS rc0 (fa0)), (Nat.le_of_ble_eq_true rfl)⟩
theorem dW11_0 : decode jdk_42_method_3_code 0 = .ok (.aload_n 0, 1) := by decide +kernel
theorem dW11_1 : decode jdk_42_method_3_code 1 = .ok (.aload_n 1, 1) := by decide +kernel
theorem dW11_2 : decode jdk_42_method_3_code 2 = .ok (.iconst 0, 1) := by decide +kernel
theorem dW11_3 : decode jdk_42_method_3_code 3 = .ok (.aload_n 1, 1) := by decide +kernel
theorem dW11_4 : decode jdk_42_method_3_code 4 = .ok (.arraylength, 1) := by decide +kernel
theorem dW11_5 : decode jdk_42_method_3_code 5 = .ok (.aconst_null, 1) := by decide +kernel
theorem dW11_6 : decode jdk_42_method_3_code 6 = .ok (.invokespecial 27, 3) := by decide +kernel
theorem dW11_9 : decode jdk_42_method_3_code 9 = .ok (.return_, 1) := by decide +kernel
set_option maxRecDepth 65536 in
set_option maxHeartbeats 40000000 in
theorem rmW11 {l : Launch} {Z : State} {a0 : Array Value} {n0 : Nat} (X : Ctx Z a0) {x b : Addr} {kb : ClassId} {c0 : Int32} {v0 c0_ dv : Value} (na : n0 ≤ x) {h : Heap} (hO : Old Z n0 h) (E : Exa Z h x ST) (Fv : Fld Z h x ST "value" "[B" v0) (Fc : Fld Z h x ST "coder" "B" c0_) (Vb : Arv Z h b kb .char (1 : Int32) [(.int c0)] dv) (rc0 : ¬ c0 < 0 ∧ ¬ (65535 : Int32) < c0) (hwd : (255 : Int32) < c0) :
    Ctr l Z EL1 n0 (⟨"java/lang/String", "<init>", "([C)V"⟩ : MethodName) jdk_42_method_3_code 2 none ({ frames := 5, cells := 2, slots := 3, locals := 82 } : Room) #[(.ref x), (.ref b)] h [x] (fun v h' => v = none ∧ Keep h h' [x] ∧ StrF Z h' x [c0]) := by
  have hw := X.hw
  obtain ⟨z1, hz1, hz2⟩ := X.2.2.1
  refine Ctr.intro (a0 := a0) (plainFor_of_name pn1) hO X.ew ?_
  intro p e s m below meth c T0 V0 S0 hby hml hret hnm hsf
  rw [ef8]
  refine s_aloadN S0 (hb hby dW11_0) rfl rfl (pc' := 1) rfl ?_
  refine s_aloadN S0 (hb hby dW11_1) rfl rfl (pc' := 2) rfl ?_
  refine s_iconst S0 (hb hby dW11_2) (v := (0 : Int32)) rfl (pc' := 3) rfl ?_
  refine s_aloadN S0 (hb hby dW11_3) rfl rfl (pc' := 4) rfl ?_
  refine g_len S0 Vb (hb hby dW11_4) ?_
  show Go p e below _ (T0.setTop (mkF m 5 #[.val (.ref x), .val (.ref b)] [(.int (1 : Int32)), (.int (0 : Int32)), (.ref b), (.ref x)]))
  refine s_null S0 (hb hby dW11_5) (pc' := 6) rfl ?_
  show Go p e below _ (T0.setTop (mkF m 6 #[.val (.ref x), .val (.ref b)] [.null, (.int (1 : Int32)), (.int (0 : Int32)), (.ref b), (.ref x)]))
  refine g_special S0 (rmW41 X na S0.old E Fv Fc Vb rc0 hwd) (sf1 E.lt (hsf x List.mem_cons_self)) rfl (w12 hw) (w13 hw) (w7 hw) (w15 hw) (by decide) (hb hby dW11_6) (by rw [hml]; rfl) x [(.ref b), (.int (0 : Int32)), (.int (1 : Int32)), .null] (lenOf pd7 rfl) rfl rfl (Nat.le_of_ble_eq_true rfl) (Nat.le_of_ble_eq_true rfl) (Nat.le_of_ble_eq_true rfl) (Nat.le_of_ble_eq_true rfl) ?_
  intro v105 T105 V105 h105 S105 C105 q105
  obtain ⟨rfl, K6, F6⟩ := q105
  show Go p e below _ (T105.setTop (mkF m 9 #[.val (.ref x), .val (.ref b)] []))
  exact g_ret S105 (hb hby dW11_9) hret ⟨rfl, K6, F6⟩
theorem dNL2_0 : decode jdk_52_method_3_code 0 = .ok (.iload_n 0, 1) := by decide +kernel
theorem dNL2_1 : decode jdk_52_method_3_code 1 = .ok (.ifCond .ge 11, 3) := by decide +kernel
theorem dNL2_12 : decode jdk_52_method_3_code 12 = .ok (.iload_n 0, 1) := by decide +kernel
theorem dNL2_13 : decode jdk_52_method_3_code 13 = .ok (.ldc 20, 2) := by decide +kernel
theorem dNL2_15 : decode jdk_52_method_3_code 15 = .ok (.if_icmp .lt 40, 3) := by decide +kernel
theorem dNL2_55 : decode jdk_52_method_3_code 55 = .ok (.iload_n 0, 1) := by decide +kernel
theorem dNL2_56 : decode jdk_52_method_3_code 56 = .ok (.iconst 1, 1) := by decide +kernel
theorem dNL2_57 : decode jdk_52_method_3_code 57 = .ok (.ishl, 1) := by decide +kernel
theorem dNL2_58 : decode jdk_52_method_3_code 58 = .ok (.ireturn, 1) := by decide +kernel
set_option maxRecDepth 65536 in
set_option maxHeartbeats 40000000 in
theorem rmNL2 {l : Launch} {Z : State} {a0 : Array Value} {n0 : Nat} (X : Ctx Z a0)  {h : Heap} (hO : Old Z n0 h)  :
    Ctr l Z EL1 n0 (⟨"java/lang/StringUTF16", "newBytesLength", "(I)I"⟩ : MethodName) jdk_52_method_3_code 1 (some .int) ({ frames := 0, cells := 0, slots := 0, locals := 0 } : Room) #[(.int (2 : Int32))] h [] (fun v h' => v = some (.int (4 : Int32)) ∧ h' = h) := by
  have hw := X.hw
  obtain ⟨z1, hz1, hz2⟩ := X.2.2.1
  refine Ctr.intro (a0 := a0) (plainFor_of_name pn0) hO X.ew ?_
  intro p e s m below meth c T0 V0 S0 hby hml hret hnm hsf
  rw [ef3]
  refine s_iloadN S0 (hb hby dNL2_0) rfl (pc' := 1) rfl ?_
  refine s_ifY S0 (hb hby dNL2_1) (by decide) (by decide) (pcT := 12) (by decide) ?_
  refine s_iloadN S0 (hb hby dNL2_12) rfl (pc' := 13) rfl ?_
  refine g_ldcI S0 (w93 hw) (hb hby dNL2_13) ?_
  show Go p e below _ (T0.setTop (mkF m 15 #[.val (.int (2 : Int32))] [(.int (1073741823 : Int32)), (.int (2 : Int32))]))
  refine s_icmpY S0 (hb hby dNL2_15) (by decide) (by decide) (pcT := 55) (by decide) ?_
  refine s_iloadN S0 (hb hby dNL2_55) rfl (pc' := 56) rfl ?_
  refine s_iconst S0 (hb hby dNL2_56) (v := (1 : Int32)) rfl (pc' := 57) rfl ?_
  refine s_ishl S0 (hb hby dNL2_57) (z := (4 : Int32)) (by decide) (pc' := 58) rfl ?_
  exact g_iret S0 (hb hby dNL2_58) hret ⟨rfl, rfl⟩
theorem dNB2_0 : decode jdk_52_method_2_code 0 = .ok (.iload_n 0, 1) := by decide +kernel
theorem dNB2_1 : decode jdk_52_method_2_code 1 = .ok (.invokestatic 11, 3) := by decide +kernel
theorem dNB2_4 : decode jdk_52_method_2_code 4 = .ok (.newarray .byte, 2) := by decide +kernel
theorem dNB2_6 : decode jdk_52_method_2_code 6 = .ok (.areturn, 1) := by decide +kernel
set_option maxRecDepth 65536 in
set_option maxHeartbeats 40000000 in
theorem rmNB2 {l : Launch} {Z : State} {a0 : Array Value} {n0 : Nat} (X : Ctx Z a0)  {h : Heap} (hO : Old Z n0 h)  :
    CtrV l Z EL1 n0 (⟨"java/lang/StringUTF16", "newBytesFor", "(I)[B"⟩ : MethodName) jdk_52_method_2_code 1 (some (.array .byte)) ({ frames := 1, cells := 1, slots := 4, locals := 12 } : Room) #[(.int (2 : Int32))] h [] (fun v h' vm => ∃ u ku, v = some (.ref u) ∧ Ext h h' ∧ h.size ≤ u ∧ u < h'.size ∧ n0 ≤ u ∧ Safe Z EL1 vm h' u ∧ Arv Z h' u ku .byte (4 : Int32) [(.int (0 : Int32)), (.int (0 : Int32)), (.int (0 : Int32)), (.int (0 : Int32))] (.int (0 : Int32))) := by
  have hw := X.hw
  obtain ⟨z1, hz1, hz2⟩ := X.2.2.1
  refine CtrV.intro (a0 := a0) (plainFor_of_name pn0) hO X.ew ?_
  intro p e s m below meth c T0 V0 S0 hby hml hret hnm hsf
  rw [ef3]
  refine s_iloadN S0 (hb hby dNB2_0) rfl (pc' := 1) rfl ?_
  show Go p e below _ (T0.setTop (mkF m 1 #[.val (.int (2 : Int32))] [(.int (2 : Int32))]))
  refine g_static S0 (rmNL2 X S0.old) (fun _ q => nomatch q) (w90 hw) (w91 hw) (w44 hw) (w92 hw) (by decide) (hb hby dNB2_1) (by rw [hml]; rfl) [(.int (2 : Int32))] (lenOf pd0 rfl) rfl rfl (Nat.le_of_ble_eq_true rfl) (Nat.le_of_ble_eq_true rfl) (Nat.le_of_ble_eq_true rfl) (Nat.le_of_ble_eq_true rfl) ?_
  intro v106 T106 V106 h106 S106 C106 q106
  obtain ⟨rfl, rfl⟩ := q106
  show Go p e below _ (T106.setTop (mkF m 4 #[.val (.int (2 : Int32))] [(.int (4 : Int32))]))
  refine g_newarr (aty := .byte) S106 (w20 hw) (hb hby dNB2_4) (by decide) (cap := 4) (by decide) (by decide) (Nat.le_of_ble_eq_true rfl) (Nat.le_of_ble_eq_true rfl) ?_
  intro T107 h107 b107 kc107 S107 E107 fr107 lt107 na107 sf107 A107
  have V107 : Arv Z h107 b107 kc107 .byte (4 : Int32) [(.int (0 : Int32)), (.int (0 : Int32)), (.int (0 : Int32)), (.int (0 : Int32))] (.int (0 : Int32)) := A107 4
  show Go p e below _ (T107.setTop (mkF m 6 #[.val (.int (2 : Int32))] [(.ref b107)]))
  show Go p e below _ (T107.setTop (mkF m 6 #[.val (.int (2 : Int32))] [(.ref b107)]))
  exact g_aretV S107 (hb hby dNB2_6) hret rfl rfl rfl (fun sfx => ⟨b107, kc107, rfl, E107, fr107, lt107, na107, sfx _ lt107 sf107, V107⟩)
theorem dT2_0 : decode jdk_52_method_14_code 0 = .ok (.iload_n 2, 1) := by decide +kernel
theorem dT2_1 : decode jdk_52_method_14_code 1 = .ok (.invokestatic 107, 3) := by decide +kernel
theorem dT2_4 : decode jdk_52_method_14_code 4 = .ok (.astore_n 3, 1) := by decide +kernel
theorem dT2_5 : decode jdk_52_method_14_code 5 = .ok (.iconst 0, 1) := by decide +kernel
theorem dT2_6 : decode jdk_52_method_14_code 6 = .ok (.istore 4, 2) := by decide +kernel
theorem dT2_8 : decode jdk_52_method_14_code 8 = .ok (.iload 4, 2) := by decide +kernel
theorem dT2_10 : decode jdk_52_method_14_code 10 = .ok (.iload_n 2, 1) := by decide +kernel
theorem dT2_11 : decode jdk_52_method_14_code 11 = .ok (.if_icmp .ge 21, 3) := by decide +kernel
theorem dT2_14 : decode jdk_52_method_14_code 14 = .ok (.aload_n 3, 1) := by decide +kernel
theorem dT2_15 : decode jdk_52_method_14_code 15 = .ok (.iload 4, 2) := by decide +kernel
theorem dT2_17 : decode jdk_52_method_14_code 17 = .ok (.aload_n 0, 1) := by decide +kernel
theorem dT2_18 : decode jdk_52_method_14_code 18 = .ok (.iload_n 1, 1) := by decide +kernel
theorem dT2_19 : decode jdk_52_method_14_code 19 = .ok (.caload, 1) := by decide +kernel
theorem dT2_20 : decode jdk_52_method_14_code 20 = .ok (.invokestatic 111, 3) := by decide +kernel
theorem dT2_23 : decode jdk_52_method_14_code 23 = .ok (.iinc 1 1, 3) := by decide +kernel
theorem dT2_26 : decode jdk_52_method_14_code 26 = .ok (.iinc 4 1, 3) := by decide +kernel
theorem dT2_29 : decode jdk_52_method_14_code 29 = .ok (.goto (-21), 3) := by decide +kernel
theorem dT2_32 : decode jdk_52_method_14_code 32 = .ok (.aload_n 3, 1) := by decide +kernel
theorem dT2_33 : decode jdk_52_method_14_code 33 = .ok (.areturn, 1) := by decide +kernel
set_option maxRecDepth 65536 in
set_option maxHeartbeats 40000000 in
theorem rmT2 {l : Launch} {Z : State} {a0 : Array Value} {n0 : Nat} (X : Ctx Z a0) {a : Addr} {ka : ClassId} {c0 c1 : Int32} {dv : Value} {h : Heap} (hO : Old Z n0 h) (Va : Arv Z h a ka .char (2 : Int32) [(.int c0), (.int c1)] dv) :
    Ctr l Z EL1 n0 (⟨"java/lang/StringUTF16", "toBytes", "([CII)[B"⟩ : MethodName) jdk_52_method_14_code 5 (some (.array .byte)) ({ frames := 2, cells := 1, slots := 4, locals := 28 } : Room) #[(.ref a), (.int (0 : Int32)), (.int (2 : Int32))] h [] (fun v h' => ∃ u ku, v = some (.ref u) ∧ Ext h h' ∧ Arv Z h' u ku .byte (4 : Int32) [(.int (StrChars.lo8 c0)), (.int (StrChars.hi8 c0)), (.int (StrChars.lo8 c1)), (.int (StrChars.hi8 c1))] (.int (0 : Int32))) := by
  have hw := X.hw
  obtain ⟨z1, hz1, hz2⟩ := X.2.2.1
  refine Ctr.intro (a0 := a0) (plainFor_of_name pn0) hO X.ew ?_
  intro p e s m below meth c T0 V0 S0 hby hml hret hnm hsf
  rw [ef4]
  refine s_iloadN S0 (hb hby dT2_0) rfl (pc' := 1) rfl ?_
  show Go p e below _ (T0.setTop (mkF m 1 #[.val (.ref a), .val (.int (0 : Int32)), .val (.int (2 : Int32)), .unset, .unset] [(.int (2 : Int32))]))
  refine g_static S0 (rmNB2 X S0.old) (fun _ q => nomatch q) (w87 hw) (w88 hw) (w44 hw) (w89 hw) (by decide) (hb hby dT2_1) (by rw [hml]; rfl) [(.int (2 : Int32))] (lenOf pd1 rfl) rfl rfl (Nat.le_of_ble_eq_true rfl) (Nat.le_of_ble_eq_true rfl) (Nat.le_of_ble_eq_true rfl) (Nat.le_of_ble_eq_true rfl) ?_
  intro v108 T108 V108 h108 S108 C108 q108
  obtain ⟨u, ku, rfl, Eu, fru, ltu, nau, sfu, Vu⟩ := q108
  show Go p e below _ (T108.setTop (mkF m 4 #[.val (.ref a), .val (.int (0 : Int32)), .val (.int (2 : Int32)), .unset, .unset] [(.ref u)]))
  refine s_astoreN S108 (hb hby dT2_4) rfl (L' := #[.val (.ref a), .val (.int (0 : Int32)), .val (.int (2 : Int32)), .val (.ref u), .unset]) rfl (pc' := 5) rfl ?_
  refine s_iconst S108 (hb hby dT2_5) (v := (0 : Int32)) rfl (pc' := 6) rfl ?_
  refine s_istore S108 (hb hby dT2_6) (L' := #[.val (.ref a), .val (.int (0 : Int32)), .val (.int (2 : Int32)), .val (.ref u), .val (.int (0 : Int32))]) rfl (pc' := 8) rfl ?_
  refine s_iload S108 (hb hby dT2_8) rfl (pc' := 10) rfl ?_
  refine s_iloadN S108 (hb hby dT2_10) rfl (pc' := 11) rfl ?_
  refine s_icmpN S108 (hb hby dT2_11) (by decide) (pc' := 14) rfl ?_
  refine s_aloadN S108 (hb hby dT2_14) rfl rfl (pc' := 15) rfl ?_
  refine s_iload S108 (hb hby dT2_15) rfl (pc' := 17) rfl ?_
  refine s_aloadN S108 (hb hby dT2_17) rfl rfl (pc' := 18) rfl ?_
  refine s_iloadN S108 (hb hby dT2_18) rfl (pc' := 19) rfl ?_
  have Va109 := Va.ext Eu
  refine g_caload S108 Va109 ⟨by decide, by decide⟩ (x := c0) rfl (hb hby dT2_19) ?_
  show Go p e below _ (T108.setTop (mkF m 20 #[.val (.ref a), .val (.int (0 : Int32)), .val (.int (2 : Int32)), .val (.ref u), .val (.int (0 : Int32))] [(.int c0), (.int (0 : Int32)), (.ref u)]))
  show Go p e below _ (T108.setTop (mkF m 20 #[.val (.ref a), .val (.int (0 : Int32)), .val (.int (2 : Int32)), .val (.ref u), .val (.int (0 : Int32))] [(.int c0), (.int (0 : Int32)), (.ref u)]))
  refine g_static S108 (rmPC20 X c0 nau S108.old Vu) (sf1 (Vu).lt sfu) (w94 hw) (w95 hw) (w44 hw) (w96 hw) (by decide) (hb hby dT2_20) (by rw [hml]; rfl) [(.ref u), (.int (0 : Int32)), (.int c0)] (lenOf pd2 rfl) rfl rfl (Nat.le_of_ble_eq_true rfl) (Nat.le_of_ble_eq_true rfl) (Nat.le_of_ble_eq_true rfl) (Nat.le_of_ble_eq_true rfl) ?_
  intro v111 T111 V111 h111 S111 C111 q111
  obtain ⟨rfl, Kk110, Vk110⟩ := q111
  have sfk110 := C111.safe (Vu).lt sfu
  show Go p e below _ (T111.setTop (mkF m 23 #[.val (.ref a), .val (.int (0 : Int32)), .val (.int (2 : Int32)), .val (.ref u), .val (.int (0 : Int32))] []))
  refine s_iinc S111 (hb hby dT2_23) rfl (z := (1 : Int32)) rfl (L' := #[.val (.ref a), .val (.int (1 : Int32)), .val (.int (2 : Int32)), .val (.ref u), .val (.int (0 : Int32))]) rfl (pc' := 26) rfl ?_
  refine s_iinc S111 (hb hby dT2_26) rfl (z := (1 : Int32)) rfl (L' := #[.val (.ref a), .val (.int (1 : Int32)), .val (.int (2 : Int32)), .val (.ref u), .val (.int (1 : Int32))]) rfl (pc' := 29) rfl ?_
  refine s_goto S111 (hb hby dT2_29) (by decide) (pcT := 8) (by decide) ?_
  refine s_iload S111 (hb hby dT2_8) rfl (pc' := 10) rfl ?_
  refine s_iloadN S111 (hb hby dT2_10) rfl (pc' := 11) rfl ?_
  refine s_icmpN S111 (hb hby dT2_11) (by decide) (pc' := 14) rfl ?_
  refine s_aloadN S111 (hb hby dT2_14) rfl rfl (pc' := 15) rfl ?_
  refine s_iload S111 (hb hby dT2_15) rfl (pc' := 17) rfl ?_
  refine s_aloadN S111 (hb hby dT2_17) rfl rfl (pc' := 18) rfl ?_
  refine s_iloadN S111 (hb hby dT2_18) rfl (pc' := 19) rfl ?_
  have X112 : Ext h h111 := ext_keep1 Eu Kk110 fru
  have Va113 := Va.ext X112
  refine g_caload S111 Va113 ⟨by decide, by decide⟩ (x := c1) rfl (hb hby dT2_19) ?_
  show Go p e below _ (T111.setTop (mkF m 20 #[.val (.ref a), .val (.int (1 : Int32)), .val (.int (2 : Int32)), .val (.ref u), .val (.int (1 : Int32))] [(.int c1), (.int (1 : Int32)), (.ref u)]))
  show Go p e below _ (T111.setTop (mkF m 20 #[.val (.ref a), .val (.int (1 : Int32)), .val (.int (2 : Int32)), .val (.ref u), .val (.int (1 : Int32))] [(.int c1), (.int (1 : Int32)), (.ref u)]))
  refine g_static S111 (rmPC21 X c1 nau S111.old Vk110) (sf1 (Vk110).lt sfk110) (w94 hw) (w95 hw) (w44 hw) (w96 hw) (by decide) (hb hby dT2_20) (by rw [hml]; rfl) [(.ref u), (.int (1 : Int32)), (.int c1)] (lenOf pd2 rfl) rfl rfl (Nat.le_of_ble_eq_true rfl) (Nat.le_of_ble_eq_true rfl) (Nat.le_of_ble_eq_true rfl) (Nat.le_of_ble_eq_true rfl) ?_
  intro v115 T115 V115 h115 S115 C115 q115
  obtain ⟨rfl, Kk114, Vk114⟩ := q115
  have sfk114 := C115.safe (Vk110).lt sfk110
  show Go p e below _ (T115.setTop (mkF m 23 #[.val (.ref a), .val (.int (1 : Int32)), .val (.int (2 : Int32)), .val (.ref u), .val (.int (1 : Int32))] []))
  refine s_iinc S115 (hb hby dT2_23) rfl (z := (2 : Int32)) rfl (L' := #[.val (.ref a), .val (.int (2 : Int32)), .val (.int (2 : Int32)), .val (.ref u), .val (.int (1 : Int32))]) rfl (pc' := 26) rfl ?_
  refine s_iinc S115 (hb hby dT2_26) rfl (z := (2 : Int32)) rfl (L' := #[.val (.ref a), .val (.int (2 : Int32)), .val (.int (2 : Int32)), .val (.ref u), .val (.int (2 : Int32))]) rfl (pc' := 29) rfl ?_
  refine s_goto S115 (hb hby dT2_29) (by decide) (pcT := 8) (by decide) ?_
  refine s_iload S115 (hb hby dT2_8) rfl (pc' := 10) rfl ?_
  refine s_iloadN S115 (hb hby dT2_10) rfl (pc' := 11) rfl ?_
  refine s_icmpY S115 (hb hby dT2_11) (by decide) (by decide) (pcT := 32) (by decide) ?_
  refine s_aloadN S115 (hb hby dT2_32) rfl rfl (pc' := 33) rfl ?_
  show Go p e below _ (T115.setTop (mkF m 33 #[.val (.ref a), .val (.int (2 : Int32)), .val (.int (2 : Int32)), .val (.ref u), .val (.int (2 : Int32))] [(.ref u)]))
  have X116 : Ext h h115 := ext_keep1 X112 Kk114 fru
  exact g_aret S115 (hb hby dT2_33) hret rfl rfl rfl ⟨u, ku, rfl, X116, Vk114⟩
theorem dC52_0 : decode jdk_52_method_21_code 0 = .ok (.iconst 0, 1) := by decide +kernel
theorem dC52_1 : decode jdk_52_method_21_code 1 = .ok (.istore 5, 2) := by decide +kernel
theorem dC52_3 : decode jdk_52_method_21_code 3 = .ok (.iload 5, 2) := by decide +kernel
theorem dC52_5 : decode jdk_52_method_21_code 5 = .ok (.iload 4, 2) := by decide +kernel
theorem dC52_7 : decode jdk_52_method_21_code 7 = .ok (.if_icmp .ge 37, 3) := by decide +kernel
theorem dC52_10 : decode jdk_52_method_21_code 10 = .ok (.aload_n 0, 1) := by decide +kernel
theorem dC52_11 : decode jdk_52_method_21_code 11 = .ok (.iload_n 1, 1) := by decide +kernel
theorem dC52_12 : decode jdk_52_method_21_code 12 = .ok (.caload, 1) := by decide +kernel
theorem dC52_13 : decode jdk_52_method_21_code 13 = .ok (.istore 6, 2) := by decide +kernel
theorem dC52_15 : decode jdk_52_method_21_code 15 = .ok (.iload 6, 2) := by decide +kernel
theorem dC52_17 : decode jdk_52_method_21_code 17 = .ok (.sipush 255, 3) := by decide +kernel
theorem dC52_20 : decode jdk_52_method_21_code 20 = .ok (.if_icmp .le 6, 3) := by decide +kernel
theorem dC52_23 : decode jdk_52_method_21_code 23 = .ok (.iload 5, 2) := by decide +kernel
theorem dC52_25 : decode jdk_52_method_21_code 25 = .ok (.ireturn, 1) := by decide +kernel
theorem dC52_26 : decode jdk_52_method_21_code 26 = .ok (.aload_n 2, 1) := by decide +kernel
theorem dC52_27 : decode jdk_52_method_21_code 27 = .ok (.iload_n 3, 1) := by decide +kernel
theorem dC52_28 : decode jdk_52_method_21_code 28 = .ok (.iload 6, 2) := by decide +kernel
theorem dC52_30 : decode jdk_52_method_21_code 30 = .ok (.i2b, 1) := by decide +kernel
theorem dC52_31 : decode jdk_52_method_21_code 31 = .ok (.bastore, 1) := by decide +kernel
theorem dC52_32 : decode jdk_52_method_21_code 32 = .ok (.iinc 1 1, 3) := by decide +kernel
theorem dC52_35 : decode jdk_52_method_21_code 35 = .ok (.iinc 3 1, 3) := by decide +kernel
theorem dC52_38 : decode jdk_52_method_21_code 38 = .ok (.iinc 5 1, 3) := by decide +kernel
theorem dC52_41 : decode jdk_52_method_21_code 41 = .ok (.goto (-38), 3) := by decide +kernel
set_option maxRecDepth 65536 in
set_option maxHeartbeats 40000000 in
theorem rmC52 {l : Launch} {Z : State} {a0 : Array Value} {n0 : Nat} (X : Ctx Z a0) {a b : Addr} {ka kb : ClassId} {c0 c1 : Int32} {v0 v1 dv : Value} (na : n0 ≤ b) (hab : a ≠ b) {h : Heap} (hO : Old Z n0 h) (Va : Arv Z h a ka .char (2 : Int32) [(.int c0), (.int c1)] dv) (Vb : Arv Z h b kb .byte (2 : Int32) [v0, v1] (.int (0 : Int32))) (hwd : (255 : Int32) < c0 ∨ (255 : Int32) < c1) :
    Ctr l Z EL1 n0 (⟨"java/lang/StringUTF16", "compress", "([CI[BII)I"⟩ : MethodName) jdk_52_method_21_code 7 (some .int) ({ frames := 0, cells := 0, slots := 0, locals := 0 } : Room) #[(.ref a), (.int (0 : Int32)), (.ref b), (.int (0 : Int32)), (.int (2 : Int32))] h [b] (fun v h' => ((v = some (.int (0 : Int32)) ∧ (255 : Int32) < c0) ∨ (v = some (.int (1 : Int32)) ∧ (255 : Int32) < c1)) ∧ Keep h h' [b]) := by
  have hw := X.hw
  obtain ⟨z1, hz1, hz2⟩ := X.2.2.1
  refine Ctr.intro (a0 := a0) (plainFor_of_name pn0) hO X.ew ?_
  intro p e s m below meth c T0 V0 S0 hby hml hret hnm hsf
  rw [ef5]
  refine s_iconst S0 (hb hby dC52_0) (v := (0 : Int32)) rfl (pc' := 1) rfl ?_
  refine s_istore S0 (hb hby dC52_1) (L' := #[.val (.ref a), .val (.int (0 : Int32)), .val (.ref b), .val (.int (0 : Int32)), .val (.int (2 : Int32)), .val (.int (0 : Int32)), .unset]) rfl (pc' := 3) rfl ?_
  refine s_iload S0 (hb hby dC52_3) rfl (pc' := 5) rfl ?_
  refine s_iload S0 (hb hby dC52_5) rfl (pc' := 7) rfl ?_
  refine s_icmpN S0 (hb hby dC52_7) (by decide) (pc' := 10) rfl ?_
  refine s_aloadN S0 (hb hby dC52_10) rfl rfl (pc' := 11) rfl ?_
  refine s_iloadN S0 (hb hby dC52_11) rfl (pc' := 12) rfl ?_
  refine g_caload S0 Va ⟨by decide, by decide⟩ (x := c0) rfl (hb hby dC52_12) ?_
  show Go p e below _ (T0.setTop (mkF m 13 #[.val (.ref a), .val (.int (0 : Int32)), .val (.ref b), .val (.int (0 : Int32)), .val (.int (2 : Int32)), .val (.int (0 : Int32)), .unset] [(.int c0)]))
  refine s_istore S0 (hb hby dC52_13) (L' := #[.val (.ref a), .val (.int (0 : Int32)), .val (.ref b), .val (.int (0 : Int32)), .val (.int (2 : Int32)), .val (.int (0 : Int32)), .val (.int c0)]) rfl (pc' := 15) rfl ?_
  refine s_iload S0 (hb hby dC52_15) rfl (pc' := 17) rfl ?_
  refine s_sipush S0 (hb hby dC52_17) (v := (255 : Int32)) rfl (pc' := 20) rfl ?_
  refine g_icmp S0 (hb hby dC52_20) (by decide) (pcT := 26) (by decide) (fun q => ?_) (fun q => ?_)
  · have hc20_117 : ¬ (255 : Int32) < c0 := icT_le q
    show Go p e below _ (T0.setTop (mkF m 26 #[.val (.ref a), .val (.int (0 : Int32)), .val (.ref b), .val (.int (0 : Int32)), .val (.int (2 : Int32)), .val (.int (0 : Int32)), .val (.int c0)] []))
    refine s_aloadN S0 (hb hby dC52_26) rfl rfl (pc' := 27) rfl ?_
    refine s_iloadN S0 (hb hby dC52_27) rfl (pc' := 28) rfl ?_
    refine s_iload S0 (hb hby dC52_28) rfl (pc' := 30) rfl ?_
    refine s_i2b S0 (hb hby dC52_30) (z := (c0.toInt8.toInt32)) rfl (pc' := 31) rfl ?_
    show Go p e below _ (T0.setTop (mkF m 31 #[.val (.ref a), .val (.int (0 : Int32)), .val (.ref b), .val (.int (0 : Int32)), .val (.int (2 : Int32)), .val (.int (0 : Int32)), .val (.int c0)] [(.int (c0.toInt8.toInt32)), (.int (0 : Int32)), (.ref b)]))
    refine g_bastore S0 Vb ⟨by decide, by decide⟩ 0 rfl (Nat.le_of_ble_eq_true rfl) na (hsf b List.mem_cons_self) (hb hby dC52_31) ?_
    intro T118 h118 S118 K118 V118 sg118
    have sf119 := Safe.keep K118 (sfS (hsf b List.mem_cons_self) sf0) S0.chv (hsf b List.mem_cons_self)
    rw [own_nb c0] at V118
    have V118 : Arv Z h118 b kb .byte (2 : Int32) [(.int (StrChars.lo8 c0)), v1] (.int (0 : Int32)) := V118
    show Go p e below _ (T118.setTop (mkF m 32 #[.val (.ref a), .val (.int (0 : Int32)), .val (.ref b), .val (.int (0 : Int32)), .val (.int (2 : Int32)), .val (.int (0 : Int32)), .val (.int c0)] []))
    refine s_iinc S118 (hb hby dC52_32) rfl (z := (1 : Int32)) rfl (L' := #[.val (.ref a), .val (.int (1 : Int32)), .val (.ref b), .val (.int (0 : Int32)), .val (.int (2 : Int32)), .val (.int (0 : Int32)), .val (.int c0)]) rfl (pc' := 35) rfl ?_
    refine s_iinc S118 (hb hby dC52_35) rfl (z := (1 : Int32)) rfl (L' := #[.val (.ref a), .val (.int (1 : Int32)), .val (.ref b), .val (.int (1 : Int32)), .val (.int (2 : Int32)), .val (.int (0 : Int32)), .val (.int c0)]) rfl (pc' := 38) rfl ?_
    refine s_iinc S118 (hb hby dC52_38) rfl (z := (1 : Int32)) rfl (L' := #[.val (.ref a), .val (.int (1 : Int32)), .val (.ref b), .val (.int (1 : Int32)), .val (.int (2 : Int32)), .val (.int (1 : Int32)), .val (.int c0)]) rfl (pc' := 41) rfl ?_
    refine s_goto S118 (hb hby dC52_41) (by decide) (pcT := 3) (by decide) ?_
    refine s_iload S118 (hb hby dC52_3) rfl (pc' := 5) rfl ?_
    refine s_iload S118 (hb hby dC52_5) rfl (pc' := 7) rfl ?_
    refine s_icmpN S118 (hb hby dC52_7) (by decide) (pc' := 10) rfl ?_
    refine s_aloadN S118 (hb hby dC52_10) rfl rfl (pc' := 11) rfl ?_
    refine s_iloadN S118 (hb hby dC52_11) rfl (pc' := 12) rfl ?_
    have F120 := Va.keep K118 (ninS hab nin0)
    refine g_caload S118 F120 ⟨by decide, by decide⟩ (x := c1) rfl (hb hby dC52_12) ?_
    show Go p e below _ (T118.setTop (mkF m 13 #[.val (.ref a), .val (.int (1 : Int32)), .val (.ref b), .val (.int (1 : Int32)), .val (.int (2 : Int32)), .val (.int (1 : Int32)), .val (.int c0)] [(.int c1)]))
    refine s_istore S118 (hb hby dC52_13) (L' := #[.val (.ref a), .val (.int (1 : Int32)), .val (.ref b), .val (.int (1 : Int32)), .val (.int (2 : Int32)), .val (.int (1 : Int32)), .val (.int c1)]) rfl (pc' := 15) rfl ?_
    refine s_iload S118 (hb hby dC52_15) rfl (pc' := 17) rfl ?_
    refine s_sipush S118 (hb hby dC52_17) (v := (255 : Int32)) rfl (pc' := 20) rfl ?_
    refine g_icmp S118 (hb hby dC52_20) (by decide) (pcT := 26) (by decide) (fun q => ?_) (fun q => ?_)
    · have hc20_121 : ¬ (255 : Int32) < c1 := icT_le q
      show Go p e below _ (T118.setTop (mkF m 26 #[.val (.ref a), .val (.int (1 : Int32)), .val (.ref b), .val (.int (1 : Int32)), .val (.int (2 : Int32)), .val (.int (1 : Int32)), .val (.int c1)] []))
      refine s_aloadN S118 (hb hby dC52_26) rfl rfl (pc' := 27) rfl ?_
      refine s_iloadN S118 (hb hby dC52_27) rfl (pc' := 28) rfl ?_
      refine s_iload S118 (hb hby dC52_28) rfl (pc' := 30) rfl ?_
      refine s_i2b S118 (hb hby dC52_30) (z := (c1.toInt8.toInt32)) rfl (pc' := 31) rfl ?_
      show Go p e below _ (T118.setTop (mkF m 31 #[.val (.ref a), .val (.int (1 : Int32)), .val (.ref b), .val (.int (1 : Int32)), .val (.int (2 : Int32)), .val (.int (1 : Int32)), .val (.int c1)] [(.int (c1.toInt8.toInt32)), (.int (1 : Int32)), (.ref b)]))
      refine g_bastore S118 V118 ⟨by decide, by decide⟩ 1 rfl (Nat.le_of_ble_eq_true rfl) na sg118 (hb hby dC52_31) ?_
      intro T122 h122 S122 K122 V122 sg122
      have sf123 := Safe.keep K122 (sfS sg118 sf0) S118.chv sg118
      rw [own_nb c1] at V122
      have V122 : Arv Z h122 b kb .byte (2 : Int32) [(.int (StrChars.lo8 c0)), (.int (StrChars.lo8 c1))] (.int (0 : Int32)) := V122
      show Go p e below _ (T122.setTop (mkF m 32 #[.val (.ref a), .val (.int (1 : Int32)), .val (.ref b), .val (.int (1 : Int32)), .val (.int (2 : Int32)), .val (.int (1 : Int32)), .val (.int c1)] []))
      refine s_iinc S122 (hb hby dC52_32) rfl (z := (2 : Int32)) rfl (L' := #[.val (.ref a), .val (.int (2 : Int32)), .val (.ref b), .val (.int (1 : Int32)), .val (.int (2 : Int32)), .val (.int (1 : Int32)), .val (.int c1)]) rfl (pc' := 35) rfl ?_
      refine s_iinc S122 (hb hby dC52_35) rfl (z := (2 : Int32)) rfl (L' := #[.val (.ref a), .val (.int (2 : Int32)), .val (.ref b), .val (.int (2 : Int32)), .val (.int (2 : Int32)), .val (.int (1 : Int32)), .val (.int c1)]) rfl (pc' := 38) rfl ?_
      refine s_iinc S122 (hb hby dC52_38) rfl (z := (2 : Int32)) rfl (L' := #[.val (.ref a), .val (.int (2 : Int32)), .val (.ref b), .val (.int (2 : Int32)), .val (.int (2 : Int32)), .val (.int (2 : Int32)), .val (.int c1)]) rfl (pc' := 41) rfl ?_
      refine s_goto S122 (hb hby dC52_41) (by decide) (pcT := 3) (by decide) ?_
      refine s_iload S122 (hb hby dC52_3) rfl (pc' := 5) rfl ?_
      refine s_iload S122 (hb hby dC52_5) rfl (pc' := 7) rfl ?_
      refine s_icmpY S122 (hb hby dC52_7) (by decide) (by decide) (pcT := 44) (by decide) ?_
      exact absurd hwd (by simp [hc20_117, hc20_121])
    · have hc20_121 : (255 : Int32) < c1 := icF_le q
      show Go p e below _ (T118.setTop (mkF m 23 #[.val (.ref a), .val (.int (1 : Int32)), .val (.ref b), .val (.int (1 : Int32)), .val (.int (2 : Int32)), .val (.int (1 : Int32)), .val (.int c1)] []))
      refine s_iload S118 (hb hby dC52_23) rfl (pc' := 25) rfl ?_
      show Go p e below _ (T118.setTop (mkF m 25 #[.val (.ref a), .val (.int (1 : Int32)), .val (.ref b), .val (.int (1 : Int32)), .val (.int (2 : Int32)), .val (.int (1 : Int32)), .val (.int c1)] [(.int (1 : Int32))]))
      have KA124 : Keep h h118 [b] := ((Keep.refl h [b]).trans K118 (fun y hy => Or.inl hy))
      exact g_iret S118 (hb hby dC52_25) hret ⟨Or.inr (⟨rfl, hc20_121⟩), KA124⟩
  · have hc20_117 : (255 : Int32) < c0 := icF_le q
    show Go p e below _ (T0.setTop (mkF m 23 #[.val (.ref a), .val (.int (0 : Int32)), .val (.ref b), .val (.int (0 : Int32)), .val (.int (2 : Int32)), .val (.int (0 : Int32)), .val (.int c0)] []))
    refine s_iload S0 (hb hby dC52_23) rfl (pc' := 25) rfl ?_
    show Go p e below _ (T0.setTop (mkF m 25 #[.val (.ref a), .val (.int (0 : Int32)), .val (.ref b), .val (.int (0 : Int32)), .val (.int (2 : Int32)), .val (.int (0 : Int32)), .val (.int c0)] [(.int (0 : Int32))]))
    have KA125 : Keep h h [b] := (Keep.refl h [b])
    exact g_iret S0 (hb hby dC52_25) hret ⟨Or.inl ⟨rfl, hc20_117⟩, KA125⟩
theorem dC32_0 : decode jdk_52_method_16_code 0 = .ok (.iload_n 2, 1) := by decide +kernel
theorem dC32_1 : decode jdk_52_method_16_code 1 = .ok (.newarray .byte, 2) := by decide +kernel
theorem dC32_3 : decode jdk_52_method_16_code 3 = .ok (.astore_n 3, 1) := by decide +kernel
theorem dC32_4 : decode jdk_52_method_16_code 4 = .ok (.aload_n 0, 1) := by decide +kernel
theorem dC32_5 : decode jdk_52_method_16_code 5 = .ok (.iload_n 1, 1) := by decide +kernel
theorem dC32_6 : decode jdk_52_method_16_code 6 = .ok (.aload_n 3, 1) := by decide +kernel
theorem dC32_7 : decode jdk_52_method_16_code 7 = .ok (.iconst 0, 1) := by decide +kernel
theorem dC32_8 : decode jdk_52_method_16_code 8 = .ok (.iload_n 2, 1) := by decide +kernel
theorem dC32_9 : decode jdk_52_method_16_code 9 = .ok (.invokestatic 115, 3) := by decide +kernel
theorem dC32_12 : decode jdk_52_method_16_code 12 = .ok (.istore 4, 2) := by decide +kernel
theorem dC32_14 : decode jdk_52_method_16_code 14 = .ok (.iload 4, 2) := by decide +kernel
theorem dC32_16 : decode jdk_52_method_16_code 16 = .ok (.iload_n 2, 1) := by decide +kernel
theorem dC32_17 : decode jdk_52_method_16_code 17 = .ok (.if_icmp .eq 40, 3) := by decide +kernel
theorem dC32_20 : decode jdk_52_method_16_code 20 = .ok (.aload_n 0, 1) := by decide +kernel
theorem dC32_21 : decode jdk_52_method_16_code 21 = .ok (.iload_n 1, 1) := by decide +kernel
theorem dC32_22 : decode jdk_52_method_16_code 22 = .ok (.iload_n 2, 1) := by decide +kernel
theorem dC32_23 : decode jdk_52_method_16_code 23 = .ok (.invokestatic 119, 3) := by decide +kernel
theorem dC32_26 : decode jdk_52_method_16_code 26 = .ok (.astore 5, 2) := by decide +kernel
theorem dC32_28 : decode jdk_52_method_16_code 28 = .ok (.aload 5, 2) := by decide +kernel
theorem dC32_30 : decode jdk_52_method_16_code 30 = .ok (.iload 4, 2) := by decide +kernel
theorem dC32_32 : decode jdk_52_method_16_code 32 = .ok (.invokestatic 71, 3) := by decide +kernel
theorem dC32_35 : decode jdk_52_method_16_code 35 = .ok (.sipush 255, 3) := by decide +kernel
theorem dC32_38 : decode jdk_52_method_16_code 38 = .ok (.if_icmp .gt 16, 3) := by decide +kernel
theorem dC32_54 : decode jdk_52_method_16_code 54 = .ok (.aload 5, 2) := by decide +kernel
theorem dC32_56 : decode jdk_52_method_16_code 56 = .ok (.areturn, 1) := by decide +kernel
set_option maxRecDepth 65536 in
set_option maxHeartbeats 40000000 in
theorem rmC32 {l : Launch} {Z : State} {a0 : Array Value} {n0 : Nat} (X : Ctx Z a0) {a : Addr} {ka : ClassId} {c0 c1 : Int32} {dv : Value} {h : Heap} (hO : Old Z n0 h) (Va : Arv Z h a ka .char (2 : Int32) [(.int c0), (.int c1)] dv) (rc0 : ¬ c0 < 0 ∧ ¬ (65535 : Int32) < c0) (rc1 : ¬ c1 < 0 ∧ ¬ (65535 : Int32) < c1) (hwd : (255 : Int32) < c0 ∨ (255 : Int32) < c1) :
    Ctr l Z EL1 n0 (⟨"java/lang/StringUTF16", "compress", "([CII)[B"⟩ : MethodName) jdk_52_method_16_code 6 (some (.array .byte)) ({ frames := 3, cells := 2, slots := 6, locals := 47 } : Room) #[(.ref a), (.int (0 : Int32)), (.int (2 : Int32))] h [] (fun v h' => ∃ u ku, v = some (.ref u) ∧ Ext h h' ∧ Arv Z h' u ku .byte (4 : Int32) [(.int (StrChars.lo8 c0)), (.int (StrChars.hi8 c0)), (.int (StrChars.lo8 c1)), (.int (StrChars.hi8 c1))] (.int (0 : Int32))) := by
  have hw := X.hw
  obtain ⟨z1, hz1, hz2⟩ := X.2.2.1
  refine Ctr.intro (a0 := a0) (plainFor_of_name pn0) hO X.ew ?_
  intro p e s m below meth c T0 V0 S0 hby hml hret hnm hsf
  rw [ef6]
  refine s_iloadN S0 (hb hby dC32_0) rfl (pc' := 1) rfl ?_
  refine g_newarr (aty := .byte) S0 (w20 hw) (hb hby dC32_1) (by decide) (cap := 2) (by decide) (by decide) (Nat.le_of_ble_eq_true rfl) (Nat.le_of_ble_eq_true rfl) ?_
  intro T126 h126 b126 kc126 S126 E126 fr126 lt126 na126 sf126 A126
  have V126 : Arv Z h126 b126 kc126 .byte (2 : Int32) [(.int (0 : Int32)), (.int (0 : Int32))] (.int (0 : Int32)) := A126 2
  show Go p e below _ (T126.setTop (mkF m 3 #[.val (.ref a), .val (.int (0 : Int32)), .val (.int (2 : Int32)), .unset, .unset, .unset] [(.ref b126)]))
  refine s_astoreN S126 (hb hby dC32_3) rfl (L' := #[.val (.ref a), .val (.int (0 : Int32)), .val (.int (2 : Int32)), .val (.ref b126), .unset, .unset]) rfl (pc' := 4) rfl ?_
  refine s_aloadN S126 (hb hby dC32_4) rfl rfl (pc' := 5) rfl ?_
  refine s_iloadN S126 (hb hby dC32_5) rfl (pc' := 6) rfl ?_
  refine s_aloadN S126 (hb hby dC32_6) rfl rfl (pc' := 7) rfl ?_
  refine s_iconst S126 (hb hby dC32_7) (v := (0 : Int32)) rfl (pc' := 8) rfl ?_
  refine s_iloadN S126 (hb hby dC32_8) rfl (pc' := 9) rfl ?_
  have Va127 := Va.ext E126
  show Go p e below _ (T126.setTop (mkF m 9 #[.val (.ref a), .val (.int (0 : Int32)), .val (.int (2 : Int32)), .val (.ref b126), .unset, .unset] [(.int (2 : Int32)), (.int (0 : Int32)), (.ref b126), (.int (0 : Int32)), (.ref a)]))
  refine g_static S126 (rmC52 X na126 (arv_kne Va127 V126 (by decide)) S126.old Va127 V126 hwd) (sf1 (V126).lt sf126) (w46 hw) (w47 hw) (w44 hw) (w48 hw) (by decide) (hb hby dC32_9) (by rw [hml]; rfl) [(.ref a), (.int (0 : Int32)), (.ref b126), (.int (0 : Int32)), (.int (2 : Int32))] (lenOf pd3 rfl) rfl rfl (Nat.le_of_ble_eq_true rfl) (Nat.le_of_ble_eq_true rfl) (Nat.le_of_ble_eq_true rfl) (Nat.le_of_ble_eq_true rfl) ?_
  intro v129 T129 V129 h129 S129 C129 q129
  obtain ⟨hq128, Kq128⟩ := q129
  rcases hq128 with ⟨rfl, hq128⟩ | ⟨rfl, hq128⟩
  · skip
    show Go p e below _ (T129.setTop (mkF m 12 #[.val (.ref a), .val (.int (0 : Int32)), .val (.int (2 : Int32)), .val (.ref b126), .unset, .unset] [(.int (0 : Int32))]))
    refine s_istore S129 (hb hby dC32_12) (L' := #[.val (.ref a), .val (.int (0 : Int32)), .val (.int (2 : Int32)), .val (.ref b126), .val (.int (0 : Int32)), .unset]) rfl (pc' := 14) rfl ?_
    refine s_iload S129 (hb hby dC32_14) rfl (pc' := 16) rfl ?_
    refine s_iloadN S129 (hb hby dC32_16) rfl (pc' := 17) rfl ?_
    refine s_icmpN S129 (hb hby dC32_17) (by decide) (pc' := 20) rfl ?_
    refine s_aloadN S129 (hb hby dC32_20) rfl rfl (pc' := 21) rfl ?_
    refine s_iloadN S129 (hb hby dC32_21) rfl (pc' := 22) rfl ?_
    refine s_iloadN S129 (hb hby dC32_22) rfl (pc' := 23) rfl ?_
    have X130 : Ext h h129 := ext_keep1 E126 Kq128 fr126
    have Va131 := Va.ext X130
    show Go p e below _ (T129.setTop (mkF m 23 #[.val (.ref a), .val (.int (0 : Int32)), .val (.int (2 : Int32)), .val (.ref b126), .val (.int (0 : Int32)), .unset] [(.int (2 : Int32)), (.int (0 : Int32)), (.ref a)]))
    refine g_static S129 (rmT2 X S129.old Va131) (fun _ q => nomatch q) (w84 hw) (w85 hw) (w44 hw) (w86 hw) (by decide) (hb hby dC32_23) (by rw [hml]; rfl) [(.ref a), (.int (0 : Int32)), (.int (2 : Int32))] (lenOf pd4 rfl) rfl rfl (Nat.le_of_ble_eq_true rfl) (Nat.le_of_ble_eq_true rfl) (Nat.le_of_ble_eq_true rfl) (Nat.le_of_ble_eq_true rfl) ?_
    intro v132 T132 V132 h132 S132 C132 q132
    obtain ⟨u, ku, rfl, Eu, Vu⟩ := q132
    show Go p e below _ (T132.setTop (mkF m 26 #[.val (.ref a), .val (.int (0 : Int32)), .val (.int (2 : Int32)), .val (.ref b126), .val (.int (0 : Int32)), .unset] [(.ref u)]))
    refine s_astore S132 (hb hby dC32_26) rfl (L' := #[.val (.ref a), .val (.int (0 : Int32)), .val (.int (2 : Int32)), .val (.ref b126), .val (.int (0 : Int32)), .val (.ref u)]) rfl (pc' := 28) rfl ?_
    refine s_aload S132 (hb hby dC32_28) rfl rfl (pc' := 30) rfl ?_
    refine s_iload S132 (hb hby dC32_30) rfl (pc' := 32) rfl ?_
    show Go p e below _ (T132.setTop (mkF m 32 #[.val (.ref a), .val (.int (0 : Int32)), .val (.int (2 : Int32)), .val (.ref b126), .val (.int (0 : Int32)), .val (.ref u)] [(.int (0 : Int32)), (.ref u)]))
    refine g_static S132 (rmGC20 X S132.old Vu rc0) (fun _ q => nomatch q) (w100 hw) (w101 hw) (w44 hw) (w102 hw) (by decide) (hb hby dC32_32) (by rw [hml]; rfl) [(.ref u), (.int (0 : Int32))] (lenOf pd5 rfl) rfl rfl (Nat.le_of_ble_eq_true rfl) (Nat.le_of_ble_eq_true rfl) (Nat.le_of_ble_eq_true rfl) (Nat.le_of_ble_eq_true rfl) ?_
    intro v133 T133 V133 h133 S133 C133 q133
    obtain ⟨rfl, rfl⟩ := q133
    show Go p e below _ (T133.setTop (mkF m 35 #[.val (.ref a), .val (.int (0 : Int32)), .val (.int (2 : Int32)), .val (.ref b126), .val (.int (0 : Int32)), .val (.ref u)] [(.int c0)]))
    refine s_sipush S133 (hb hby dC32_35) (v := (255 : Int32)) rfl (pc' := 38) rfl ?_
    refine s_icmpY S133 (hb hby dC32_38) ((tlt hq128).2.2.1) (by decide) (pcT := 54) (by decide) ?_
    refine s_aload S133 (hb hby dC32_54) rfl rfl (pc' := 56) rfl ?_
    show Go p e below _ (T133.setTop (mkF m 56 #[.val (.ref a), .val (.int (0 : Int32)), .val (.int (2 : Int32)), .val (.ref b126), .val (.int (0 : Int32)), .val (.ref u)] [(.ref u)]))
    have X134 : Ext h h133 := ext_trans X130 Eu
    exact g_aret S133 (hb hby dC32_56) hret rfl rfl rfl ⟨u, ku, rfl, X134, Vu⟩
  · skip
    show Go p e below _ (T129.setTop (mkF m 12 #[.val (.ref a), .val (.int (0 : Int32)), .val (.int (2 : Int32)), .val (.ref b126), .unset, .unset] [(.int (1 : Int32))]))
    refine s_istore S129 (hb hby dC32_12) (L' := #[.val (.ref a), .val (.int (0 : Int32)), .val (.int (2 : Int32)), .val (.ref b126), .val (.int (1 : Int32)), .unset]) rfl (pc' := 14) rfl ?_
    refine s_iload S129 (hb hby dC32_14) rfl (pc' := 16) rfl ?_
    refine s_iloadN S129 (hb hby dC32_16) rfl (pc' := 17) rfl ?_
    refine s_icmpN S129 (hb hby dC32_17) (by decide) (pc' := 20) rfl ?_
    refine s_aloadN S129 (hb hby dC32_20) rfl rfl (pc' := 21) rfl ?_
    refine s_iloadN S129 (hb hby dC32_21) rfl (pc' := 22) rfl ?_
    refine s_iloadN S129 (hb hby dC32_22) rfl (pc' := 23) rfl ?_
    have X135 : Ext h h129 := ext_keep1 E126 Kq128 fr126
    have Va136 := Va.ext X135
    show Go p e below _ (T129.setTop (mkF m 23 #[.val (.ref a), .val (.int (0 : Int32)), .val (.int (2 : Int32)), .val (.ref b126), .val (.int (1 : Int32)), .unset] [(.int (2 : Int32)), (.int (0 : Int32)), (.ref a)]))
    refine g_static S129 (rmT2 X S129.old Va136) (fun _ q => nomatch q) (w84 hw) (w85 hw) (w44 hw) (w86 hw) (by decide) (hb hby dC32_23) (by rw [hml]; rfl) [(.ref a), (.int (0 : Int32)), (.int (2 : Int32))] (lenOf pd4 rfl) rfl rfl (Nat.le_of_ble_eq_true rfl) (Nat.le_of_ble_eq_true rfl) (Nat.le_of_ble_eq_true rfl) (Nat.le_of_ble_eq_true rfl) ?_
    intro v137 T137 V137 h137 S137 C137 q137
    obtain ⟨u, ku, rfl, Eu, Vu⟩ := q137
    show Go p e below _ (T137.setTop (mkF m 26 #[.val (.ref a), .val (.int (0 : Int32)), .val (.int (2 : Int32)), .val (.ref b126), .val (.int (1 : Int32)), .unset] [(.ref u)]))
    refine s_astore S137 (hb hby dC32_26) rfl (L' := #[.val (.ref a), .val (.int (0 : Int32)), .val (.int (2 : Int32)), .val (.ref b126), .val (.int (1 : Int32)), .val (.ref u)]) rfl (pc' := 28) rfl ?_
    refine s_aload S137 (hb hby dC32_28) rfl rfl (pc' := 30) rfl ?_
    refine s_iload S137 (hb hby dC32_30) rfl (pc' := 32) rfl ?_
    show Go p e below _ (T137.setTop (mkF m 32 #[.val (.ref a), .val (.int (0 : Int32)), .val (.int (2 : Int32)), .val (.ref b126), .val (.int (1 : Int32)), .val (.ref u)] [(.int (1 : Int32)), (.ref u)]))
    refine g_static S137 (rmGC21 X S137.old Vu rc1) (fun _ q => nomatch q) (w100 hw) (w101 hw) (w44 hw) (w102 hw) (by decide) (hb hby dC32_32) (by rw [hml]; rfl) [(.ref u), (.int (1 : Int32))] (lenOf pd5 rfl) rfl rfl (Nat.le_of_ble_eq_true rfl) (Nat.le_of_ble_eq_true rfl) (Nat.le_of_ble_eq_true rfl) (Nat.le_of_ble_eq_true rfl) ?_
    intro v138 T138 V138 h138 S138 C138 q138
    obtain ⟨rfl, rfl⟩ := q138
    show Go p e below _ (T138.setTop (mkF m 35 #[.val (.ref a), .val (.int (0 : Int32)), .val (.int (2 : Int32)), .val (.ref b126), .val (.int (1 : Int32)), .val (.ref u)] [(.int c1)]))
    refine s_sipush S138 (hb hby dC32_35) (v := (255 : Int32)) rfl (pc' := 38) rfl ?_
    refine s_icmpY S138 (hb hby dC32_38) ((tlt hq128).2.2.1) (by decide) (pcT := 54) (by decide) ?_
    refine s_aload S138 (hb hby dC32_54) rfl rfl (pc' := 56) rfl ?_
    show Go p e below _ (T138.setTop (mkF m 56 #[.val (.ref a), .val (.int (0 : Int32)), .val (.int (2 : Int32)), .val (.ref b126), .val (.int (1 : Int32)), .val (.ref u)] [(.ref u)]))
    have X139 : Ext h h138 := ext_trans X135 Eu
    exact g_aret S138 (hb hby dC32_56) hret rfl rfl rfl ⟨u, ku, rfl, X139, Vu⟩
theorem dCL2_0 : decode jdk_52_method_15_code 0 = .ok (.iload_n 1, 1) := by decide +kernel
theorem dCL2_1 : decode jdk_52_method_15_code 1 = .ok (.aload_n 0, 1) := by decide +kernel
theorem dCL2_2 : decode jdk_52_method_15_code 2 = .ok (.arraylength, 1) := by decide +kernel
theorem dCL2_3 : decode jdk_52_method_15_code 3 = .ok (.isub, 1) := by decide +kernel
theorem dCL2_4 : decode jdk_52_method_15_code 4 = .ok (.bipush 31, 2) := by decide +kernel
theorem dCL2_6 : decode jdk_52_method_15_code 6 = .ok (.iushr, 1) := by decide +kernel
theorem dCL2_7 : decode jdk_52_method_15_code 7 = .ok (.i2b, 1) := by decide +kernel
theorem dCL2_8 : decode jdk_52_method_15_code 8 = .ok (.ireturn, 1) := by decide +kernel
set_option maxRecDepth 65536 in
set_option maxHeartbeats 40000000 in
theorem rmCL2 {l : Launch} {Z : State} {a0 : Array Value} {n0 : Nat} (X : Ctx Z a0) {u : Addr} {ku : ClassId} {vs : List Value} {dv : Value} {h : Heap} (hO : Old Z n0 h) (Vu : Arv Z h u ku .byte (4 : Int32) vs dv) :
    Ctr l Z EL1 n0 (⟨"java/lang/StringUTF16", "coderFromArrayLen", "([BI)B"⟩ : MethodName) jdk_52_method_15_code 2 (some .byte) ({ frames := 0, cells := 0, slots := 0, locals := 0 } : Room) #[(.ref u), (.int (2 : Int32))] h [] (fun v h' => v = some (.int 1) ∧ h' = h) := by
  have hw := X.hw
  obtain ⟨z1, hz1, hz2⟩ := X.2.2.1
  refine Ctr.intro (a0 := a0) (plainFor_of_name pn0) hO X.ew ?_
  intro p e s m below meth c T0 V0 S0 hby hml hret hnm hsf
  rw [ef1]
  refine s_iloadN S0 (hb hby dCL2_0) rfl (pc' := 1) rfl ?_
  refine s_aloadN S0 (hb hby dCL2_1) rfl rfl (pc' := 2) rfl ?_
  refine g_len S0 Vu (hb hby dCL2_2) ?_
  show Go p e below _ (T0.setTop (mkF m 3 #[.val (.ref u), .val (.int (2 : Int32))] [(.int (4 : Int32)), (.int (2 : Int32))]))
  refine s_isub S0 (hb hby dCL2_3) (z := (-2 : Int32)) rfl (pc' := 4) rfl ?_
  refine s_bipush S0 (hb hby dCL2_4) (v := (31 : Int32)) rfl (pc' := 6) rfl ?_
  refine s_iushr S0 (hb hby dCL2_6) (z := (1 : Int32)) (by decide) (pc' := 7) rfl ?_
  refine s_i2b S0 (hb hby dCL2_7) (z := (1 : Int32)) (by decide) (pc' := 8) rfl ?_
  exact g_iretN S0 (hb hby dCL2_8) hret (by simp) ⟨rfl, rfl⟩
theorem dW42_0 : decode jdk_42_method_149_code 0 = .ok (.aload_n 0, 1) := by decide +kernel
theorem dW42_1 : decode jdk_42_method_149_code 1 = .ok (.invokespecial 1, 3) := by decide +kernel
theorem dW42_4 : decode jdk_42_method_149_code 4 = .ok (.iload_n 3, 1) := by decide +kernel
theorem dW42_5 : decode jdk_42_method_149_code 5 = .ok (.ifCond .ne 22, 3) := by decide +kernel
theorem dW42_27 : decode jdk_42_method_149_code 27 = .ok (.getstatic 38, 3) := by decide +kernel
theorem dW42_30 : decode jdk_42_method_149_code 30 = .ok (.ifCond .eq 28, 3) := by decide +kernel
theorem dW42_33 : decode jdk_42_method_149_code 33 = .ok (.aload_n 1, 1) := by decide +kernel
theorem dW42_34 : decode jdk_42_method_149_code 34 = .ok (.iload_n 2, 1) := by decide +kernel
theorem dW42_35 : decode jdk_42_method_149_code 35 = .ok (.iload_n 3, 1) := by decide +kernel
theorem dW42_36 : decode jdk_42_method_149_code 36 = .ok (.invokestatic 177, 3) := by decide +kernel
theorem dW42_39 : decode jdk_42_method_149_code 39 = .ok (.astore 5, 2) := by decide +kernel
theorem dW42_41 : decode jdk_42_method_149_code 41 = .ok (.aload_n 0, 1) := by decide +kernel
theorem dW42_42 : decode jdk_42_method_149_code 42 = .ok (.aload 5, 2) := by decide +kernel
theorem dW42_44 : decode jdk_42_method_149_code 44 = .ok (.iload_n 3, 1) := by decide +kernel
theorem dW42_45 : decode jdk_42_method_149_code 45 = .ok (.invokestatic 47, 3) := by decide +kernel
theorem dW42_48 : decode jdk_42_method_149_code 48 = .ok (.putfield 15, 3) := by decide +kernel
theorem dW42_51 : decode jdk_42_method_149_code 51 = .ok (.aload_n 0, 1) := by decide +kernel
theorem dW42_52 : decode jdk_42_method_149_code 52 = .ok (.aload 5, 2) := by decide +kernel
theorem dW42_54 : decode jdk_42_method_149_code 54 = .ok (.putfield 9, 3) := by decide +kernel
theorem dW42_57 : decode jdk_42_method_149_code 57 = .ok (.return_, 1) := by decide +kernel
set_option maxRecDepth 65536 in
set_option maxHeartbeats 40000000 in
theorem rmW42 {l : Launch} {Z : State} {a0 : Array Value} {n0 : Nat} (X : Ctx Z a0) {x b : Addr} {kb : ClassId} {c0 c1 : Int32} {v0 c0_ dv : Value} (na : n0 ≤ x) {h : Heap} (hO : Old Z n0 h) (E : Exa Z h x ST) (Fv : Fld Z h x ST "value" "[B" v0) (Fc : Fld Z h x ST "coder" "B" c0_) (Vb : Arv Z h b kb .char (2 : Int32) [(.int c0), (.int c1)] dv) (rc0 : ¬ c0 < 0 ∧ ¬ (65535 : Int32) < c0) (rc1 : ¬ c1 < 0 ∧ ¬ (65535 : Int32) < c1) (hwd : (255 : Int32) < c0 ∨ (255 : Int32) < c1) :
    Ctr l Z EL1 n0 (⟨"java/lang/String", "<init>", "([CIILjava/lang/Void;)V"⟩ : MethodName) jdk_42_method_149_code 6 none ({ frames := 4, cells := 2, slots := 6, locals := 65 } : Room) #[(.ref x), (.ref b), (.int (0 : Int32)), (.int (2 : Int32)), .null] h [x] (fun v h' => v = none ∧ Keep h h' [x] ∧ StrF Z h' x [c0, c1]) := by
  have hw := X.hw
  obtain ⟨z1, hz1, hz2⟩ := X.2.2.1
  refine Ctr.intro (a0 := a0) (plainFor_of_name pn1) hO X.ew ?_
  intro p e s m below meth c T0 V0 S0 hby hml hret hnm hsf
  rw [ef7]
  refine s_aloadN S0 (hb hby dW42_0) rfl rfl (pc' := 1) rfl ?_
  refine g_initO S0 (w16 hw) (w17 hw) (w18 hw) (by rw [hml]; rfl) (hb hby dW42_1) (Nat.le_of_ble_eq_true rfl) (Nat.le_of_ble_eq_true rfl) ?_
  intro T140 ST140
  show Go p e below _ (T140.setTop (mkF m 4 #[.val (.ref x), .val (.ref b), .val (.int (0 : Int32)), .val (.int (2 : Int32)), .val .null, .unset] []))
  refine s_iloadN ST140 (hb hby dW42_4) rfl (pc' := 5) rfl ?_
  refine s_ifY ST140 (hb hby dW42_5) (by decide) (by decide) (pcT := 27) (by decide) ?_
  refine g_getS ST140 (w41 hw) Via.refl (hz1.ext ST140.old.2) (hb hby dW42_27) ?_
  intro T141 ST141
  show Go p e below _ (T141.setTop (mkF m 30 #[.val (.ref x), .val (.ref b), .val (.int (0 : Int32)), .val (.int (2 : Int32)), .val .null, .unset] [(.int z1)]))
  refine s_ifN ST141 (hb hby dW42_30) ((if0 _ _).trans (feq hz2).1) (pc' := 33) rfl ?_
  refine s_aloadN ST141 (hb hby dW42_33) rfl rfl (pc' := 34) rfl ?_
  refine s_iloadN ST141 (hb hby dW42_34) rfl (pc' := 35) rfl ?_
  refine s_iloadN ST141 (hb hby dW42_35) rfl (pc' := 36) rfl ?_
  show Go p e below _ (T141.setTop (mkF m 36 #[.val (.ref x), .val (.ref b), .val (.int (0 : Int32)), .val (.int (2 : Int32)), .val .null, .unset] [(.int (2 : Int32)), (.int (0 : Int32)), (.ref b)]))
  refine g_static ST141 (rmC32 X ST141.old Vb rc0 rc1 hwd) (fun _ q => nomatch q) (w42 hw) (w43 hw) (w44 hw) (w45 hw) (by decide) (hb hby dW42_36) (by rw [hml]; rfl) [(.ref b), (.int (0 : Int32)), (.int (2 : Int32))] (lenOf pd4 rfl) rfl rfl (Nat.le_of_ble_eq_true rfl) (Nat.le_of_ble_eq_true rfl) (Nat.le_of_ble_eq_true rfl) (Nat.le_of_ble_eq_true rfl) ?_
  intro v142 T142 V142 h142 S142 C142 q142
  obtain ⟨u, ku, rfl, Eu, Vu⟩ := q142
  have sf143 := C142.safe E.lt (hsf x List.mem_cons_self)
  have neu : u ≠ x := fun q => by obtain ⟨c1, A1, -⟩ := Vu; exact ne_arr (E.ext Eu) (w6 hw) A1 q.symm
  show Go p e below _ (T142.setTop (mkF m 39 #[.val (.ref x), .val (.ref b), .val (.int (0 : Int32)), .val (.int (2 : Int32)), .val .null, .unset] [(.ref u)]))
  refine s_astore S142 (hb hby dW42_39) rfl (L' := #[.val (.ref x), .val (.ref b), .val (.int (0 : Int32)), .val (.int (2 : Int32)), .val .null, .val (.ref u)]) rfl (pc' := 41) rfl ?_
  refine s_aloadN S142 (hb hby dW42_41) rfl rfl (pc' := 42) rfl ?_
  refine s_aload S142 (hb hby dW42_42) rfl rfl (pc' := 44) rfl ?_
  refine s_iloadN S142 (hb hby dW42_44) rfl (pc' := 45) rfl ?_
  show Go p e below _ (T142.setTop (mkF m 45 #[.val (.ref x), .val (.ref b), .val (.int (0 : Int32)), .val (.int (2 : Int32)), .val .null, .val (.ref u)] [(.int (2 : Int32)), (.ref u), (.ref x)]))
  refine g_static S142 (rmCL2 X S142.old Vu) (fun _ q => nomatch q) (w49 hw) (w50 hw) (w44 hw) (w51 hw) (by decide) (hb hby dW42_45) (by rw [hml]; rfl) [(.ref u), (.int (2 : Int32))] (lenOf pd6 rfl) rfl rfl (Nat.le_of_ble_eq_true rfl) (Nat.le_of_ble_eq_true rfl) (Nat.le_of_ble_eq_true rfl) (Nat.le_of_ble_eq_true rfl) ?_
  intro v144 T144 V144 h144 S144 C144 q144
  obtain ⟨rfl, rfl⟩ := q144
  have sf145 := C144.safe (Nat.lt_of_lt_of_le E.lt (Nat.le_trans (Nat.le_refl _) Eu.1)) sf143
  show Go p e below _ (T144.setTop (mkF m 48 #[.val (.ref x), .val (.ref b), .val (.int (0 : Int32)), .val (.int (2 : Int32)), .val .null, .val (.ref u)] [(.int (1 : Int32)), (.ref x)]))
  show Go p e below _ (T144.setTop (mkF m 48 #[.val (.ref x), .val (.ref b), .val (.int (0 : Int32)), .val (.int (2 : Int32)), .val .null, .val (.ref u)] [(.int (1 : Int32)), (.ref x)]))
  have Fc147 := Fc.ext Eu
  have E148 := E.ext Eu
  have Fv149 := Fv.ext Eu
  refine g_putF S144 (w26 hw) Via.refl Fc147 E148 (Or.inr ⟨(w22 hw), rfl, hnm⟩) (w6 hw) (ty := .byte) (v' := (.int (1 : Int32))) (by decide) rfl rfl na sf145 (hb hby dW42_48) ?_
  intro T146 h146 S146 K146 W146 A146 F146 sg146
  have sf150 := Safe.keep K146 (sfS sf145 sf0) S144.chv sf145
  have F151 := Fv149.other W146 (Or.inr (slot_ne (Or.inr (w21 hw)) (Or.inr (w22 hw)) (by decide) (t := (.array .byte)) (t' := .byte) (by decide) (by decide)))
  show Go p e below _ (T146.setTop (mkF m 51 #[.val (.ref x), .val (.ref b), .val (.int (0 : Int32)), .val (.int (2 : Int32)), .val .null, .val (.ref u)] []))
  refine s_aloadN S146 (hb hby dW42_51) rfl rfl (pc' := 52) rfl ?_
  refine s_aload S146 (hb hby dW42_52) rfl rfl (pc' := 54) rfl ?_
  show Go p e below _ (T146.setTop (mkF m 54 #[.val (.ref x), .val (.ref b), .val (.int (0 : Int32)), .val (.int (2 : Int32)), .val .null, .val (.ref u)] [(.ref u), (.ref x)]))
  refine g_putF S146 (w25 hw) Via.refl F151 A146 (Or.inr ⟨(w21 hw), rfl, hnm⟩) (w6 hw) (ty := (.array .byte)) (v' := (.ref u)) (by decide) rfl rfl na sg146 (hb hby dW42_54) ?_
  intro T152 h152 S152 K152 W152 A152 F152 sg152
  have sf153 := Safe.keep K152 (sfS sg146 sf0) S146.chv sg146
  have F154 := F146.other W152 (Or.inr (slot_ne (Or.inr (w22 hw)) (Or.inr (w21 hw)) (by decide) (t := .byte) (t' := (.array .byte)) (by decide) (by decide)))
  show Go p e below _ (T152.setTop (mkF m 57 #[.val (.ref x), .val (.ref b), .val (.int (0 : Int32)), .val (.int (2 : Int32)), .val .null, .val (.ref u)] []))
  show Go p e below _ (T152.setTop (mkF m 57 #[.val (.ref x), .val (.ref b), .val (.int (0 : Int32)), .val (.int (2 : Int32)), .val .null, .val (.ref u)] []))
  have KA155 : Keep h h152 [x] := ((((Keep.refl h [x]).ext Eu).trans K146 (fun y hy => Or.inl hy)).trans K152 (fun y hy => Or.inl hy))
  have F156 := Vu.keep K146 (ninS neu nin0)
  have F157 := F156.keep K152 (ninS neu nin0)
  exact g_ret S152 (hb hby dW42_57) hret ⟨rfl, KA155, u, ku, 1, _, _, A152, F152, F154, F157, Or.inr ⟨rfl, rfl, rfl, own_ex2 hwd⟩, (faS rc0 (faS rc1 (fa0))), (Nat.le_of_ble_eq_true rfl)⟩
theorem dW12_0 : decode jdk_42_method_3_code 0 = .ok (.aload_n 0, 1) := by decide +kernel
theorem dW12_1 : decode jdk_42_method_3_code 1 = .ok (.aload_n 1, 1) := by decide +kernel
theorem dW12_2 : decode jdk_42_method_3_code 2 = .ok (.iconst 0, 1) := by decide +kernel
theorem dW12_3 : decode jdk_42_method_3_code 3 = .ok (.aload_n 1, 1) := by decide +kernel
theorem dW12_4 : decode jdk_42_method_3_code 4 = .ok (.arraylength, 1) := by decide +kernel
theorem dW12_5 : decode jdk_42_method_3_code 5 = .ok (.aconst_null, 1) := by decide +kernel
theorem dW12_6 : decode jdk_42_method_3_code 6 = .ok (.invokespecial 27, 3) := by decide +kernel
theorem dW12_9 : decode jdk_42_method_3_code 9 = .ok (.return_, 1) := by decide +kernel
set_option maxRecDepth 65536 in
set_option maxHeartbeats 40000000 in
theorem rmW12 {l : Launch} {Z : State} {a0 : Array Value} {n0 : Nat} (X : Ctx Z a0) {x b : Addr} {kb : ClassId} {c0 c1 : Int32} {v0 c0_ dv : Value} (na : n0 ≤ x) {h : Heap} (hO : Old Z n0 h) (E : Exa Z h x ST) (Fv : Fld Z h x ST "value" "[B" v0) (Fc : Fld Z h x ST "coder" "B" c0_) (Vb : Arv Z h b kb .char (2 : Int32) [(.int c0), (.int c1)] dv) (rc0 : ¬ c0 < 0 ∧ ¬ (65535 : Int32) < c0) (rc1 : ¬ c1 < 0 ∧ ¬ (65535 : Int32) < c1) (hwd : (255 : Int32) < c0 ∨ (255 : Int32) < c1) :
    Ctr l Z EL1 n0 (⟨"java/lang/String", "<init>", "([C)V"⟩ : MethodName) jdk_42_method_3_code 2 none ({ frames := 5, cells := 2, slots := 6, locals := 82 } : Room) #[(.ref x), (.ref b)] h [x] (fun v h' => v = none ∧ Keep h h' [x] ∧ StrF Z h' x [c0, c1]) := by
  have hw := X.hw
  obtain ⟨z1, hz1, hz2⟩ := X.2.2.1
  refine Ctr.intro (a0 := a0) (plainFor_of_name pn1) hO X.ew ?_
  intro p e s m below meth c T0 V0 S0 hby hml hret hnm hsf
  rw [ef8]
  refine s_aloadN S0 (hb hby dW12_0) rfl rfl (pc' := 1) rfl ?_
  refine s_aloadN S0 (hb hby dW12_1) rfl rfl (pc' := 2) rfl ?_
  refine s_iconst S0 (hb hby dW12_2) (v := (0 : Int32)) rfl (pc' := 3) rfl ?_
  refine s_aloadN S0 (hb hby dW12_3) rfl rfl (pc' := 4) rfl ?_
  refine g_len S0 Vb (hb hby dW12_4) ?_
  show Go p e below _ (T0.setTop (mkF m 5 #[.val (.ref x), .val (.ref b)] [(.int (2 : Int32)), (.int (0 : Int32)), (.ref b), (.ref x)]))
  refine s_null S0 (hb hby dW12_5) (pc' := 6) rfl ?_
  show Go p e below _ (T0.setTop (mkF m 6 #[.val (.ref x), .val (.ref b)] [.null, (.int (2 : Int32)), (.int (0 : Int32)), (.ref b), (.ref x)]))
  refine g_special S0 (rmW42 X na S0.old E Fv Fc Vb rc0 rc1 hwd) (sf1 E.lt (hsf x List.mem_cons_self)) rfl (w12 hw) (w13 hw) (w7 hw) (w15 hw) (by decide) (hb hby dW12_6) (by rw [hml]; rfl) x [(.ref b), (.int (0 : Int32)), (.int (2 : Int32)), .null] (lenOf pd7 rfl) rfl rfl (Nat.le_of_ble_eq_true rfl) (Nat.le_of_ble_eq_true rfl) (Nat.le_of_ble_eq_true rfl) (Nat.le_of_ble_eq_true rfl) ?_
  intro v158 T158 V158 h158 S158 C158 q158
  obtain ⟨rfl, K6, F6⟩ := q158
  show Go p e below _ (T158.setTop (mkF m 9 #[.val (.ref x), .val (.ref b)] []))
  exact g_ret S158 (hb hby dW12_9) hret ⟨rfl, K6, F6⟩
theorem dNL3_0 : decode jdk_52_method_3_code 0 = .ok (.iload_n 0, 1) := by decide +kernel
theorem dNL3_1 : decode jdk_52_method_3_code 1 = .ok (.ifCond .ge 11, 3) := by decide +kernel
theorem dNL3_12 : decode jdk_52_method_3_code 12 = .ok (.iload_n 0, 1) := by decide +kernel
theorem dNL3_13 : decode jdk_52_method_3_code 13 = .ok (.ldc 20, 2) := by decide +kernel
theorem dNL3_15 : decode jdk_52_method_3_code 15 = .ok (.if_icmp .lt 40, 3) := by decide +kernel
theorem dNL3_55 : decode jdk_52_method_3_code 55 = .ok (.iload_n 0, 1) := by decide +kernel
theorem dNL3_56 : decode jdk_52_method_3_code 56 = .ok (.iconst 1, 1) := by decide +kernel
theorem dNL3_57 : decode jdk_52_method_3_code 57 = .ok (.ishl, 1) := by decide +kernel
theorem dNL3_58 : decode jdk_52_method_3_code 58 = .ok (.ireturn, 1) := by decide +kernel
set_option maxRecDepth 65536 in
set_option maxHeartbeats 40000000 in
theorem rmNL3 {l : Launch} {Z : State} {a0 : Array Value} {n0 : Nat} (X : Ctx Z a0)  {h : Heap} (hO : Old Z n0 h)  :
    Ctr l Z EL1 n0 (⟨"java/lang/StringUTF16", "newBytesLength", "(I)I"⟩ : MethodName) jdk_52_method_3_code 1 (some .int) ({ frames := 0, cells := 0, slots := 0, locals := 0 } : Room) #[(.int (3 : Int32))] h [] (fun v h' => v = some (.int (6 : Int32)) ∧ h' = h) := by
  have hw := X.hw
  obtain ⟨z1, hz1, hz2⟩ := X.2.2.1
  refine Ctr.intro (a0 := a0) (plainFor_of_name pn0) hO X.ew ?_
  intro p e s m below meth c T0 V0 S0 hby hml hret hnm hsf
  rw [ef3]
  refine s_iloadN S0 (hb hby dNL3_0) rfl (pc' := 1) rfl ?_
  refine s_ifY S0 (hb hby dNL3_1) (by decide) (by decide) (pcT := 12) (by decide) ?_
  refine s_iloadN S0 (hb hby dNL3_12) rfl (pc' := 13) rfl ?_
  refine g_ldcI S0 (w93 hw) (hb hby dNL3_13) ?_
  show Go p e below _ (T0.setTop (mkF m 15 #[.val (.int (3 : Int32))] [(.int (1073741823 : Int32)), (.int (3 : Int32))]))
  refine s_icmpY S0 (hb hby dNL3_15) (by decide) (by decide) (pcT := 55) (by decide) ?_
  refine s_iloadN S0 (hb hby dNL3_55) rfl (pc' := 56) rfl ?_
  refine s_iconst S0 (hb hby dNL3_56) (v := (1 : Int32)) rfl (pc' := 57) rfl ?_
  refine s_ishl S0 (hb hby dNL3_57) (z := (6 : Int32)) (by decide) (pc' := 58) rfl ?_
  exact g_iret S0 (hb hby dNL3_58) hret ⟨rfl, rfl⟩
theorem dNB3_0 : decode jdk_52_method_2_code 0 = .ok (.iload_n 0, 1) := by decide +kernel
theorem dNB3_1 : decode jdk_52_method_2_code 1 = .ok (.invokestatic 11, 3) := by decide +kernel
theorem dNB3_4 : decode jdk_52_method_2_code 4 = .ok (.newarray .byte, 2) := by decide +kernel
theorem dNB3_6 : decode jdk_52_method_2_code 6 = .ok (.areturn, 1) := by decide +kernel
set_option maxRecDepth 65536 in
set_option maxHeartbeats 40000000 in
theorem rmNB3 {l : Launch} {Z : State} {a0 : Array Value} {n0 : Nat} (X : Ctx Z a0)  {h : Heap} (hO : Old Z n0 h)  :
    CtrV l Z EL1 n0 (⟨"java/lang/StringUTF16", "newBytesFor", "(I)[B"⟩ : MethodName) jdk_52_method_2_code 1 (some (.array .byte)) ({ frames := 1, cells := 1, slots := 6, locals := 12 } : Room) #[(.int (3 : Int32))] h [] (fun v h' vm => ∃ u ku, v = some (.ref u) ∧ Ext h h' ∧ h.size ≤ u ∧ u < h'.size ∧ n0 ≤ u ∧ Safe Z EL1 vm h' u ∧ Arv Z h' u ku .byte (6 : Int32) [(.int (0 : Int32)), (.int (0 : Int32)), (.int (0 : Int32)), (.int (0 : Int32)), (.int (0 : Int32)), (.int (0 : Int32))] (.int (0 : Int32))) := by
  have hw := X.hw
  obtain ⟨z1, hz1, hz2⟩ := X.2.2.1
  refine CtrV.intro (a0 := a0) (plainFor_of_name pn0) hO X.ew ?_
  intro p e s m below meth c T0 V0 S0 hby hml hret hnm hsf
  rw [ef3]
  refine s_iloadN S0 (hb hby dNB3_0) rfl (pc' := 1) rfl ?_
  show Go p e below _ (T0.setTop (mkF m 1 #[.val (.int (3 : Int32))] [(.int (3 : Int32))]))
  refine g_static S0 (rmNL3 X S0.old) (fun _ q => nomatch q) (w90 hw) (w91 hw) (w44 hw) (w92 hw) (by decide) (hb hby dNB3_1) (by rw [hml]; rfl) [(.int (3 : Int32))] (lenOf pd0 rfl) rfl rfl (Nat.le_of_ble_eq_true rfl) (Nat.le_of_ble_eq_true rfl) (Nat.le_of_ble_eq_true rfl) (Nat.le_of_ble_eq_true rfl) ?_
  intro v159 T159 V159 h159 S159 C159 q159
  obtain ⟨rfl, rfl⟩ := q159
  show Go p e below _ (T159.setTop (mkF m 4 #[.val (.int (3 : Int32))] [(.int (6 : Int32))]))
  refine g_newarr (aty := .byte) S159 (w20 hw) (hb hby dNB3_4) (by decide) (cap := 6) (by decide) (by decide) (Nat.le_of_ble_eq_true rfl) (Nat.le_of_ble_eq_true rfl) ?_
  intro T160 h160 b160 kc160 S160 E160 fr160 lt160 na160 sf160 A160
  have V160 : Arv Z h160 b160 kc160 .byte (6 : Int32) [(.int (0 : Int32)), (.int (0 : Int32)), (.int (0 : Int32)), (.int (0 : Int32)), (.int (0 : Int32)), (.int (0 : Int32))] (.int (0 : Int32)) := A160 6
  show Go p e below _ (T160.setTop (mkF m 6 #[.val (.int (3 : Int32))] [(.ref b160)]))
  show Go p e below _ (T160.setTop (mkF m 6 #[.val (.int (3 : Int32))] [(.ref b160)]))
  exact g_aretV S160 (hb hby dNB3_6) hret rfl rfl rfl (fun sfx => ⟨b160, kc160, rfl, E160, fr160, lt160, na160, sfx _ lt160 sf160, V160⟩)
theorem dT3_0 : decode jdk_52_method_14_code 0 = .ok (.iload_n 2, 1) := by decide +kernel
theorem dT3_1 : decode jdk_52_method_14_code 1 = .ok (.invokestatic 107, 3) := by decide +kernel
theorem dT3_4 : decode jdk_52_method_14_code 4 = .ok (.astore_n 3, 1) := by decide +kernel
theorem dT3_5 : decode jdk_52_method_14_code 5 = .ok (.iconst 0, 1) := by decide +kernel
theorem dT3_6 : decode jdk_52_method_14_code 6 = .ok (.istore 4, 2) := by decide +kernel
theorem dT3_8 : decode jdk_52_method_14_code 8 = .ok (.iload 4, 2) := by decide +kernel
theorem dT3_10 : decode jdk_52_method_14_code 10 = .ok (.iload_n 2, 1) := by decide +kernel
theorem dT3_11 : decode jdk_52_method_14_code 11 = .ok (.if_icmp .ge 21, 3) := by decide +kernel
theorem dT3_14 : decode jdk_52_method_14_code 14 = .ok (.aload_n 3, 1) := by decide +kernel
theorem dT3_15 : decode jdk_52_method_14_code 15 = .ok (.iload 4, 2) := by decide +kernel
theorem dT3_17 : decode jdk_52_method_14_code 17 = .ok (.aload_n 0, 1) := by decide +kernel
theorem dT3_18 : decode jdk_52_method_14_code 18 = .ok (.iload_n 1, 1) := by decide +kernel
theorem dT3_19 : decode jdk_52_method_14_code 19 = .ok (.caload, 1) := by decide +kernel
theorem dT3_20 : decode jdk_52_method_14_code 20 = .ok (.invokestatic 111, 3) := by decide +kernel
theorem dT3_23 : decode jdk_52_method_14_code 23 = .ok (.iinc 1 1, 3) := by decide +kernel
theorem dT3_26 : decode jdk_52_method_14_code 26 = .ok (.iinc 4 1, 3) := by decide +kernel
theorem dT3_29 : decode jdk_52_method_14_code 29 = .ok (.goto (-21), 3) := by decide +kernel
theorem dT3_32 : decode jdk_52_method_14_code 32 = .ok (.aload_n 3, 1) := by decide +kernel
theorem dT3_33 : decode jdk_52_method_14_code 33 = .ok (.areturn, 1) := by decide +kernel
set_option maxRecDepth 65536 in
set_option maxHeartbeats 40000000 in
theorem rmT3 {l : Launch} {Z : State} {a0 : Array Value} {n0 : Nat} (X : Ctx Z a0) {a : Addr} {ka : ClassId} {c0 c1 c2 : Int32} {dv : Value} {h : Heap} (hO : Old Z n0 h) (Va : Arv Z h a ka .char (3 : Int32) [(.int c0), (.int c1), (.int c2)] dv) :
    Ctr l Z EL1 n0 (⟨"java/lang/StringUTF16", "toBytes", "([CII)[B"⟩ : MethodName) jdk_52_method_14_code 5 (some (.array .byte)) ({ frames := 2, cells := 1, slots := 6, locals := 28 } : Room) #[(.ref a), (.int (0 : Int32)), (.int (3 : Int32))] h [] (fun v h' => ∃ u ku, v = some (.ref u) ∧ Ext h h' ∧ Arv Z h' u ku .byte (6 : Int32) [(.int (StrChars.lo8 c0)), (.int (StrChars.hi8 c0)), (.int (StrChars.lo8 c1)), (.int (StrChars.hi8 c1)), (.int (StrChars.lo8 c2)), (.int (StrChars.hi8 c2))] (.int (0 : Int32))) := by
  have hw := X.hw
  obtain ⟨z1, hz1, hz2⟩ := X.2.2.1
  refine Ctr.intro (a0 := a0) (plainFor_of_name pn0) hO X.ew ?_
  intro p e s m below meth c T0 V0 S0 hby hml hret hnm hsf
  rw [ef4]
  refine s_iloadN S0 (hb hby dT3_0) rfl (pc' := 1) rfl ?_
  show Go p e below _ (T0.setTop (mkF m 1 #[.val (.ref a), .val (.int (0 : Int32)), .val (.int (3 : Int32)), .unset, .unset] [(.int (3 : Int32))]))
  refine g_static S0 (rmNB3 X S0.old) (fun _ q => nomatch q) (w87 hw) (w88 hw) (w44 hw) (w89 hw) (by decide) (hb hby dT3_1) (by rw [hml]; rfl) [(.int (3 : Int32))] (lenOf pd1 rfl) rfl rfl (Nat.le_of_ble_eq_true rfl) (Nat.le_of_ble_eq_true rfl) (Nat.le_of_ble_eq_true rfl) (Nat.le_of_ble_eq_true rfl) ?_
  intro v161 T161 V161 h161 S161 C161 q161
  obtain ⟨u, ku, rfl, Eu, fru, ltu, nau, sfu, Vu⟩ := q161
  show Go p e below _ (T161.setTop (mkF m 4 #[.val (.ref a), .val (.int (0 : Int32)), .val (.int (3 : Int32)), .unset, .unset] [(.ref u)]))
  refine s_astoreN S161 (hb hby dT3_4) rfl (L' := #[.val (.ref a), .val (.int (0 : Int32)), .val (.int (3 : Int32)), .val (.ref u), .unset]) rfl (pc' := 5) rfl ?_
  refine s_iconst S161 (hb hby dT3_5) (v := (0 : Int32)) rfl (pc' := 6) rfl ?_
  refine s_istore S161 (hb hby dT3_6) (L' := #[.val (.ref a), .val (.int (0 : Int32)), .val (.int (3 : Int32)), .val (.ref u), .val (.int (0 : Int32))]) rfl (pc' := 8) rfl ?_
  refine s_iload S161 (hb hby dT3_8) rfl (pc' := 10) rfl ?_
  refine s_iloadN S161 (hb hby dT3_10) rfl (pc' := 11) rfl ?_
  refine s_icmpN S161 (hb hby dT3_11) (by decide) (pc' := 14) rfl ?_
  refine s_aloadN S161 (hb hby dT3_14) rfl rfl (pc' := 15) rfl ?_
  refine s_iload S161 (hb hby dT3_15) rfl (pc' := 17) rfl ?_
  refine s_aloadN S161 (hb hby dT3_17) rfl rfl (pc' := 18) rfl ?_
  refine s_iloadN S161 (hb hby dT3_18) rfl (pc' := 19) rfl ?_
  have Va162 := Va.ext Eu
  refine g_caload S161 Va162 ⟨by decide, by decide⟩ (x := c0) rfl (hb hby dT3_19) ?_
  show Go p e below _ (T161.setTop (mkF m 20 #[.val (.ref a), .val (.int (0 : Int32)), .val (.int (3 : Int32)), .val (.ref u), .val (.int (0 : Int32))] [(.int c0), (.int (0 : Int32)), (.ref u)]))
  show Go p e below _ (T161.setTop (mkF m 20 #[.val (.ref a), .val (.int (0 : Int32)), .val (.int (3 : Int32)), .val (.ref u), .val (.int (0 : Int32))] [(.int c0), (.int (0 : Int32)), (.ref u)]))
  refine g_static S161 (rmPC30 X c0 nau S161.old Vu) (sf1 (Vu).lt sfu) (w94 hw) (w95 hw) (w44 hw) (w96 hw) (by decide) (hb hby dT3_20) (by rw [hml]; rfl) [(.ref u), (.int (0 : Int32)), (.int c0)] (lenOf pd2 rfl) rfl rfl (Nat.le_of_ble_eq_true rfl) (Nat.le_of_ble_eq_true rfl) (Nat.le_of_ble_eq_true rfl) (Nat.le_of_ble_eq_true rfl) ?_
  intro v164 T164 V164 h164 S164 C164 q164
  obtain ⟨rfl, Kk163, Vk163⟩ := q164
  have sfk163 := C164.safe (Vu).lt sfu
  show Go p e below _ (T164.setTop (mkF m 23 #[.val (.ref a), .val (.int (0 : Int32)), .val (.int (3 : Int32)), .val (.ref u), .val (.int (0 : Int32))] []))
  refine s_iinc S164 (hb hby dT3_23) rfl (z := (1 : Int32)) rfl (L' := #[.val (.ref a), .val (.int (1 : Int32)), .val (.int (3 : Int32)), .val (.ref u), .val (.int (0 : Int32))]) rfl (pc' := 26) rfl ?_
  refine s_iinc S164 (hb hby dT3_26) rfl (z := (1 : Int32)) rfl (L' := #[.val (.ref a), .val (.int (1 : Int32)), .val (.int (3 : Int32)), .val (.ref u), .val (.int (1 : Int32))]) rfl (pc' := 29) rfl ?_
  refine s_goto S164 (hb hby dT3_29) (by decide) (pcT := 8) (by decide) ?_
  refine s_iload S164 (hb hby dT3_8) rfl (pc' := 10) rfl ?_
  refine s_iloadN S164 (hb hby dT3_10) rfl (pc' := 11) rfl ?_
  refine s_icmpN S164 (hb hby dT3_11) (by decide) (pc' := 14) rfl ?_
  refine s_aloadN S164 (hb hby dT3_14) rfl rfl (pc' := 15) rfl ?_
  refine s_iload S164 (hb hby dT3_15) rfl (pc' := 17) rfl ?_
  refine s_aloadN S164 (hb hby dT3_17) rfl rfl (pc' := 18) rfl ?_
  refine s_iloadN S164 (hb hby dT3_18) rfl (pc' := 19) rfl ?_
  have X165 : Ext h h164 := ext_keep1 Eu Kk163 fru
  have Va166 := Va.ext X165
  refine g_caload S164 Va166 ⟨by decide, by decide⟩ (x := c1) rfl (hb hby dT3_19) ?_
  show Go p e below _ (T164.setTop (mkF m 20 #[.val (.ref a), .val (.int (1 : Int32)), .val (.int (3 : Int32)), .val (.ref u), .val (.int (1 : Int32))] [(.int c1), (.int (1 : Int32)), (.ref u)]))
  show Go p e below _ (T164.setTop (mkF m 20 #[.val (.ref a), .val (.int (1 : Int32)), .val (.int (3 : Int32)), .val (.ref u), .val (.int (1 : Int32))] [(.int c1), (.int (1 : Int32)), (.ref u)]))
  refine g_static S164 (rmPC31 X c1 nau S164.old Vk163) (sf1 (Vk163).lt sfk163) (w94 hw) (w95 hw) (w44 hw) (w96 hw) (by decide) (hb hby dT3_20) (by rw [hml]; rfl) [(.ref u), (.int (1 : Int32)), (.int c1)] (lenOf pd2 rfl) rfl rfl (Nat.le_of_ble_eq_true rfl) (Nat.le_of_ble_eq_true rfl) (Nat.le_of_ble_eq_true rfl) (Nat.le_of_ble_eq_true rfl) ?_
  intro v168 T168 V168 h168 S168 C168 q168
  obtain ⟨rfl, Kk167, Vk167⟩ := q168
  have sfk167 := C168.safe (Vk163).lt sfk163
  show Go p e below _ (T168.setTop (mkF m 23 #[.val (.ref a), .val (.int (1 : Int32)), .val (.int (3 : Int32)), .val (.ref u), .val (.int (1 : Int32))] []))
  refine s_iinc S168 (hb hby dT3_23) rfl (z := (2 : Int32)) rfl (L' := #[.val (.ref a), .val (.int (2 : Int32)), .val (.int (3 : Int32)), .val (.ref u), .val (.int (1 : Int32))]) rfl (pc' := 26) rfl ?_
  refine s_iinc S168 (hb hby dT3_26) rfl (z := (2 : Int32)) rfl (L' := #[.val (.ref a), .val (.int (2 : Int32)), .val (.int (3 : Int32)), .val (.ref u), .val (.int (2 : Int32))]) rfl (pc' := 29) rfl ?_
  refine s_goto S168 (hb hby dT3_29) (by decide) (pcT := 8) (by decide) ?_
  refine s_iload S168 (hb hby dT3_8) rfl (pc' := 10) rfl ?_
  refine s_iloadN S168 (hb hby dT3_10) rfl (pc' := 11) rfl ?_
  refine s_icmpN S168 (hb hby dT3_11) (by decide) (pc' := 14) rfl ?_
  refine s_aloadN S168 (hb hby dT3_14) rfl rfl (pc' := 15) rfl ?_
  refine s_iload S168 (hb hby dT3_15) rfl (pc' := 17) rfl ?_
  refine s_aloadN S168 (hb hby dT3_17) rfl rfl (pc' := 18) rfl ?_
  refine s_iloadN S168 (hb hby dT3_18) rfl (pc' := 19) rfl ?_
  have X169 : Ext h h168 := ext_keep1 X165 Kk167 fru
  have Va170 := Va.ext X169
  refine g_caload S168 Va170 ⟨by decide, by decide⟩ (x := c2) rfl (hb hby dT3_19) ?_
  show Go p e below _ (T168.setTop (mkF m 20 #[.val (.ref a), .val (.int (2 : Int32)), .val (.int (3 : Int32)), .val (.ref u), .val (.int (2 : Int32))] [(.int c2), (.int (2 : Int32)), (.ref u)]))
  show Go p e below _ (T168.setTop (mkF m 20 #[.val (.ref a), .val (.int (2 : Int32)), .val (.int (3 : Int32)), .val (.ref u), .val (.int (2 : Int32))] [(.int c2), (.int (2 : Int32)), (.ref u)]))
  refine g_static S168 (rmPC32 X c2 nau S168.old Vk167) (sf1 (Vk167).lt sfk167) (w94 hw) (w95 hw) (w44 hw) (w96 hw) (by decide) (hb hby dT3_20) (by rw [hml]; rfl) [(.ref u), (.int (2 : Int32)), (.int c2)] (lenOf pd2 rfl) rfl rfl (Nat.le_of_ble_eq_true rfl) (Nat.le_of_ble_eq_true rfl) (Nat.le_of_ble_eq_true rfl) (Nat.le_of_ble_eq_true rfl) ?_
  intro v172 T172 V172 h172 S172 C172 q172
  obtain ⟨rfl, Kk171, Vk171⟩ := q172
  have sfk171 := C172.safe (Vk167).lt sfk167
  show Go p e below _ (T172.setTop (mkF m 23 #[.val (.ref a), .val (.int (2 : Int32)), .val (.int (3 : Int32)), .val (.ref u), .val (.int (2 : Int32))] []))
  refine s_iinc S172 (hb hby dT3_23) rfl (z := (3 : Int32)) rfl (L' := #[.val (.ref a), .val (.int (3 : Int32)), .val (.int (3 : Int32)), .val (.ref u), .val (.int (2 : Int32))]) rfl (pc' := 26) rfl ?_
  refine s_iinc S172 (hb hby dT3_26) rfl (z := (3 : Int32)) rfl (L' := #[.val (.ref a), .val (.int (3 : Int32)), .val (.int (3 : Int32)), .val (.ref u), .val (.int (3 : Int32))]) rfl (pc' := 29) rfl ?_
  refine s_goto S172 (hb hby dT3_29) (by decide) (pcT := 8) (by decide) ?_
  refine s_iload S172 (hb hby dT3_8) rfl (pc' := 10) rfl ?_
  refine s_iloadN S172 (hb hby dT3_10) rfl (pc' := 11) rfl ?_
  refine s_icmpY S172 (hb hby dT3_11) (by decide) (by decide) (pcT := 32) (by decide) ?_
  refine s_aloadN S172 (hb hby dT3_32) rfl rfl (pc' := 33) rfl ?_
  show Go p e below _ (T172.setTop (mkF m 33 #[.val (.ref a), .val (.int (3 : Int32)), .val (.int (3 : Int32)), .val (.ref u), .val (.int (3 : Int32))] [(.ref u)]))
  have X173 : Ext h h172 := ext_keep1 X169 Kk171 fru
  exact g_aret S172 (hb hby dT3_33) hret rfl rfl rfl ⟨u, ku, rfl, X173, Vk171⟩
theorem dC53_0 : decode jdk_52_method_21_code 0 = .ok (.iconst 0, 1) := by decide +kernel
theorem dC53_1 : decode jdk_52_method_21_code 1 = .ok (.istore 5, 2) := by decide +kernel
theorem dC53_3 : decode jdk_52_method_21_code 3 = .ok (.iload 5, 2) := by decide +kernel
theorem dC53_5 : decode jdk_52_method_21_code 5 = .ok (.iload 4, 2) := by decide +kernel
theorem dC53_7 : decode jdk_52_method_21_code 7 = .ok (.if_icmp .ge 37, 3) := by decide +kernel
theorem dC53_10 : decode jdk_52_method_21_code 10 = .ok (.aload_n 0, 1) := by decide +kernel
theorem dC53_11 : decode jdk_52_method_21_code 11 = .ok (.iload_n 1, 1) := by decide +kernel
theorem dC53_12 : decode jdk_52_method_21_code 12 = .ok (.caload, 1) := by decide +kernel
theorem dC53_13 : decode jdk_52_method_21_code 13 = .ok (.istore 6, 2) := by decide +kernel
theorem dC53_15 : decode jdk_52_method_21_code 15 = .ok (.iload 6, 2) := by decide +kernel
theorem dC53_17 : decode jdk_52_method_21_code 17 = .ok (.sipush 255, 3) := by decide +kernel
theorem dC53_20 : decode jdk_52_method_21_code 20 = .ok (.if_icmp .le 6, 3) := by decide +kernel
theorem dC53_23 : decode jdk_52_method_21_code 23 = .ok (.iload 5, 2) := by decide +kernel
theorem dC53_25 : decode jdk_52_method_21_code 25 = .ok (.ireturn, 1) := by decide +kernel
theorem dC53_26 : decode jdk_52_method_21_code 26 = .ok (.aload_n 2, 1) := by decide +kernel
theorem dC53_27 : decode jdk_52_method_21_code 27 = .ok (.iload_n 3, 1) := by decide +kernel
theorem dC53_28 : decode jdk_52_method_21_code 28 = .ok (.iload 6, 2) := by decide +kernel
theorem dC53_30 : decode jdk_52_method_21_code 30 = .ok (.i2b, 1) := by decide +kernel
theorem dC53_31 : decode jdk_52_method_21_code 31 = .ok (.bastore, 1) := by decide +kernel
theorem dC53_32 : decode jdk_52_method_21_code 32 = .ok (.iinc 1 1, 3) := by decide +kernel
theorem dC53_35 : decode jdk_52_method_21_code 35 = .ok (.iinc 3 1, 3) := by decide +kernel
theorem dC53_38 : decode jdk_52_method_21_code 38 = .ok (.iinc 5 1, 3) := by decide +kernel
theorem dC53_41 : decode jdk_52_method_21_code 41 = .ok (.goto (-38), 3) := by decide +kernel
set_option maxRecDepth 65536 in
set_option maxHeartbeats 40000000 in
theorem rmC53 {l : Launch} {Z : State} {a0 : Array Value} {n0 : Nat} (X : Ctx Z a0) {a b : Addr} {ka kb : ClassId} {c0 c1 c2 : Int32} {v0 v1 v2 dv : Value} (na : n0 ≤ b) (hab : a ≠ b) {h : Heap} (hO : Old Z n0 h) (Va : Arv Z h a ka .char (3 : Int32) [(.int c0), (.int c1), (.int c2)] dv) (Vb : Arv Z h b kb .byte (3 : Int32) [v0, v1, v2] (.int (0 : Int32))) (hwd : (255 : Int32) < c0 ∨ (255 : Int32) < c1 ∨ (255 : Int32) < c2) :
    Ctr l Z EL1 n0 (⟨"java/lang/StringUTF16", "compress", "([CI[BII)I"⟩ : MethodName) jdk_52_method_21_code 7 (some .int) ({ frames := 0, cells := 0, slots := 0, locals := 0 } : Room) #[(.ref a), (.int (0 : Int32)), (.ref b), (.int (0 : Int32)), (.int (3 : Int32))] h [b] (fun v h' => ((v = some (.int (0 : Int32)) ∧ (255 : Int32) < c0) ∨ (v = some (.int (1 : Int32)) ∧ (255 : Int32) < c1) ∨ (v = some (.int (2 : Int32)) ∧ (255 : Int32) < c2)) ∧ Keep h h' [b]) := by
  have hw := X.hw
  obtain ⟨z1, hz1, hz2⟩ := X.2.2.1
  refine Ctr.intro (a0 := a0) (plainFor_of_name pn0) hO X.ew ?_
  intro p e s m below meth c T0 V0 S0 hby hml hret hnm hsf
  rw [ef5]
  refine s_iconst S0 (hb hby dC53_0) (v := (0 : Int32)) rfl (pc' := 1) rfl ?_
  refine s_istore S0 (hb hby dC53_1) (L' := #[.val (.ref a), .val (.int (0 : Int32)), .val (.ref b), .val (.int (0 : Int32)), .val (.int (3 : Int32)), .val (.int (0 : Int32)), .unset]) rfl (pc' := 3) rfl ?_
  refine s_iload S0 (hb hby dC53_3) rfl (pc' := 5) rfl ?_
  refine s_iload S0 (hb hby dC53_5) rfl (pc' := 7) rfl ?_
  refine s_icmpN S0 (hb hby dC53_7) (by decide) (pc' := 10) rfl ?_
  refine s_aloadN S0 (hb hby dC53_10) rfl rfl (pc' := 11) rfl ?_
  refine s_iloadN S0 (hb hby dC53_11) rfl (pc' := 12) rfl ?_
  refine g_caload S0 Va ⟨by decide, by decide⟩ (x := c0) rfl (hb hby dC53_12) ?_
  show Go p e below _ (T0.setTop (mkF m 13 #[.val (.ref a), .val (.int (0 : Int32)), .val (.ref b), .val (.int (0 : Int32)), .val (.int (3 : Int32)), .val (.int (0 : Int32)), .unset] [(.int c0)]))
  refine s_istore S0 (hb hby dC53_13) (L' := #[.val (.ref a), .val (.int (0 : Int32)), .val (.ref b), .val (.int (0 : Int32)), .val (.int (3 : Int32)), .val (.int (0 : Int32)), .val (.int c0)]) rfl (pc' := 15) rfl ?_
  refine s_iload S0 (hb hby dC53_15) rfl (pc' := 17) rfl ?_
  refine s_sipush S0 (hb hby dC53_17) (v := (255 : Int32)) rfl (pc' := 20) rfl ?_
  refine g_icmp S0 (hb hby dC53_20) (by decide) (pcT := 26) (by decide) (fun q => ?_) (fun q => ?_)
  · have hc20_174 : ¬ (255 : Int32) < c0 := icT_le q
    show Go p e below _ (T0.setTop (mkF m 26 #[.val (.ref a), .val (.int (0 : Int32)), .val (.ref b), .val (.int (0 : Int32)), .val (.int (3 : Int32)), .val (.int (0 : Int32)), .val (.int c0)] []))
    refine s_aloadN S0 (hb hby dC53_26) rfl rfl (pc' := 27) rfl ?_
    refine s_iloadN S0 (hb hby dC53_27) rfl (pc' := 28) rfl ?_
    refine s_iload S0 (hb hby dC53_28) rfl (pc' := 30) rfl ?_
    refine s_i2b S0 (hb hby dC53_30) (z := (c0.toInt8.toInt32)) rfl (pc' := 31) rfl ?_
    show Go p e below _ (T0.setTop (mkF m 31 #[.val (.ref a), .val (.int (0 : Int32)), .val (.ref b), .val (.int (0 : Int32)), .val (.int (3 : Int32)), .val (.int (0 : Int32)), .val (.int c0)] [(.int (c0.toInt8.toInt32)), (.int (0 : Int32)), (.ref b)]))
    refine g_bastore S0 Vb ⟨by decide, by decide⟩ 0 rfl (Nat.le_of_ble_eq_true rfl) na (hsf b List.mem_cons_self) (hb hby dC53_31) ?_
    intro T175 h175 S175 K175 V175 sg175
    have sf176 := Safe.keep K175 (sfS (hsf b List.mem_cons_self) sf0) S0.chv (hsf b List.mem_cons_self)
    rw [own_nb c0] at V175
    have V175 : Arv Z h175 b kb .byte (3 : Int32) [(.int (StrChars.lo8 c0)), v1, v2] (.int (0 : Int32)) := V175
    show Go p e below _ (T175.setTop (mkF m 32 #[.val (.ref a), .val (.int (0 : Int32)), .val (.ref b), .val (.int (0 : Int32)), .val (.int (3 : Int32)), .val (.int (0 : Int32)), .val (.int c0)] []))
    refine s_iinc S175 (hb hby dC53_32) rfl (z := (1 : Int32)) rfl (L' := #[.val (.ref a), .val (.int (1 : Int32)), .val (.ref b), .val (.int (0 : Int32)), .val (.int (3 : Int32)), .val (.int (0 : Int32)), .val (.int c0)]) rfl (pc' := 35) rfl ?_
    refine s_iinc S175 (hb hby dC53_35) rfl (z := (1 : Int32)) rfl (L' := #[.val (.ref a), .val (.int (1 : Int32)), .val (.ref b), .val (.int (1 : Int32)), .val (.int (3 : Int32)), .val (.int (0 : Int32)), .val (.int c0)]) rfl (pc' := 38) rfl ?_
    refine s_iinc S175 (hb hby dC53_38) rfl (z := (1 : Int32)) rfl (L' := #[.val (.ref a), .val (.int (1 : Int32)), .val (.ref b), .val (.int (1 : Int32)), .val (.int (3 : Int32)), .val (.int (1 : Int32)), .val (.int c0)]) rfl (pc' := 41) rfl ?_
    refine s_goto S175 (hb hby dC53_41) (by decide) (pcT := 3) (by decide) ?_
    refine s_iload S175 (hb hby dC53_3) rfl (pc' := 5) rfl ?_
    refine s_iload S175 (hb hby dC53_5) rfl (pc' := 7) rfl ?_
    refine s_icmpN S175 (hb hby dC53_7) (by decide) (pc' := 10) rfl ?_
    refine s_aloadN S175 (hb hby dC53_10) rfl rfl (pc' := 11) rfl ?_
    refine s_iloadN S175 (hb hby dC53_11) rfl (pc' := 12) rfl ?_
    have F177 := Va.keep K175 (ninS hab nin0)
    refine g_caload S175 F177 ⟨by decide, by decide⟩ (x := c1) rfl (hb hby dC53_12) ?_
    show Go p e below _ (T175.setTop (mkF m 13 #[.val (.ref a), .val (.int (1 : Int32)), .val (.ref b), .val (.int (1 : Int32)), .val (.int (3 : Int32)), .val (.int (1 : Int32)), .val (.int c0)] [(.int c1)]))
    refine s_istore S175 (hb hby dC53_13) (L' := #[.val (.ref a), .val (.int (1 : Int32)), .val (.ref b), .val (.int (1 : Int32)), .val (.int (3 : Int32)), .val (.int (1 : Int32)), .val (.int c1)]) rfl (pc' := 15) rfl ?_
    refine s_iload S175 (hb hby dC53_15) rfl (pc' := 17) rfl ?_
    refine s_sipush S175 (hb hby dC53_17) (v := (255 : Int32)) rfl (pc' := 20) rfl ?_
    refine g_icmp S175 (hb hby dC53_20) (by decide) (pcT := 26) (by decide) (fun q => ?_) (fun q => ?_)
    · have hc20_178 : ¬ (255 : Int32) < c1 := icT_le q
      show Go p e below _ (T175.setTop (mkF m 26 #[.val (.ref a), .val (.int (1 : Int32)), .val (.ref b), .val (.int (1 : Int32)), .val (.int (3 : Int32)), .val (.int (1 : Int32)), .val (.int c1)] []))
      refine s_aloadN S175 (hb hby dC53_26) rfl rfl (pc' := 27) rfl ?_
      refine s_iloadN S175 (hb hby dC53_27) rfl (pc' := 28) rfl ?_
      refine s_iload S175 (hb hby dC53_28) rfl (pc' := 30) rfl ?_
      refine s_i2b S175 (hb hby dC53_30) (z := (c1.toInt8.toInt32)) rfl (pc' := 31) rfl ?_
      show Go p e below _ (T175.setTop (mkF m 31 #[.val (.ref a), .val (.int (1 : Int32)), .val (.ref b), .val (.int (1 : Int32)), .val (.int (3 : Int32)), .val (.int (1 : Int32)), .val (.int c1)] [(.int (c1.toInt8.toInt32)), (.int (1 : Int32)), (.ref b)]))
      refine g_bastore S175 V175 ⟨by decide, by decide⟩ 1 rfl (Nat.le_of_ble_eq_true rfl) na sg175 (hb hby dC53_31) ?_
      intro T179 h179 S179 K179 V179 sg179
      have sf180 := Safe.keep K179 (sfS sg175 sf0) S175.chv sg175
      rw [own_nb c1] at V179
      have V179 : Arv Z h179 b kb .byte (3 : Int32) [(.int (StrChars.lo8 c0)), (.int (StrChars.lo8 c1)), v2] (.int (0 : Int32)) := V179
      show Go p e below _ (T179.setTop (mkF m 32 #[.val (.ref a), .val (.int (1 : Int32)), .val (.ref b), .val (.int (1 : Int32)), .val (.int (3 : Int32)), .val (.int (1 : Int32)), .val (.int c1)] []))
      refine s_iinc S179 (hb hby dC53_32) rfl (z := (2 : Int32)) rfl (L' := #[.val (.ref a), .val (.int (2 : Int32)), .val (.ref b), .val (.int (1 : Int32)), .val (.int (3 : Int32)), .val (.int (1 : Int32)), .val (.int c1)]) rfl (pc' := 35) rfl ?_
      refine s_iinc S179 (hb hby dC53_35) rfl (z := (2 : Int32)) rfl (L' := #[.val (.ref a), .val (.int (2 : Int32)), .val (.ref b), .val (.int (2 : Int32)), .val (.int (3 : Int32)), .val (.int (1 : Int32)), .val (.int c1)]) rfl (pc' := 38) rfl ?_
      refine s_iinc S179 (hb hby dC53_38) rfl (z := (2 : Int32)) rfl (L' := #[.val (.ref a), .val (.int (2 : Int32)), .val (.ref b), .val (.int (2 : Int32)), .val (.int (3 : Int32)), .val (.int (2 : Int32)), .val (.int c1)]) rfl (pc' := 41) rfl ?_
      refine s_goto S179 (hb hby dC53_41) (by decide) (pcT := 3) (by decide) ?_
      refine s_iload S179 (hb hby dC53_3) rfl (pc' := 5) rfl ?_
      refine s_iload S179 (hb hby dC53_5) rfl (pc' := 7) rfl ?_
      refine s_icmpN S179 (hb hby dC53_7) (by decide) (pc' := 10) rfl ?_
      refine s_aloadN S179 (hb hby dC53_10) rfl rfl (pc' := 11) rfl ?_
      refine s_iloadN S179 (hb hby dC53_11) rfl (pc' := 12) rfl ?_
      have F181 := F177.keep K179 (ninS hab nin0)
      refine g_caload S179 F181 ⟨by decide, by decide⟩ (x := c2) rfl (hb hby dC53_12) ?_
      show Go p e below _ (T179.setTop (mkF m 13 #[.val (.ref a), .val (.int (2 : Int32)), .val (.ref b), .val (.int (2 : Int32)), .val (.int (3 : Int32)), .val (.int (2 : Int32)), .val (.int c1)] [(.int c2)]))
      refine s_istore S179 (hb hby dC53_13) (L' := #[.val (.ref a), .val (.int (2 : Int32)), .val (.ref b), .val (.int (2 : Int32)), .val (.int (3 : Int32)), .val (.int (2 : Int32)), .val (.int c2)]) rfl (pc' := 15) rfl ?_
      refine s_iload S179 (hb hby dC53_15) rfl (pc' := 17) rfl ?_
      refine s_sipush S179 (hb hby dC53_17) (v := (255 : Int32)) rfl (pc' := 20) rfl ?_
      refine g_icmp S179 (hb hby dC53_20) (by decide) (pcT := 26) (by decide) (fun q => ?_) (fun q => ?_)
      · have hc20_182 : ¬ (255 : Int32) < c2 := icT_le q
        show Go p e below _ (T179.setTop (mkF m 26 #[.val (.ref a), .val (.int (2 : Int32)), .val (.ref b), .val (.int (2 : Int32)), .val (.int (3 : Int32)), .val (.int (2 : Int32)), .val (.int c2)] []))
        refine s_aloadN S179 (hb hby dC53_26) rfl rfl (pc' := 27) rfl ?_
        refine s_iloadN S179 (hb hby dC53_27) rfl (pc' := 28) rfl ?_
        refine s_iload S179 (hb hby dC53_28) rfl (pc' := 30) rfl ?_
        refine s_i2b S179 (hb hby dC53_30) (z := (c2.toInt8.toInt32)) rfl (pc' := 31) rfl ?_
        show Go p e below _ (T179.setTop (mkF m 31 #[.val (.ref a), .val (.int (2 : Int32)), .val (.ref b), .val (.int (2 : Int32)), .val (.int (3 : Int32)), .val (.int (2 : Int32)), .val (.int c2)] [(.int (c2.toInt8.toInt32)), (.int (2 : Int32)), (.ref b)]))
        refine g_bastore S179 V179 ⟨by decide, by decide⟩ 2 rfl (Nat.le_of_ble_eq_true rfl) na sg179 (hb hby dC53_31) ?_
        intro T183 h183 S183 K183 V183 sg183
        have sf184 := Safe.keep K183 (sfS sg179 sf0) S179.chv sg179
        rw [own_nb c2] at V183
        have V183 : Arv Z h183 b kb .byte (3 : Int32) [(.int (StrChars.lo8 c0)), (.int (StrChars.lo8 c1)), (.int (StrChars.lo8 c2))] (.int (0 : Int32)) := V183
        show Go p e below _ (T183.setTop (mkF m 32 #[.val (.ref a), .val (.int (2 : Int32)), .val (.ref b), .val (.int (2 : Int32)), .val (.int (3 : Int32)), .val (.int (2 : Int32)), .val (.int c2)] []))
        refine s_iinc S183 (hb hby dC53_32) rfl (z := (3 : Int32)) rfl (L' := #[.val (.ref a), .val (.int (3 : Int32)), .val (.ref b), .val (.int (2 : Int32)), .val (.int (3 : Int32)), .val (.int (2 : Int32)), .val (.int c2)]) rfl (pc' := 35) rfl ?_
        refine s_iinc S183 (hb hby dC53_35) rfl (z := (3 : Int32)) rfl (L' := #[.val (.ref a), .val (.int (3 : Int32)), .val (.ref b), .val (.int (3 : Int32)), .val (.int (3 : Int32)), .val (.int (2 : Int32)), .val (.int c2)]) rfl (pc' := 38) rfl ?_
        refine s_iinc S183 (hb hby dC53_38) rfl (z := (3 : Int32)) rfl (L' := #[.val (.ref a), .val (.int (3 : Int32)), .val (.ref b), .val (.int (3 : Int32)), .val (.int (3 : Int32)), .val (.int (3 : Int32)), .val (.int c2)]) rfl (pc' := 41) rfl ?_
        refine s_goto S183 (hb hby dC53_41) (by decide) (pcT := 3) (by decide) ?_
        refine s_iload S183 (hb hby dC53_3) rfl (pc' := 5) rfl ?_
        refine s_iload S183 (hb hby dC53_5) rfl (pc' := 7) rfl ?_
        refine s_icmpY S183 (hb hby dC53_7) (by decide) (by decide) (pcT := 44) (by decide) ?_
        exact absurd hwd (by simp [hc20_174, hc20_178, hc20_182])
      · have hc20_182 : (255 : Int32) < c2 := icF_le q
        show Go p e below _ (T179.setTop (mkF m 23 #[.val (.ref a), .val (.int (2 : Int32)), .val (.ref b), .val (.int (2 : Int32)), .val (.int (3 : Int32)), .val (.int (2 : Int32)), .val (.int c2)] []))
        refine s_iload S179 (hb hby dC53_23) rfl (pc' := 25) rfl ?_
        show Go p e below _ (T179.setTop (mkF m 25 #[.val (.ref a), .val (.int (2 : Int32)), .val (.ref b), .val (.int (2 : Int32)), .val (.int (3 : Int32)), .val (.int (2 : Int32)), .val (.int c2)] [(.int (2 : Int32))]))
        have KA185 : Keep h h179 [b] := (((Keep.refl h [b]).trans K175 (fun y hy => Or.inl hy)).trans K179 (fun y hy => Or.inl hy))
        exact g_iret S179 (hb hby dC53_25) hret ⟨Or.inr (Or.inr (⟨rfl, hc20_182⟩)), KA185⟩
    · have hc20_178 : (255 : Int32) < c1 := icF_le q
      show Go p e below _ (T175.setTop (mkF m 23 #[.val (.ref a), .val (.int (1 : Int32)), .val (.ref b), .val (.int (1 : Int32)), .val (.int (3 : Int32)), .val (.int (1 : Int32)), .val (.int c1)] []))
      refine s_iload S175 (hb hby dC53_23) rfl (pc' := 25) rfl ?_
      show Go p e below _ (T175.setTop (mkF m 25 #[.val (.ref a), .val (.int (1 : Int32)), .val (.ref b), .val (.int (1 : Int32)), .val (.int (3 : Int32)), .val (.int (1 : Int32)), .val (.int c1)] [(.int (1 : Int32))]))
      have KA186 : Keep h h175 [b] := ((Keep.refl h [b]).trans K175 (fun y hy => Or.inl hy))
      exact g_iret S175 (hb hby dC53_25) hret ⟨Or.inr (Or.inl ⟨rfl, hc20_178⟩), KA186⟩
  · have hc20_174 : (255 : Int32) < c0 := icF_le q
    show Go p e below _ (T0.setTop (mkF m 23 #[.val (.ref a), .val (.int (0 : Int32)), .val (.ref b), .val (.int (0 : Int32)), .val (.int (3 : Int32)), .val (.int (0 : Int32)), .val (.int c0)] []))
    refine s_iload S0 (hb hby dC53_23) rfl (pc' := 25) rfl ?_
    show Go p e below _ (T0.setTop (mkF m 25 #[.val (.ref a), .val (.int (0 : Int32)), .val (.ref b), .val (.int (0 : Int32)), .val (.int (3 : Int32)), .val (.int (0 : Int32)), .val (.int c0)] [(.int (0 : Int32))]))
    have KA187 : Keep h h [b] := (Keep.refl h [b])
    exact g_iret S0 (hb hby dC53_25) hret ⟨Or.inl ⟨rfl, hc20_174⟩, KA187⟩
theorem dC33_0 : decode jdk_52_method_16_code 0 = .ok (.iload_n 2, 1) := by decide +kernel
theorem dC33_1 : decode jdk_52_method_16_code 1 = .ok (.newarray .byte, 2) := by decide +kernel
theorem dC33_3 : decode jdk_52_method_16_code 3 = .ok (.astore_n 3, 1) := by decide +kernel
theorem dC33_4 : decode jdk_52_method_16_code 4 = .ok (.aload_n 0, 1) := by decide +kernel
theorem dC33_5 : decode jdk_52_method_16_code 5 = .ok (.iload_n 1, 1) := by decide +kernel
theorem dC33_6 : decode jdk_52_method_16_code 6 = .ok (.aload_n 3, 1) := by decide +kernel
theorem dC33_7 : decode jdk_52_method_16_code 7 = .ok (.iconst 0, 1) := by decide +kernel
theorem dC33_8 : decode jdk_52_method_16_code 8 = .ok (.iload_n 2, 1) := by decide +kernel
theorem dC33_9 : decode jdk_52_method_16_code 9 = .ok (.invokestatic 115, 3) := by decide +kernel
theorem dC33_12 : decode jdk_52_method_16_code 12 = .ok (.istore 4, 2) := by decide +kernel
theorem dC33_14 : decode jdk_52_method_16_code 14 = .ok (.iload 4, 2) := by decide +kernel
theorem dC33_16 : decode jdk_52_method_16_code 16 = .ok (.iload_n 2, 1) := by decide +kernel
theorem dC33_17 : decode jdk_52_method_16_code 17 = .ok (.if_icmp .eq 40, 3) := by decide +kernel
theorem dC33_20 : decode jdk_52_method_16_code 20 = .ok (.aload_n 0, 1) := by decide +kernel
theorem dC33_21 : decode jdk_52_method_16_code 21 = .ok (.iload_n 1, 1) := by decide +kernel
theorem dC33_22 : decode jdk_52_method_16_code 22 = .ok (.iload_n 2, 1) := by decide +kernel
theorem dC33_23 : decode jdk_52_method_16_code 23 = .ok (.invokestatic 119, 3) := by decide +kernel
theorem dC33_26 : decode jdk_52_method_16_code 26 = .ok (.astore 5, 2) := by decide +kernel
theorem dC33_28 : decode jdk_52_method_16_code 28 = .ok (.aload 5, 2) := by decide +kernel
theorem dC33_30 : decode jdk_52_method_16_code 30 = .ok (.iload 4, 2) := by decide +kernel
theorem dC33_32 : decode jdk_52_method_16_code 32 = .ok (.invokestatic 71, 3) := by decide +kernel
theorem dC33_35 : decode jdk_52_method_16_code 35 = .ok (.sipush 255, 3) := by decide +kernel
theorem dC33_38 : decode jdk_52_method_16_code 38 = .ok (.if_icmp .gt 16, 3) := by decide +kernel
theorem dC33_54 : decode jdk_52_method_16_code 54 = .ok (.aload 5, 2) := by decide +kernel
theorem dC33_56 : decode jdk_52_method_16_code 56 = .ok (.areturn, 1) := by decide +kernel
set_option maxRecDepth 65536 in
set_option maxHeartbeats 40000000 in
theorem rmC33 {l : Launch} {Z : State} {a0 : Array Value} {n0 : Nat} (X : Ctx Z a0) {a : Addr} {ka : ClassId} {c0 c1 c2 : Int32} {dv : Value} {h : Heap} (hO : Old Z n0 h) (Va : Arv Z h a ka .char (3 : Int32) [(.int c0), (.int c1), (.int c2)] dv) (rc0 : ¬ c0 < 0 ∧ ¬ (65535 : Int32) < c0) (rc1 : ¬ c1 < 0 ∧ ¬ (65535 : Int32) < c1) (rc2 : ¬ c2 < 0 ∧ ¬ (65535 : Int32) < c2) (hwd : (255 : Int32) < c0 ∨ (255 : Int32) < c1 ∨ (255 : Int32) < c2) :
    Ctr l Z EL1 n0 (⟨"java/lang/StringUTF16", "compress", "([CII)[B"⟩ : MethodName) jdk_52_method_16_code 6 (some (.array .byte)) ({ frames := 3, cells := 2, slots := 9, locals := 47 } : Room) #[(.ref a), (.int (0 : Int32)), (.int (3 : Int32))] h [] (fun v h' => ∃ u ku, v = some (.ref u) ∧ Ext h h' ∧ Arv Z h' u ku .byte (6 : Int32) [(.int (StrChars.lo8 c0)), (.int (StrChars.hi8 c0)), (.int (StrChars.lo8 c1)), (.int (StrChars.hi8 c1)), (.int (StrChars.lo8 c2)), (.int (StrChars.hi8 c2))] (.int (0 : Int32))) := by
  have hw := X.hw
  obtain ⟨z1, hz1, hz2⟩ := X.2.2.1
  refine Ctr.intro (a0 := a0) (plainFor_of_name pn0) hO X.ew ?_
  intro p e s m below meth c T0 V0 S0 hby hml hret hnm hsf
  rw [ef6]
  refine s_iloadN S0 (hb hby dC33_0) rfl (pc' := 1) rfl ?_
  refine g_newarr (aty := .byte) S0 (w20 hw) (hb hby dC33_1) (by decide) (cap := 3) (by decide) (by decide) (Nat.le_of_ble_eq_true rfl) (Nat.le_of_ble_eq_true rfl) ?_
  intro T188 h188 b188 kc188 S188 E188 fr188 lt188 na188 sf188 A188
  have V188 : Arv Z h188 b188 kc188 .byte (3 : Int32) [(.int (0 : Int32)), (.int (0 : Int32)), (.int (0 : Int32))] (.int (0 : Int32)) := A188 3
  show Go p e below _ (T188.setTop (mkF m 3 #[.val (.ref a), .val (.int (0 : Int32)), .val (.int (3 : Int32)), .unset, .unset, .unset] [(.ref b188)]))
  refine s_astoreN S188 (hb hby dC33_3) rfl (L' := #[.val (.ref a), .val (.int (0 : Int32)), .val (.int (3 : Int32)), .val (.ref b188), .unset, .unset]) rfl (pc' := 4) rfl ?_
  refine s_aloadN S188 (hb hby dC33_4) rfl rfl (pc' := 5) rfl ?_
  refine s_iloadN S188 (hb hby dC33_5) rfl (pc' := 6) rfl ?_
  refine s_aloadN S188 (hb hby dC33_6) rfl rfl (pc' := 7) rfl ?_
  refine s_iconst S188 (hb hby dC33_7) (v := (0 : Int32)) rfl (pc' := 8) rfl ?_
  refine s_iloadN S188 (hb hby dC33_8) rfl (pc' := 9) rfl ?_
  have Va189 := Va.ext E188
  show Go p e below _ (T188.setTop (mkF m 9 #[.val (.ref a), .val (.int (0 : Int32)), .val (.int (3 : Int32)), .val (.ref b188), .unset, .unset] [(.int (3 : Int32)), (.int (0 : Int32)), (.ref b188), (.int (0 : Int32)), (.ref a)]))
  refine g_static S188 (rmC53 X na188 (arv_kne Va189 V188 (by decide)) S188.old Va189 V188 hwd) (sf1 (V188).lt sf188) (w46 hw) (w47 hw) (w44 hw) (w48 hw) (by decide) (hb hby dC33_9) (by rw [hml]; rfl) [(.ref a), (.int (0 : Int32)), (.ref b188), (.int (0 : Int32)), (.int (3 : Int32))] (lenOf pd3 rfl) rfl rfl (Nat.le_of_ble_eq_true rfl) (Nat.le_of_ble_eq_true rfl) (Nat.le_of_ble_eq_true rfl) (Nat.le_of_ble_eq_true rfl) ?_
  intro v191 T191 V191 h191 S191 C191 q191
  obtain ⟨hq190, Kq190⟩ := q191
  rcases hq190 with ⟨rfl, hq190⟩ | ⟨rfl, hq190⟩ | ⟨rfl, hq190⟩
  · skip
    show Go p e below _ (T191.setTop (mkF m 12 #[.val (.ref a), .val (.int (0 : Int32)), .val (.int (3 : Int32)), .val (.ref b188), .unset, .unset] [(.int (0 : Int32))]))
    refine s_istore S191 (hb hby dC33_12) (L' := #[.val (.ref a), .val (.int (0 : Int32)), .val (.int (3 : Int32)), .val (.ref b188), .val (.int (0 : Int32)), .unset]) rfl (pc' := 14) rfl ?_
    refine s_iload S191 (hb hby dC33_14) rfl (pc' := 16) rfl ?_
    refine s_iloadN S191 (hb hby dC33_16) rfl (pc' := 17) rfl ?_
    refine s_icmpN S191 (hb hby dC33_17) (by decide) (pc' := 20) rfl ?_
    refine s_aloadN S191 (hb hby dC33_20) rfl rfl (pc' := 21) rfl ?_
    refine s_iloadN S191 (hb hby dC33_21) rfl (pc' := 22) rfl ?_
    refine s_iloadN S191 (hb hby dC33_22) rfl (pc' := 23) rfl ?_
    have X192 : Ext h h191 := ext_keep1 E188 Kq190 fr188
    have Va193 := Va.ext X192
    show Go p e below _ (T191.setTop (mkF m 23 #[.val (.ref a), .val (.int (0 : Int32)), .val (.int (3 : Int32)), .val (.ref b188), .val (.int (0 : Int32)), .unset] [(.int (3 : Int32)), (.int (0 : Int32)), (.ref a)]))
    refine g_static S191 (rmT3 X S191.old Va193) (fun _ q => nomatch q) (w84 hw) (w85 hw) (w44 hw) (w86 hw) (by decide) (hb hby dC33_23) (by rw [hml]; rfl) [(.ref a), (.int (0 : Int32)), (.int (3 : Int32))] (lenOf pd4 rfl) rfl rfl (Nat.le_of_ble_eq_true rfl) (Nat.le_of_ble_eq_true rfl) (Nat.le_of_ble_eq_true rfl) (Nat.le_of_ble_eq_true rfl) ?_
    intro v194 T194 V194 h194 S194 C194 q194
    obtain ⟨u, ku, rfl, Eu, Vu⟩ := q194
    show Go p e below _ (T194.setTop (mkF m 26 #[.val (.ref a), .val (.int (0 : Int32)), .val (.int (3 : Int32)), .val (.ref b188), .val (.int (0 : Int32)), .unset] [(.ref u)]))
    refine s_astore S194 (hb hby dC33_26) rfl (L' := #[.val (.ref a), .val (.int (0 : Int32)), .val (.int (3 : Int32)), .val (.ref b188), .val (.int (0 : Int32)), .val (.ref u)]) rfl (pc' := 28) rfl ?_
    refine s_aload S194 (hb hby dC33_28) rfl rfl (pc' := 30) rfl ?_
    refine s_iload S194 (hb hby dC33_30) rfl (pc' := 32) rfl ?_
    show Go p e below _ (T194.setTop (mkF m 32 #[.val (.ref a), .val (.int (0 : Int32)), .val (.int (3 : Int32)), .val (.ref b188), .val (.int (0 : Int32)), .val (.ref u)] [(.int (0 : Int32)), (.ref u)]))
    refine g_static S194 (rmGC30 X S194.old Vu rc0) (fun _ q => nomatch q) (w100 hw) (w101 hw) (w44 hw) (w102 hw) (by decide) (hb hby dC33_32) (by rw [hml]; rfl) [(.ref u), (.int (0 : Int32))] (lenOf pd5 rfl) rfl rfl (Nat.le_of_ble_eq_true rfl) (Nat.le_of_ble_eq_true rfl) (Nat.le_of_ble_eq_true rfl) (Nat.le_of_ble_eq_true rfl) ?_
    intro v195 T195 V195 h195 S195 C195 q195
    obtain ⟨rfl, rfl⟩ := q195
    show Go p e below _ (T195.setTop (mkF m 35 #[.val (.ref a), .val (.int (0 : Int32)), .val (.int (3 : Int32)), .val (.ref b188), .val (.int (0 : Int32)), .val (.ref u)] [(.int c0)]))
    refine s_sipush S195 (hb hby dC33_35) (v := (255 : Int32)) rfl (pc' := 38) rfl ?_
    refine s_icmpY S195 (hb hby dC33_38) ((tlt hq190).2.2.1) (by decide) (pcT := 54) (by decide) ?_
    refine s_aload S195 (hb hby dC33_54) rfl rfl (pc' := 56) rfl ?_
    show Go p e below _ (T195.setTop (mkF m 56 #[.val (.ref a), .val (.int (0 : Int32)), .val (.int (3 : Int32)), .val (.ref b188), .val (.int (0 : Int32)), .val (.ref u)] [(.ref u)]))
    have X196 : Ext h h195 := ext_trans X192 Eu
    exact g_aret S195 (hb hby dC33_56) hret rfl rfl rfl ⟨u, ku, rfl, X196, Vu⟩
  · skip
    show Go p e below _ (T191.setTop (mkF m 12 #[.val (.ref a), .val (.int (0 : Int32)), .val (.int (3 : Int32)), .val (.ref b188), .unset, .unset] [(.int (1 : Int32))]))
    refine s_istore S191 (hb hby dC33_12) (L' := #[.val (.ref a), .val (.int (0 : Int32)), .val (.int (3 : Int32)), .val (.ref b188), .val (.int (1 : Int32)), .unset]) rfl (pc' := 14) rfl ?_
    refine s_iload S191 (hb hby dC33_14) rfl (pc' := 16) rfl ?_
    refine s_iloadN S191 (hb hby dC33_16) rfl (pc' := 17) rfl ?_
    refine s_icmpN S191 (hb hby dC33_17) (by decide) (pc' := 20) rfl ?_
    refine s_aloadN S191 (hb hby dC33_20) rfl rfl (pc' := 21) rfl ?_
    refine s_iloadN S191 (hb hby dC33_21) rfl (pc' := 22) rfl ?_
    refine s_iloadN S191 (hb hby dC33_22) rfl (pc' := 23) rfl ?_
    have X197 : Ext h h191 := ext_keep1 E188 Kq190 fr188
    have Va198 := Va.ext X197
    show Go p e below _ (T191.setTop (mkF m 23 #[.val (.ref a), .val (.int (0 : Int32)), .val (.int (3 : Int32)), .val (.ref b188), .val (.int (1 : Int32)), .unset] [(.int (3 : Int32)), (.int (0 : Int32)), (.ref a)]))
    refine g_static S191 (rmT3 X S191.old Va198) (fun _ q => nomatch q) (w84 hw) (w85 hw) (w44 hw) (w86 hw) (by decide) (hb hby dC33_23) (by rw [hml]; rfl) [(.ref a), (.int (0 : Int32)), (.int (3 : Int32))] (lenOf pd4 rfl) rfl rfl (Nat.le_of_ble_eq_true rfl) (Nat.le_of_ble_eq_true rfl) (Nat.le_of_ble_eq_true rfl) (Nat.le_of_ble_eq_true rfl) ?_
    intro v199 T199 V199 h199 S199 C199 q199
    obtain ⟨u, ku, rfl, Eu, Vu⟩ := q199
    show Go p e below _ (T199.setTop (mkF m 26 #[.val (.ref a), .val (.int (0 : Int32)), .val (.int (3 : Int32)), .val (.ref b188), .val (.int (1 : Int32)), .unset] [(.ref u)]))
    refine s_astore S199 (hb hby dC33_26) rfl (L' := #[.val (.ref a), .val (.int (0 : Int32)), .val (.int (3 : Int32)), .val (.ref b188), .val (.int (1 : Int32)), .val (.ref u)]) rfl (pc' := 28) rfl ?_
    refine s_aload S199 (hb hby dC33_28) rfl rfl (pc' := 30) rfl ?_
    refine s_iload S199 (hb hby dC33_30) rfl (pc' := 32) rfl ?_
    show Go p e below _ (T199.setTop (mkF m 32 #[.val (.ref a), .val (.int (0 : Int32)), .val (.int (3 : Int32)), .val (.ref b188), .val (.int (1 : Int32)), .val (.ref u)] [(.int (1 : Int32)), (.ref u)]))
    refine g_static S199 (rmGC31 X S199.old Vu rc1) (fun _ q => nomatch q) (w100 hw) (w101 hw) (w44 hw) (w102 hw) (by decide) (hb hby dC33_32) (by rw [hml]; rfl) [(.ref u), (.int (1 : Int32))] (lenOf pd5 rfl) rfl rfl (Nat.le_of_ble_eq_true rfl) (Nat.le_of_ble_eq_true rfl) (Nat.le_of_ble_eq_true rfl) (Nat.le_of_ble_eq_true rfl) ?_
    intro v200 T200 V200 h200 S200 C200 q200
    obtain ⟨rfl, rfl⟩ := q200
    show Go p e below _ (T200.setTop (mkF m 35 #[.val (.ref a), .val (.int (0 : Int32)), .val (.int (3 : Int32)), .val (.ref b188), .val (.int (1 : Int32)), .val (.ref u)] [(.int c1)]))
    refine s_sipush S200 (hb hby dC33_35) (v := (255 : Int32)) rfl (pc' := 38) rfl ?_
    refine s_icmpY S200 (hb hby dC33_38) ((tlt hq190).2.2.1) (by decide) (pcT := 54) (by decide) ?_
    refine s_aload S200 (hb hby dC33_54) rfl rfl (pc' := 56) rfl ?_
    show Go p e below _ (T200.setTop (mkF m 56 #[.val (.ref a), .val (.int (0 : Int32)), .val (.int (3 : Int32)), .val (.ref b188), .val (.int (1 : Int32)), .val (.ref u)] [(.ref u)]))
    have X201 : Ext h h200 := ext_trans X197 Eu
    exact g_aret S200 (hb hby dC33_56) hret rfl rfl rfl ⟨u, ku, rfl, X201, Vu⟩
  · skip
    show Go p e below _ (T191.setTop (mkF m 12 #[.val (.ref a), .val (.int (0 : Int32)), .val (.int (3 : Int32)), .val (.ref b188), .unset, .unset] [(.int (2 : Int32))]))
    refine s_istore S191 (hb hby dC33_12) (L' := #[.val (.ref a), .val (.int (0 : Int32)), .val (.int (3 : Int32)), .val (.ref b188), .val (.int (2 : Int32)), .unset]) rfl (pc' := 14) rfl ?_
    refine s_iload S191 (hb hby dC33_14) rfl (pc' := 16) rfl ?_
    refine s_iloadN S191 (hb hby dC33_16) rfl (pc' := 17) rfl ?_
    refine s_icmpN S191 (hb hby dC33_17) (by decide) (pc' := 20) rfl ?_
    refine s_aloadN S191 (hb hby dC33_20) rfl rfl (pc' := 21) rfl ?_
    refine s_iloadN S191 (hb hby dC33_21) rfl (pc' := 22) rfl ?_
    refine s_iloadN S191 (hb hby dC33_22) rfl (pc' := 23) rfl ?_
    have X202 : Ext h h191 := ext_keep1 E188 Kq190 fr188
    have Va203 := Va.ext X202
    show Go p e below _ (T191.setTop (mkF m 23 #[.val (.ref a), .val (.int (0 : Int32)), .val (.int (3 : Int32)), .val (.ref b188), .val (.int (2 : Int32)), .unset] [(.int (3 : Int32)), (.int (0 : Int32)), (.ref a)]))
    refine g_static S191 (rmT3 X S191.old Va203) (fun _ q => nomatch q) (w84 hw) (w85 hw) (w44 hw) (w86 hw) (by decide) (hb hby dC33_23) (by rw [hml]; rfl) [(.ref a), (.int (0 : Int32)), (.int (3 : Int32))] (lenOf pd4 rfl) rfl rfl (Nat.le_of_ble_eq_true rfl) (Nat.le_of_ble_eq_true rfl) (Nat.le_of_ble_eq_true rfl) (Nat.le_of_ble_eq_true rfl) ?_
    intro v204 T204 V204 h204 S204 C204 q204
    obtain ⟨u, ku, rfl, Eu, Vu⟩ := q204
    show Go p e below _ (T204.setTop (mkF m 26 #[.val (.ref a), .val (.int (0 : Int32)), .val (.int (3 : Int32)), .val (.ref b188), .val (.int (2 : Int32)), .unset] [(.ref u)]))
    refine s_astore S204 (hb hby dC33_26) rfl (L' := #[.val (.ref a), .val (.int (0 : Int32)), .val (.int (3 : Int32)), .val (.ref b188), .val (.int (2 : Int32)), .val (.ref u)]) rfl (pc' := 28) rfl ?_
    refine s_aload S204 (hb hby dC33_28) rfl rfl (pc' := 30) rfl ?_
    refine s_iload S204 (hb hby dC33_30) rfl (pc' := 32) rfl ?_
    show Go p e below _ (T204.setTop (mkF m 32 #[.val (.ref a), .val (.int (0 : Int32)), .val (.int (3 : Int32)), .val (.ref b188), .val (.int (2 : Int32)), .val (.ref u)] [(.int (2 : Int32)), (.ref u)]))
    refine g_static S204 (rmGC32 X S204.old Vu rc2) (fun _ q => nomatch q) (w100 hw) (w101 hw) (w44 hw) (w102 hw) (by decide) (hb hby dC33_32) (by rw [hml]; rfl) [(.ref u), (.int (2 : Int32))] (lenOf pd5 rfl) rfl rfl (Nat.le_of_ble_eq_true rfl) (Nat.le_of_ble_eq_true rfl) (Nat.le_of_ble_eq_true rfl) (Nat.le_of_ble_eq_true rfl) ?_
    intro v205 T205 V205 h205 S205 C205 q205
    obtain ⟨rfl, rfl⟩ := q205
    show Go p e below _ (T205.setTop (mkF m 35 #[.val (.ref a), .val (.int (0 : Int32)), .val (.int (3 : Int32)), .val (.ref b188), .val (.int (2 : Int32)), .val (.ref u)] [(.int c2)]))
    refine s_sipush S205 (hb hby dC33_35) (v := (255 : Int32)) rfl (pc' := 38) rfl ?_
    refine s_icmpY S205 (hb hby dC33_38) ((tlt hq190).2.2.1) (by decide) (pcT := 54) (by decide) ?_
    refine s_aload S205 (hb hby dC33_54) rfl rfl (pc' := 56) rfl ?_
    show Go p e below _ (T205.setTop (mkF m 56 #[.val (.ref a), .val (.int (0 : Int32)), .val (.int (3 : Int32)), .val (.ref b188), .val (.int (2 : Int32)), .val (.ref u)] [(.ref u)]))
    have X206 : Ext h h205 := ext_trans X202 Eu
    exact g_aret S205 (hb hby dC33_56) hret rfl rfl rfl ⟨u, ku, rfl, X206, Vu⟩
theorem dCL3_0 : decode jdk_52_method_15_code 0 = .ok (.iload_n 1, 1) := by decide +kernel
theorem dCL3_1 : decode jdk_52_method_15_code 1 = .ok (.aload_n 0, 1) := by decide +kernel
theorem dCL3_2 : decode jdk_52_method_15_code 2 = .ok (.arraylength, 1) := by decide +kernel
theorem dCL3_3 : decode jdk_52_method_15_code 3 = .ok (.isub, 1) := by decide +kernel
theorem dCL3_4 : decode jdk_52_method_15_code 4 = .ok (.bipush 31, 2) := by decide +kernel
theorem dCL3_6 : decode jdk_52_method_15_code 6 = .ok (.iushr, 1) := by decide +kernel
theorem dCL3_7 : decode jdk_52_method_15_code 7 = .ok (.i2b, 1) := by decide +kernel
theorem dCL3_8 : decode jdk_52_method_15_code 8 = .ok (.ireturn, 1) := by decide +kernel
set_option maxRecDepth 65536 in
set_option maxHeartbeats 40000000 in
theorem rmCL3 {l : Launch} {Z : State} {a0 : Array Value} {n0 : Nat} (X : Ctx Z a0) {u : Addr} {ku : ClassId} {vs : List Value} {dv : Value} {h : Heap} (hO : Old Z n0 h) (Vu : Arv Z h u ku .byte (6 : Int32) vs dv) :
    Ctr l Z EL1 n0 (⟨"java/lang/StringUTF16", "coderFromArrayLen", "([BI)B"⟩ : MethodName) jdk_52_method_15_code 2 (some .byte) ({ frames := 0, cells := 0, slots := 0, locals := 0 } : Room) #[(.ref u), (.int (3 : Int32))] h [] (fun v h' => v = some (.int 1) ∧ h' = h) := by
  have hw := X.hw
  obtain ⟨z1, hz1, hz2⟩ := X.2.2.1
  refine Ctr.intro (a0 := a0) (plainFor_of_name pn0) hO X.ew ?_
  intro p e s m below meth c T0 V0 S0 hby hml hret hnm hsf
  rw [ef1]
  refine s_iloadN S0 (hb hby dCL3_0) rfl (pc' := 1) rfl ?_
  refine s_aloadN S0 (hb hby dCL3_1) rfl rfl (pc' := 2) rfl ?_
  refine g_len S0 Vu (hb hby dCL3_2) ?_
  show Go p e below _ (T0.setTop (mkF m 3 #[.val (.ref u), .val (.int (3 : Int32))] [(.int (6 : Int32)), (.int (3 : Int32))]))
  refine s_isub S0 (hb hby dCL3_3) (z := (-3 : Int32)) rfl (pc' := 4) rfl ?_
  refine s_bipush S0 (hb hby dCL3_4) (v := (31 : Int32)) rfl (pc' := 6) rfl ?_
  refine s_iushr S0 (hb hby dCL3_6) (z := (1 : Int32)) (by decide) (pc' := 7) rfl ?_
  refine s_i2b S0 (hb hby dCL3_7) (z := (1 : Int32)) (by decide) (pc' := 8) rfl ?_
  exact g_iretN S0 (hb hby dCL3_8) hret (by simp) ⟨rfl, rfl⟩
theorem dW43_0 : decode jdk_42_method_149_code 0 = .ok (.aload_n 0, 1) := by decide +kernel
theorem dW43_1 : decode jdk_42_method_149_code 1 = .ok (.invokespecial 1, 3) := by decide +kernel
theorem dW43_4 : decode jdk_42_method_149_code 4 = .ok (.iload_n 3, 1) := by decide +kernel
theorem dW43_5 : decode jdk_42_method_149_code 5 = .ok (.ifCond .ne 22, 3) := by decide +kernel
theorem dW43_27 : decode jdk_42_method_149_code 27 = .ok (.getstatic 38, 3) := by decide +kernel
theorem dW43_30 : decode jdk_42_method_149_code 30 = .ok (.ifCond .eq 28, 3) := by decide +kernel
theorem dW43_33 : decode jdk_42_method_149_code 33 = .ok (.aload_n 1, 1) := by decide +kernel
theorem dW43_34 : decode jdk_42_method_149_code 34 = .ok (.iload_n 2, 1) := by decide +kernel
theorem dW43_35 : decode jdk_42_method_149_code 35 = .ok (.iload_n 3, 1) := by decide +kernel
theorem dW43_36 : decode jdk_42_method_149_code 36 = .ok (.invokestatic 177, 3) := by decide +kernel
theorem dW43_39 : decode jdk_42_method_149_code 39 = .ok (.astore 5, 2) := by decide +kernel
theorem dW43_41 : decode jdk_42_method_149_code 41 = .ok (.aload_n 0, 1) := by decide +kernel
theorem dW43_42 : decode jdk_42_method_149_code 42 = .ok (.aload 5, 2) := by decide +kernel
theorem dW43_44 : decode jdk_42_method_149_code 44 = .ok (.iload_n 3, 1) := by decide +kernel
theorem dW43_45 : decode jdk_42_method_149_code 45 = .ok (.invokestatic 47, 3) := by decide +kernel
theorem dW43_48 : decode jdk_42_method_149_code 48 = .ok (.putfield 15, 3) := by decide +kernel
theorem dW43_51 : decode jdk_42_method_149_code 51 = .ok (.aload_n 0, 1) := by decide +kernel
theorem dW43_52 : decode jdk_42_method_149_code 52 = .ok (.aload 5, 2) := by decide +kernel
theorem dW43_54 : decode jdk_42_method_149_code 54 = .ok (.putfield 9, 3) := by decide +kernel
theorem dW43_57 : decode jdk_42_method_149_code 57 = .ok (.return_, 1) := by decide +kernel
set_option maxRecDepth 65536 in
set_option maxHeartbeats 40000000 in
theorem rmW43 {l : Launch} {Z : State} {a0 : Array Value} {n0 : Nat} (X : Ctx Z a0) {x b : Addr} {kb : ClassId} {c0 c1 c2 : Int32} {v0 c0_ dv : Value} (na : n0 ≤ x) {h : Heap} (hO : Old Z n0 h) (E : Exa Z h x ST) (Fv : Fld Z h x ST "value" "[B" v0) (Fc : Fld Z h x ST "coder" "B" c0_) (Vb : Arv Z h b kb .char (3 : Int32) [(.int c0), (.int c1), (.int c2)] dv) (rc0 : ¬ c0 < 0 ∧ ¬ (65535 : Int32) < c0) (rc1 : ¬ c1 < 0 ∧ ¬ (65535 : Int32) < c1) (rc2 : ¬ c2 < 0 ∧ ¬ (65535 : Int32) < c2) (hwd : (255 : Int32) < c0 ∨ (255 : Int32) < c1 ∨ (255 : Int32) < c2) :
    Ctr l Z EL1 n0 (⟨"java/lang/String", "<init>", "([CIILjava/lang/Void;)V"⟩ : MethodName) jdk_42_method_149_code 6 none ({ frames := 4, cells := 2, slots := 9, locals := 65 } : Room) #[(.ref x), (.ref b), (.int (0 : Int32)), (.int (3 : Int32)), .null] h [x] (fun v h' => v = none ∧ Keep h h' [x] ∧ StrF Z h' x [c0, c1, c2]) := by
  have hw := X.hw
  obtain ⟨z1, hz1, hz2⟩ := X.2.2.1
  refine Ctr.intro (a0 := a0) (plainFor_of_name pn1) hO X.ew ?_
  intro p e s m below meth c T0 V0 S0 hby hml hret hnm hsf
  rw [ef7]
  refine s_aloadN S0 (hb hby dW43_0) rfl rfl (pc' := 1) rfl ?_
  refine g_initO S0 (w16 hw) (w17 hw) (w18 hw) (by rw [hml]; rfl) (hb hby dW43_1) (Nat.le_of_ble_eq_true rfl) (Nat.le_of_ble_eq_true rfl) ?_
  intro T207 ST207
  show Go p e below _ (T207.setTop (mkF m 4 #[.val (.ref x), .val (.ref b), .val (.int (0 : Int32)), .val (.int (3 : Int32)), .val .null, .unset] []))
  refine s_iloadN ST207 (hb hby dW43_4) rfl (pc' := 5) rfl ?_
  refine s_ifY ST207 (hb hby dW43_5) (by decide) (by decide) (pcT := 27) (by decide) ?_
  refine g_getS ST207 (w41 hw) Via.refl (hz1.ext ST207.old.2) (hb hby dW43_27) ?_
  intro T208 ST208
  show Go p e below _ (T208.setTop (mkF m 30 #[.val (.ref x), .val (.ref b), .val (.int (0 : Int32)), .val (.int (3 : Int32)), .val .null, .unset] [(.int z1)]))
  refine s_ifN ST208 (hb hby dW43_30) ((if0 _ _).trans (feq hz2).1) (pc' := 33) rfl ?_
  refine s_aloadN ST208 (hb hby dW43_33) rfl rfl (pc' := 34) rfl ?_
  refine s_iloadN ST208 (hb hby dW43_34) rfl (pc' := 35) rfl ?_
  refine s_iloadN ST208 (hb hby dW43_35) rfl (pc' := 36) rfl ?_
  show Go p e below _ (T208.setTop (mkF m 36 #[.val (.ref x), .val (.ref b), .val (.int (0 : Int32)), .val (.int (3 : Int32)), .val .null, .unset] [(.int (3 : Int32)), (.int (0 : Int32)), (.ref b)]))
  refine g_static ST208 (rmC33 X ST208.old Vb rc0 rc1 rc2 hwd) (fun _ q => nomatch q) (w42 hw) (w43 hw) (w44 hw) (w45 hw) (by decide) (hb hby dW43_36) (by rw [hml]; rfl) [(.ref b), (.int (0 : Int32)), (.int (3 : Int32))] (lenOf pd4 rfl) rfl rfl (Nat.le_of_ble_eq_true rfl) (Nat.le_of_ble_eq_true rfl) (Nat.le_of_ble_eq_true rfl) (Nat.le_of_ble_eq_true rfl) ?_
  intro v209 T209 V209 h209 S209 C209 q209
  obtain ⟨u, ku, rfl, Eu, Vu⟩ := q209
  have sf210 := C209.safe E.lt (hsf x List.mem_cons_self)
  have neu : u ≠ x := fun q => by obtain ⟨c1, A1, -⟩ := Vu; exact ne_arr (E.ext Eu) (w6 hw) A1 q.symm
  show Go p e below _ (T209.setTop (mkF m 39 #[.val (.ref x), .val (.ref b), .val (.int (0 : Int32)), .val (.int (3 : Int32)), .val .null, .unset] [(.ref u)]))
  refine s_astore S209 (hb hby dW43_39) rfl (L' := #[.val (.ref x), .val (.ref b), .val (.int (0 : Int32)), .val (.int (3 : Int32)), .val .null, .val (.ref u)]) rfl (pc' := 41) rfl ?_
  refine s_aloadN S209 (hb hby dW43_41) rfl rfl (pc' := 42) rfl ?_
  refine s_aload S209 (hb hby dW43_42) rfl rfl (pc' := 44) rfl ?_
  refine s_iloadN S209 (hb hby dW43_44) rfl (pc' := 45) rfl ?_
  show Go p e below _ (T209.setTop (mkF m 45 #[.val (.ref x), .val (.ref b), .val (.int (0 : Int32)), .val (.int (3 : Int32)), .val .null, .val (.ref u)] [(.int (3 : Int32)), (.ref u), (.ref x)]))
  refine g_static S209 (rmCL3 X S209.old Vu) (fun _ q => nomatch q) (w49 hw) (w50 hw) (w44 hw) (w51 hw) (by decide) (hb hby dW43_45) (by rw [hml]; rfl) [(.ref u), (.int (3 : Int32))] (lenOf pd6 rfl) rfl rfl (Nat.le_of_ble_eq_true rfl) (Nat.le_of_ble_eq_true rfl) (Nat.le_of_ble_eq_true rfl) (Nat.le_of_ble_eq_true rfl) ?_
  intro v211 T211 V211 h211 S211 C211 q211
  obtain ⟨rfl, rfl⟩ := q211
  have sf212 := C211.safe (Nat.lt_of_lt_of_le E.lt (Nat.le_trans (Nat.le_refl _) Eu.1)) sf210
  show Go p e below _ (T211.setTop (mkF m 48 #[.val (.ref x), .val (.ref b), .val (.int (0 : Int32)), .val (.int (3 : Int32)), .val .null, .val (.ref u)] [(.int (1 : Int32)), (.ref x)]))
  show Go p e below _ (T211.setTop (mkF m 48 #[.val (.ref x), .val (.ref b), .val (.int (0 : Int32)), .val (.int (3 : Int32)), .val .null, .val (.ref u)] [(.int (1 : Int32)), (.ref x)]))
  have Fc214 := Fc.ext Eu
  have E215 := E.ext Eu
  have Fv216 := Fv.ext Eu
  refine g_putF S211 (w26 hw) Via.refl Fc214 E215 (Or.inr ⟨(w22 hw), rfl, hnm⟩) (w6 hw) (ty := .byte) (v' := (.int (1 : Int32))) (by decide) rfl rfl na sf212 (hb hby dW43_48) ?_
  intro T213 h213 S213 K213 W213 A213 F213 sg213
  have sf217 := Safe.keep K213 (sfS sf212 sf0) S211.chv sf212
  have F218 := Fv216.other W213 (Or.inr (slot_ne (Or.inr (w21 hw)) (Or.inr (w22 hw)) (by decide) (t := (.array .byte)) (t' := .byte) (by decide) (by decide)))
  show Go p e below _ (T213.setTop (mkF m 51 #[.val (.ref x), .val (.ref b), .val (.int (0 : Int32)), .val (.int (3 : Int32)), .val .null, .val (.ref u)] []))
  refine s_aloadN S213 (hb hby dW43_51) rfl rfl (pc' := 52) rfl ?_
  refine s_aload S213 (hb hby dW43_52) rfl rfl (pc' := 54) rfl ?_
  show Go p e below _ (T213.setTop (mkF m 54 #[.val (.ref x), .val (.ref b), .val (.int (0 : Int32)), .val (.int (3 : Int32)), .val .null, .val (.ref u)] [(.ref u), (.ref x)]))
  refine g_putF S213 (w25 hw) Via.refl F218 A213 (Or.inr ⟨(w21 hw), rfl, hnm⟩) (w6 hw) (ty := (.array .byte)) (v' := (.ref u)) (by decide) rfl rfl na sg213 (hb hby dW43_54) ?_
  intro T219 h219 S219 K219 W219 A219 F219 sg219
  have sf220 := Safe.keep K219 (sfS sg213 sf0) S213.chv sg213
  have F221 := F213.other W219 (Or.inr (slot_ne (Or.inr (w22 hw)) (Or.inr (w21 hw)) (by decide) (t := .byte) (t' := (.array .byte)) (by decide) (by decide)))
  show Go p e below _ (T219.setTop (mkF m 57 #[.val (.ref x), .val (.ref b), .val (.int (0 : Int32)), .val (.int (3 : Int32)), .val .null, .val (.ref u)] []))
  show Go p e below _ (T219.setTop (mkF m 57 #[.val (.ref x), .val (.ref b), .val (.int (0 : Int32)), .val (.int (3 : Int32)), .val .null, .val (.ref u)] []))
  have KA222 : Keep h h219 [x] := ((((Keep.refl h [x]).ext Eu).trans K213 (fun y hy => Or.inl hy)).trans K219 (fun y hy => Or.inl hy))
  have F223 := Vu.keep K213 (ninS neu nin0)
  have F224 := F223.keep K219 (ninS neu nin0)
  exact g_ret S219 (hb hby dW43_57) hret ⟨rfl, KA222, u, ku, 1, _, _, A219, F219, F221, F224, Or.inr ⟨rfl, rfl, rfl, own_ex3 hwd⟩, (faS rc0 (faS rc1 (faS rc2 (fa0)))), (Nat.le_of_ble_eq_true rfl)⟩
theorem dW13_0 : decode jdk_42_method_3_code 0 = .ok (.aload_n 0, 1) := by decide +kernel
theorem dW13_1 : decode jdk_42_method_3_code 1 = .ok (.aload_n 1, 1) := by decide +kernel
theorem dW13_2 : decode jdk_42_method_3_code 2 = .ok (.iconst 0, 1) := by decide +kernel
theorem dW13_3 : decode jdk_42_method_3_code 3 = .ok (.aload_n 1, 1) := by decide +kernel
theorem dW13_4 : decode jdk_42_method_3_code 4 = .ok (.arraylength, 1) := by decide +kernel
theorem dW13_5 : decode jdk_42_method_3_code 5 = .ok (.aconst_null, 1) := by decide +kernel
theorem dW13_6 : decode jdk_42_method_3_code 6 = .ok (.invokespecial 27, 3) := by decide +kernel
theorem dW13_9 : decode jdk_42_method_3_code 9 = .ok (.return_, 1) := by decide +kernel
set_option maxRecDepth 65536 in
set_option maxHeartbeats 40000000 in
theorem rmW13 {l : Launch} {Z : State} {a0 : Array Value} {n0 : Nat} (X : Ctx Z a0) {x b : Addr} {kb : ClassId} {c0 c1 c2 : Int32} {v0 c0_ dv : Value} (na : n0 ≤ x) {h : Heap} (hO : Old Z n0 h) (E : Exa Z h x ST) (Fv : Fld Z h x ST "value" "[B" v0) (Fc : Fld Z h x ST "coder" "B" c0_) (Vb : Arv Z h b kb .char (3 : Int32) [(.int c0), (.int c1), (.int c2)] dv) (rc0 : ¬ c0 < 0 ∧ ¬ (65535 : Int32) < c0) (rc1 : ¬ c1 < 0 ∧ ¬ (65535 : Int32) < c1) (rc2 : ¬ c2 < 0 ∧ ¬ (65535 : Int32) < c2) (hwd : (255 : Int32) < c0 ∨ (255 : Int32) < c1 ∨ (255 : Int32) < c2) :
    Ctr l Z EL1 n0 (⟨"java/lang/String", "<init>", "([C)V"⟩ : MethodName) jdk_42_method_3_code 2 none ({ frames := 5, cells := 2, slots := 9, locals := 82 } : Room) #[(.ref x), (.ref b)] h [x] (fun v h' => v = none ∧ Keep h h' [x] ∧ StrF Z h' x [c0, c1, c2]) := by
  have hw := X.hw
  obtain ⟨z1, hz1, hz2⟩ := X.2.2.1
  refine Ctr.intro (a0 := a0) (plainFor_of_name pn1) hO X.ew ?_
  intro p e s m below meth c T0 V0 S0 hby hml hret hnm hsf
  rw [ef8]
  refine s_aloadN S0 (hb hby dW13_0) rfl rfl (pc' := 1) rfl ?_
  refine s_aloadN S0 (hb hby dW13_1) rfl rfl (pc' := 2) rfl ?_
  refine s_iconst S0 (hb hby dW13_2) (v := (0 : Int32)) rfl (pc' := 3) rfl ?_
  refine s_aloadN S0 (hb hby dW13_3) rfl rfl (pc' := 4) rfl ?_
  refine g_len S0 Vb (hb hby dW13_4) ?_
  show Go p e below _ (T0.setTop (mkF m 5 #[.val (.ref x), .val (.ref b)] [(.int (3 : Int32)), (.int (0 : Int32)), (.ref b), (.ref x)]))
  refine s_null S0 (hb hby dW13_5) (pc' := 6) rfl ?_
  show Go p e below _ (T0.setTop (mkF m 6 #[.val (.ref x), .val (.ref b)] [.null, (.int (3 : Int32)), (.int (0 : Int32)), (.ref b), (.ref x)]))
  refine g_special S0 (rmW43 X na S0.old E Fv Fc Vb rc0 rc1 rc2 hwd) (sf1 E.lt (hsf x List.mem_cons_self)) rfl (w12 hw) (w13 hw) (w7 hw) (w15 hw) (by decide) (hb hby dW13_6) (by rw [hml]; rfl) x [(.ref b), (.int (0 : Int32)), (.int (3 : Int32)), .null] (lenOf pd7 rfl) rfl rfl (Nat.le_of_ble_eq_true rfl) (Nat.le_of_ble_eq_true rfl) (Nat.le_of_ble_eq_true rfl) (Nat.le_of_ble_eq_true rfl) ?_
  intro v225 T225 V225 h225 S225 C225 q225
  obtain ⟨rfl, K6, F6⟩ := q225
  show Go p e below _ (T225.setTop (mkF m 9 #[.val (.ref x), .val (.ref b)] []))
  exact g_ret S225 (hb hby dW13_9) hret ⟨rfl, K6, F6⟩
theorem dPK10r_0 : decode jdk_41_method_11_code 0 = .ok (.iload_n 0, 1) := by decide +kernel
theorem dPK10r_1 : decode jdk_41_method_11_code 1 = .ok (.ifCond .lt 8, 3) := by decide +kernel
theorem dPK10r_4 : decode jdk_41_method_11_code 4 = .ok (.iload_n 0, 1) := by decide +kernel
theorem dPK10r_5 : decode jdk_41_method_11_code 5 = .ok (.iload_n 1, 1) := by decide +kernel
theorem dPK10r_6 : decode jdk_41_method_11_code 6 = .ok (.if_icmp .lt 10, 3) := by decide +kernel
theorem dPK10r_16 : decode jdk_41_method_11_code 16 = .ok (.iload_n 0, 1) := by decide +kernel
theorem dPK10r_17 : decode jdk_41_method_11_code 17 = .ok (.ireturn, 1) := by decide +kernel
set_option maxRecDepth 65536 in
set_option maxHeartbeats 40000000 in
theorem rmPK10r {l : Launch} {Z : State} {a0 : Array Value} {n0 : Nat} (X : Ctx Z a0) (fb : Addr) {h : Heap} (hO : Old Z n0 h)  :
    Ctr l Z EL1 n0 (⟨"jdk/internal/util/Preconditions", "checkIndex", "(IILjava/util/function/BiFunction;)I"⟩ : MethodName) jdk_41_method_11_code 3 (some .int) ({ frames := 0, cells := 0, slots := 0, locals := 0 } : Room) #[(.int (0 : Int32)), (.int (1 : Int32)), (.ref fb)] h [] (fun v h' => v = some (.int (0 : Int32)) ∧ h' = h) := by
  have hw := X.hw
  obtain ⟨z1, hz1, hz2⟩ := X.2.2.1
  refine Ctr.intro (a0 := a0) (plainFor_of_name pn2) hO X.ew ?_
  intro p e s m below meth c T0 V0 S0 hby hml hret hnm hsf
  rw [ef9]
  refine s_iloadN S0 (hb hby dPK10r_0) rfl (pc' := 1) rfl ?_
  refine s_ifN S0 (hb hby dPK10r_1) (by decide) (pc' := 4) rfl ?_
  refine s_iloadN S0 (hb hby dPK10r_4) rfl (pc' := 5) rfl ?_
  refine s_iloadN S0 (hb hby dPK10r_5) rfl (pc' := 6) rfl ?_
  refine s_icmpY S0 (hb hby dPK10r_6) (by decide) (by decide) (pcT := 16) (by decide) ?_
  refine s_iloadN S0 (hb hby dPK10r_16) rfl (pc' := 17) rfl ?_
  exact g_iret S0 (hb hby dPK10r_17) hret ⟨rfl, rfl⟩
theorem dPK10n_0 : decode jdk_41_method_11_code 0 = .ok (.iload_n 0, 1) := by decide +kernel
theorem dPK10n_1 : decode jdk_41_method_11_code 1 = .ok (.ifCond .lt 8, 3) := by decide +kernel
theorem dPK10n_4 : decode jdk_41_method_11_code 4 = .ok (.iload_n 0, 1) := by decide +kernel
theorem dPK10n_5 : decode jdk_41_method_11_code 5 = .ok (.iload_n 1, 1) := by decide +kernel
theorem dPK10n_6 : decode jdk_41_method_11_code 6 = .ok (.if_icmp .lt 10, 3) := by decide +kernel
theorem dPK10n_16 : decode jdk_41_method_11_code 16 = .ok (.iload_n 0, 1) := by decide +kernel
theorem dPK10n_17 : decode jdk_41_method_11_code 17 = .ok (.ireturn, 1) := by decide +kernel
set_option maxRecDepth 65536 in
set_option maxHeartbeats 40000000 in
theorem rmPK10n {l : Launch} {Z : State} {a0 : Array Value} {n0 : Nat} (X : Ctx Z a0)  {h : Heap} (hO : Old Z n0 h)  :
    Ctr l Z EL1 n0 (⟨"jdk/internal/util/Preconditions", "checkIndex", "(IILjava/util/function/BiFunction;)I"⟩ : MethodName) jdk_41_method_11_code 3 (some .int) ({ frames := 0, cells := 0, slots := 0, locals := 0 } : Room) #[(.int (0 : Int32)), (.int (1 : Int32)), .null] h [] (fun v h' => v = some (.int (0 : Int32)) ∧ h' = h) := by
  have hw := X.hw
  obtain ⟨z1, hz1, hz2⟩ := X.2.2.1
  refine Ctr.intro (a0 := a0) (plainFor_of_name pn2) hO X.ew ?_
  intro p e s m below meth c T0 V0 S0 hby hml hret hnm hsf
  rw [ef10]
  refine s_iloadN S0 (hb hby dPK10n_0) rfl (pc' := 1) rfl ?_
  refine s_ifN S0 (hb hby dPK10n_1) (by decide) (pc' := 4) rfl ?_
  refine s_iloadN S0 (hb hby dPK10n_4) rfl (pc' := 5) rfl ?_
  refine s_iloadN S0 (hb hby dPK10n_5) rfl (pc' := 6) rfl ?_
  refine s_icmpY S0 (hb hby dPK10n_6) (by decide) (by decide) (pcT := 16) (by decide) ?_
  refine s_iloadN S0 (hb hby dPK10n_16) rfl (pc' := 17) rfl ?_
  exact g_iret S0 (hb hby dPK10n_17) hret ⟨rfl, rfl⟩
theorem dSK10_0 : decode jdk_42_method_155_code 0 = .ok (.iload_n 0, 1) := by decide +kernel
theorem dSK10_1 : decode jdk_42_method_155_code 1 = .ok (.iload_n 1, 1) := by decide +kernel
theorem dSK10_2 : decode jdk_42_method_155_code 2 = .ok (.getstatic 1053, 3) := by decide +kernel
theorem dSK10_5 : decode jdk_42_method_155_code 5 = .ok (.invokestatic 1059, 3) := by decide +kernel
theorem dSK10_8 : decode jdk_42_method_155_code 8 = .ok (.pop, 1) := by decide +kernel
theorem dSK10_9 : decode jdk_42_method_155_code 9 = .ok (.return_, 1) := by decide +kernel
set_option maxRecDepth 65536 in
set_option maxHeartbeats 40000000 in
theorem rmSK10 {l : Launch} {Z : State} {a0 : Array Value} {n0 : Nat} (X : Ctx Z a0)  {h : Heap} (hO : Old Z n0 h)  :
    Ctr l Z EL1 n0 (⟨"java/lang/String", "checkIndex", "(II)V"⟩ : MethodName) jdk_42_method_155_code 2 none ({ frames := 1, cells := 0, slots := 0, locals := 14 } : Room) #[(.int (0 : Int32)), (.int (1 : Int32))] h [] (fun v h' => v = none ∧ h' = h) := by
  have hw := X.hw
  obtain ⟨z1, hz1, hz2⟩ := X.2.2.1
  refine Ctr.intro (a0 := a0) (plainFor_of_name pn1) hO X.ew ?_
  intro p e s m below meth c T0 V0 S0 hby hml hret hnm hsf
  rw [ef11]
  obtain ⟨fm, hfm, rfm⟩ := X.fm
  rcases ref_cases rfm with rfl | ⟨fb, rfl⟩
  · skip
    refine s_iloadN S0 (hb hby dSK10_0) rfl (pc' := 1) rfl ?_
    refine s_iloadN S0 (hb hby dSK10_1) rfl (pc' := 2) rfl ?_
    refine g_getS S0 (w72 hw) Via.refl (hfm.ext S0.old.2) (hb hby dSK10_2) ?_
    intro T226 ST226
    show Go p e below _ (T226.setTop (mkF m 5 #[.val (.int (0 : Int32)), .val (.int (1 : Int32))] [.null, (.int (1 : Int32)), (.int (0 : Int32))]))
    show Go p e below _ (T226.setTop (mkF m 5 #[.val (.int (0 : Int32)), .val (.int (1 : Int32))] [.null, (.int (1 : Int32)), (.int (0 : Int32))]))
    refine g_static ST226 (rmPK10n X ST226.old) (fun _ q => nomatch q) (w74 hw) (w75 hw) (w73 hw) (w76 hw) (by decide) (hb hby dSK10_5) (by rw [hml]; rfl) [(.int (0 : Int32)), (.int (1 : Int32)), .null] (lenOf pd8 rfl) rfl rfl (Nat.le_of_ble_eq_true rfl) (Nat.le_of_ble_eq_true rfl) (Nat.le_of_ble_eq_true rfl) (Nat.le_of_ble_eq_true rfl) ?_
    intro v227 T227 V227 h227 S227 C227 q227
    obtain ⟨rfl, rfl⟩ := q227
    show Go p e below _ (T227.setTop (mkF m 8 #[.val (.int (0 : Int32)), .val (.int (1 : Int32))] [(.int (0 : Int32))]))
    refine s_pop S227 (hb hby dSK10_8) rfl (pc' := 9) rfl ?_
    exact g_ret S227 (hb hby dSK10_9) hret ⟨rfl, rfl⟩
  · skip
    refine s_iloadN S0 (hb hby dSK10_0) rfl (pc' := 1) rfl ?_
    refine s_iloadN S0 (hb hby dSK10_1) rfl (pc' := 2) rfl ?_
    refine g_getS S0 (w72 hw) Via.refl (hfm.ext S0.old.2) (hb hby dSK10_2) ?_
    intro T228 ST228
    show Go p e below _ (T228.setTop (mkF m 5 #[.val (.int (0 : Int32)), .val (.int (1 : Int32))] [(.ref fb), (.int (1 : Int32)), (.int (0 : Int32))]))
    show Go p e below _ (T228.setTop (mkF m 5 #[.val (.int (0 : Int32)), .val (.int (1 : Int32))] [(.ref fb), (.int (1 : Int32)), (.int (0 : Int32))]))
    refine g_static ST228 (rmPK10r X fb ST228.old) (fun _ q => nomatch q) (w74 hw) (w75 hw) (w73 hw) (w76 hw) (by decide) (hb hby dSK10_5) (by rw [hml]; rfl) [(.int (0 : Int32)), (.int (1 : Int32)), (.ref fb)] (lenOf pd8 rfl) rfl rfl (Nat.le_of_ble_eq_true rfl) (Nat.le_of_ble_eq_true rfl) (Nat.le_of_ble_eq_true rfl) (Nat.le_of_ble_eq_true rfl) ?_
    intro v229 T229 V229 h229 S229 C229 q229
    obtain ⟨rfl, rfl⟩ := q229
    show Go p e below _ (T229.setTop (mkF m 8 #[.val (.int (0 : Int32)), .val (.int (1 : Int32))] [(.int (0 : Int32))]))
    refine s_pop S229 (hb hby dSK10_8) rfl (pc' := 9) rfl ?_
    exact g_ret S229 (hb hby dSK10_9) hret ⟨rfl, rfl⟩
theorem dUK10_0 : decode jdk_52_method_91_code 0 = .ok (.iload_n 0, 1) := by decide +kernel
theorem dUK10_1 : decode jdk_52_method_91_code 1 = .ok (.aload_n 1, 1) := by decide +kernel
theorem dUK10_2 : decode jdk_52_method_91_code 2 = .ok (.invokestatic 48, 3) := by decide +kernel
theorem dUK10_5 : decode jdk_52_method_91_code 5 = .ok (.invokestatic 414, 3) := by decide +kernel
theorem dUK10_8 : decode jdk_52_method_91_code 8 = .ok (.return_, 1) := by decide +kernel
set_option maxRecDepth 65536 in
set_option maxHeartbeats 40000000 in
theorem rmUK10 {l : Launch} {Z : State} {a0 : Array Value} {n0 : Nat} (X : Ctx Z a0) {u : Addr} {ku : ClassId} {c0 : Int32} {h : Heap} (hO : Old Z n0 h) (Vu : Arv Z h u ku .byte (2 : Int32) [(.int (StrChars.lo8 c0)), (.int (StrChars.hi8 c0))] (.int (0 : Int32))) :
    Ctr l Z EL1 n0 (⟨"java/lang/StringUTF16", "checkIndex", "(I[B)V"⟩ : MethodName) jdk_52_method_91_code 2 none ({ frames := 2, cells := 0, slots := 0, locals := 28 } : Room) #[(.int (0 : Int32)), (.ref u)] h [] (fun v h' => v = none ∧ h' = h) := by
  have hw := X.hw
  obtain ⟨z1, hz1, hz2⟩ := X.2.2.1
  refine Ctr.intro (a0 := a0) (plainFor_of_name pn0) hO X.ew ?_
  intro p e s m below meth c T0 V0 S0 hby hml hret hnm hsf
  rw [ef12]
  refine s_iloadN S0 (hb hby dUK10_0) rfl (pc' := 1) rfl ?_
  refine s_aloadN S0 (hb hby dUK10_1) rfl rfl (pc' := 2) rfl ?_
  show Go p e below _ (T0.setTop (mkF m 2 #[.val (.int (0 : Int32)), .val (.ref u)] [(.ref u), (.int (0 : Int32))]))
  refine g_static S0 (rmUL1 X S0.old Vu) (fun _ q => nomatch q) (w109 hw) (w110 hw) (w44 hw) (w111 hw) (by decide) (hb hby dUK10_2) (by rw [hml]; rfl) [(.ref u)] (lenOf pd9 rfl) rfl rfl (Nat.le_of_ble_eq_true rfl) (Nat.le_of_ble_eq_true rfl) (Nat.le_of_ble_eq_true rfl) (Nat.le_of_ble_eq_true rfl) ?_
  intro v230 T230 V230 h230 S230 C230 q230
  obtain ⟨rfl, rfl⟩ := q230
  show Go p e below _ (T230.setTop (mkF m 5 #[.val (.int (0 : Int32)), .val (.ref u)] [(.int (1 : Int32)), (.int (0 : Int32))]))
  show Go p e below _ (T230.setTop (mkF m 5 #[.val (.int (0 : Int32)), .val (.ref u)] [(.int (1 : Int32)), (.int (0 : Int32))]))
  refine g_static S230 (rmSK10 X S230.old) (fun _ q => nomatch q) (w112 hw) (w70 hw) (w7 hw) (w71 hw) (by decide) (hb hby dUK10_5) (by rw [hml]; rfl) [(.int (0 : Int32)), (.int (1 : Int32))] (lenOf pd10 rfl) rfl rfl (Nat.le_of_ble_eq_true rfl) (Nat.le_of_ble_eq_true rfl) (Nat.le_of_ble_eq_true rfl) (Nat.le_of_ble_eq_true rfl) ?_
  intro v231 T231 V231 h231 S231 C231 q231
  obtain ⟨rfl, rfl⟩ := q231
  show Go p e below _ (T231.setTop (mkF m 8 #[.val (.int (0 : Int32)), .val (.ref u)] []))
  exact g_ret S231 (hb hby dUK10_8) hret ⟨rfl, rfl⟩
theorem dUC10_0 : decode jdk_52_method_83_code 0 = .ok (.iload_n 1, 1) := by decide +kernel
theorem dUC10_1 : decode jdk_52_method_83_code 1 = .ok (.aload_n 0, 1) := by decide +kernel
theorem dUC10_2 : decode jdk_52_method_83_code 2 = .ok (.invokestatic 67, 3) := by decide +kernel
theorem dUC10_5 : decode jdk_52_method_83_code 5 = .ok (.aload_n 0, 1) := by decide +kernel
theorem dUC10_6 : decode jdk_52_method_83_code 6 = .ok (.iload_n 1, 1) := by decide +kernel
theorem dUC10_7 : decode jdk_52_method_83_code 7 = .ok (.invokestatic 71, 3) := by decide +kernel
theorem dUC10_10 : decode jdk_52_method_83_code 10 = .ok (.ireturn, 1) := by decide +kernel
set_option maxRecDepth 65536 in
set_option maxHeartbeats 40000000 in
theorem rmUC10 {l : Launch} {Z : State} {a0 : Array Value} {n0 : Nat} (X : Ctx Z a0) {u : Addr} {ku : ClassId} {c0 : Int32} {h : Heap} (hO : Old Z n0 h) (Vu : Arv Z h u ku .byte (2 : Int32) [(.int (StrChars.lo8 c0)), (.int (StrChars.hi8 c0))] (.int (0 : Int32))) (r : ¬ c0 < 0 ∧ ¬ (65535 : Int32) < c0) :
    Ctr l Z EL1 n0 (⟨"java/lang/StringUTF16", "charAt", "([BI)C"⟩ : MethodName) jdk_52_method_83_code 2 (some .char) ({ frames := 3, cells := 0, slots := 0, locals := 41 } : Room) #[(.ref u), (.int (0 : Int32))] h [] (fun v h' => v = some (.int c0) ∧ h' = h) := by
  have hw := X.hw
  obtain ⟨z1, hz1, hz2⟩ := X.2.2.1
  refine Ctr.intro (a0 := a0) (plainFor_of_name pn0) hO X.ew ?_
  intro p e s m below meth c T0 V0 S0 hby hml hret hnm hsf
  rw [ef1]
  refine s_iloadN S0 (hb hby dUC10_0) rfl (pc' := 1) rfl ?_
  refine s_aloadN S0 (hb hby dUC10_1) rfl rfl (pc' := 2) rfl ?_
  show Go p e below _ (T0.setTop (mkF m 2 #[.val (.ref u), .val (.int (0 : Int32))] [(.ref u), (.int (0 : Int32))]))
  refine g_static S0 (rmUK10 X S0.old Vu) (fun _ q => nomatch q) (w106 hw) (w107 hw) (w44 hw) (w108 hw) (by decide) (hb hby dUC10_2) (by rw [hml]; rfl) [(.int (0 : Int32)), (.ref u)] (lenOf pd11 rfl) rfl rfl (Nat.le_of_ble_eq_true rfl) (Nat.le_of_ble_eq_true rfl) (Nat.le_of_ble_eq_true rfl) (Nat.le_of_ble_eq_true rfl) ?_
  intro v232 T232 V232 h232 S232 C232 q232
  obtain ⟨rfl, rfl⟩ := q232
  show Go p e below _ (T232.setTop (mkF m 5 #[.val (.ref u), .val (.int (0 : Int32))] []))
  refine s_aloadN S232 (hb hby dUC10_5) rfl rfl (pc' := 6) rfl ?_
  refine s_iloadN S232 (hb hby dUC10_6) rfl (pc' := 7) rfl ?_
  show Go p e below _ (T232.setTop (mkF m 7 #[.val (.ref u), .val (.int (0 : Int32))] [(.int (0 : Int32)), (.ref u)]))
  refine g_static S232 (rmGC10 X S232.old Vu r) (fun _ q => nomatch q) (w100 hw) (w101 hw) (w44 hw) (w102 hw) (by decide) (hb hby dUC10_7) (by rw [hml]; rfl) [(.ref u), (.int (0 : Int32))] (lenOf pd5 rfl) rfl rfl (Nat.le_of_ble_eq_true rfl) (Nat.le_of_ble_eq_true rfl) (Nat.le_of_ble_eq_true rfl) (Nat.le_of_ble_eq_true rfl) ?_
  intro v233 T233 V233 h233 S233 C233 q233
  obtain ⟨rfl, rfl⟩ := q233
  show Go p e below _ (T233.setTop (mkF m 10 #[.val (.ref u), .val (.int (0 : Int32))] [(.int c0)]))
  exact g_iretN S233 (hb hby dUC10_10) hret (by simp) ⟨by rw [narC r], rfl⟩
theorem dIS_0 : decode jdk_42_method_154_code 0 = .ok (.getstatic 38, 3) := by decide +kernel
theorem dIS_3 : decode jdk_42_method_154_code 3 = .ok (.ifCond .eq 14, 3) := by decide +kernel
theorem dIS_6 : decode jdk_42_method_154_code 6 = .ok (.aload_n 0, 1) := by decide +kernel
theorem dIS_7 : decode jdk_42_method_154_code 7 = .ok (.getfield 15, 3) := by decide +kernel
theorem dIS_10 : decode jdk_42_method_154_code 10 = .ok (.ifCond .ne 7, 3) := by decide +kernel
theorem dIS_17 : decode jdk_42_method_154_code 17 = .ok (.iconst 0, 1) := by decide +kernel
theorem dIS_18 : decode jdk_42_method_154_code 18 = .ok (.ireturn, 1) := by decide +kernel
set_option maxRecDepth 65536 in
set_option maxHeartbeats 40000000 in
theorem rmIS {l : Launch} {Z : State} {a0 : Array Value} {n0 : Nat} (X : Ctx Z a0) {x : Addr} {h : Heap} (hO : Old Z n0 h) (Fc : Fld Z h x ST "coder" "B" (.int 1)) :
    Ctr l Z EL1 n0 (⟨"java/lang/String", "isLatin1", "()Z"⟩ : MethodName) jdk_42_method_154_code 1 (some .boolean) ({ frames := 0, cells := 0, slots := 0, locals := 0 } : Room) #[(.ref x)] h [] (fun v h' => v = some (.int 0) ∧ h' = h) := by
  have hw := X.hw
  obtain ⟨z1, hz1, hz2⟩ := X.2.2.1
  refine Ctr.intro (a0 := a0) (plainFor_of_name pn1) hO X.ew ?_
  intro p e s m below meth c T0 V0 S0 hby hml hret hnm hsf
  rw [ef0]
  refine g_getS S0 (w41 hw) Via.refl (hz1.ext S0.old.2) (hb hby dIS_0) ?_
  intro T234 ST234
  show Go p e below _ (T234.setTop (mkF m 3 #[.val (.ref x)] [(.int z1)]))
  refine s_ifN ST234 (hb hby dIS_3) ((if0 _ _).trans (feq hz2).1) (pc' := 6) rfl ?_
  refine s_aloadN ST234 (hb hby dIS_6) rfl rfl (pc' := 7) rfl ?_
  refine g_getF ST234 (w26 hw) Via.refl Fc (hb hby dIS_7) ?_
  intro T235 ST235
  show Go p e below _ (T235.setTop (mkF m 10 #[.val (.ref x)] [(.int (1 : Int32))]))
  refine s_ifY ST235 (hb hby dIS_10) (by decide) (by decide) (pcT := 17) (by decide) ?_
  refine s_iconst ST235 (hb hby dIS_17) (v := (0 : Int32)) rfl (pc' := 18) rfl ?_
  exact g_iretN ST235 (hb hby dIS_18) hret (by simp) ⟨rfl, rfl⟩
theorem dCA10_0 : decode jdk_42_method_56_code 0 = .ok (.aload_n 0, 1) := by decide +kernel
theorem dCA10_1 : decode jdk_42_method_56_code 1 = .ok (.invokevirtual 492, 3) := by decide +kernel
theorem dCA10_4 : decode jdk_42_method_56_code 4 = .ok (.ifCond .eq 12, 3) := by decide +kernel
theorem dCA10_16 : decode jdk_42_method_56_code 16 = .ok (.aload_n 0, 1) := by decide +kernel
theorem dCA10_17 : decode jdk_42_method_56_code 17 = .ok (.getfield 9, 3) := by decide +kernel
theorem dCA10_20 : decode jdk_42_method_56_code 20 = .ok (.iload_n 1, 1) := by decide +kernel
theorem dCA10_21 : decode jdk_42_method_56_code 21 = .ok (.invokestatic 498, 3) := by decide +kernel
theorem dCA10_24 : decode jdk_42_method_56_code 24 = .ok (.ireturn, 1) := by decide +kernel
set_option maxRecDepth 65536 in
set_option maxHeartbeats 40000000 in
theorem rmCA10 {l : Launch} {Z : State} {a0 : Array Value} {n0 : Nat} (X : Ctx Z a0) {x : Addr} {c0 : Int32} {h : Heap} (hO : Old Z n0 h) (F : StrF Z h x [c0]) (hwd : (255 : Int32) < c0) :
    Ctr l Z EL1 n0 (⟨"java/lang/String", "charAt", "(I)C"⟩ : MethodName) jdk_42_method_56_code 2 (some .char) ({ frames := 4, cells := 0, slots := 0, locals := 54 } : Room) #[(.ref x), (.int (0 : Int32))] h [] (fun v h' => v = some (.int c0) ∧ h' = h) := by
  have hw := X.hw
  obtain ⟨z1, hz1, hz2⟩ := X.2.2.1
  refine Ctr.intro (a0 := a0) (plainFor_of_name pn1) hO X.ew ?_
  intro p e s m below meth c T0 V0 S0 hby hml hret hnm hsf
  rw [ef1]
  obtain ⟨u, ku, cd, N2, vs, f1, f2, f3, f4, f5, f6, f7⟩ := F
  rcases f5 with ⟨-, -, -, f5⟩ | ⟨rfl, rfl, rfl, -⟩
  · obtain ⟨cc, hcc, hb_⟩ := own_ex1 hwd; exact absurd hb_ (f5 cc hcc)
  have Vu : Arv Z h u ku .byte (2 : Int32) [(.int (StrChars.lo8 c0)), (.int (StrChars.hi8 c0))] (.int (0 : Int32)) := f4
  show Go p e below _ (T0.setTop (mkF m 0 #[.val (.ref x), .val (.int (0 : Int32))] []))
  refine s_aloadN S0 (hb hby dCA10_0) rfl rfl (pc' := 1) rfl ?_
  show Go p e below _ (T0.setTop (mkF m 1 #[.val (.ref x), .val (.int (0 : Int32))] [(.ref x)]))
  refine g_virtual S0 (rmIS X S0.old f3) (fun _ q => nomatch q) (w60 hw) (w61 hw) (w63 hw) (w62 hw) (w7 hw) (w64 hw) (by decide) (fun _ h => notFace_of_selects h) (hb hby dCA10_1) (by rw [hml]; rfl) x f1 [] (lenOf pd12 rfl) rfl rfl (Nat.le_of_ble_eq_true rfl) (Nat.le_of_ble_eq_true rfl) (Nat.le_of_ble_eq_true rfl) (Nat.le_of_ble_eq_true rfl) ?_
  intro v236 T236 V236 h236 S236 C236 q236
  obtain ⟨rfl, rfl⟩ := q236
  show Go p e below _ (T236.setTop (mkF m 4 #[.val (.ref x), .val (.int (0 : Int32))] [(.int (0 : Int32))]))
  refine s_ifY S236 (hb hby dCA10_4) (by decide) (by decide) (pcT := 16) (by decide) ?_
  refine s_aloadN S236 (hb hby dCA10_16) rfl rfl (pc' := 17) rfl ?_
  refine g_getF S236 (w25 hw) Via.refl f2 (hb hby dCA10_17) ?_
  intro T237 ST237
  show Go p e below _ (T237.setTop (mkF m 20 #[.val (.ref x), .val (.int (0 : Int32))] [(.ref u)]))
  refine s_iloadN ST237 (hb hby dCA10_20) rfl (pc' := 21) rfl ?_
  show Go p e below _ (T237.setTop (mkF m 21 #[.val (.ref x), .val (.int (0 : Int32))] [(.int (0 : Int32)), (.ref u)]))
  refine g_static ST237 (rmUC10 X ST237.old Vu (f6 c0 (by simp))) (fun _ q => nomatch q) (w103 hw) (w104 hw) (w44 hw) (w105 hw) (by decide) (hb hby dCA10_21) (by rw [hml]; rfl) [(.ref u), (.int (0 : Int32))] (lenOf pd5 rfl) rfl rfl (Nat.le_of_ble_eq_true rfl) (Nat.le_of_ble_eq_true rfl) (Nat.le_of_ble_eq_true rfl) (Nat.le_of_ble_eq_true rfl) ?_
  intro v238 T238 V238 h238 S238 C238 q238
  obtain ⟨rfl, rfl⟩ := q238
  show Go p e below _ (T238.setTop (mkF m 24 #[.val (.ref x), .val (.int (0 : Int32))] [(.int c0)]))
  exact g_iretN S238 (hb hby dCA10_24) hret (by simp) ⟨by rw [narC (f6 c0 (by simp))], rfl⟩
theorem dPK20r_0 : decode jdk_41_method_11_code 0 = .ok (.iload_n 0, 1) := by decide +kernel
theorem dPK20r_1 : decode jdk_41_method_11_code 1 = .ok (.ifCond .lt 8, 3) := by decide +kernel
theorem dPK20r_4 : decode jdk_41_method_11_code 4 = .ok (.iload_n 0, 1) := by decide +kernel
theorem dPK20r_5 : decode jdk_41_method_11_code 5 = .ok (.iload_n 1, 1) := by decide +kernel
theorem dPK20r_6 : decode jdk_41_method_11_code 6 = .ok (.if_icmp .lt 10, 3) := by decide +kernel
theorem dPK20r_16 : decode jdk_41_method_11_code 16 = .ok (.iload_n 0, 1) := by decide +kernel
theorem dPK20r_17 : decode jdk_41_method_11_code 17 = .ok (.ireturn, 1) := by decide +kernel
set_option maxRecDepth 65536 in
set_option maxHeartbeats 40000000 in
theorem rmPK20r {l : Launch} {Z : State} {a0 : Array Value} {n0 : Nat} (X : Ctx Z a0) (fb : Addr) {h : Heap} (hO : Old Z n0 h)  :
    Ctr l Z EL1 n0 (⟨"jdk/internal/util/Preconditions", "checkIndex", "(IILjava/util/function/BiFunction;)I"⟩ : MethodName) jdk_41_method_11_code 3 (some .int) ({ frames := 0, cells := 0, slots := 0, locals := 0 } : Room) #[(.int (0 : Int32)), (.int (2 : Int32)), (.ref fb)] h [] (fun v h' => v = some (.int (0 : Int32)) ∧ h' = h) := by
  have hw := X.hw
  obtain ⟨z1, hz1, hz2⟩ := X.2.2.1
  refine Ctr.intro (a0 := a0) (plainFor_of_name pn2) hO X.ew ?_
  intro p e s m below meth c T0 V0 S0 hby hml hret hnm hsf
  rw [ef9]
  refine s_iloadN S0 (hb hby dPK20r_0) rfl (pc' := 1) rfl ?_
  refine s_ifN S0 (hb hby dPK20r_1) (by decide) (pc' := 4) rfl ?_
  refine s_iloadN S0 (hb hby dPK20r_4) rfl (pc' := 5) rfl ?_
  refine s_iloadN S0 (hb hby dPK20r_5) rfl (pc' := 6) rfl ?_
  refine s_icmpY S0 (hb hby dPK20r_6) (by decide) (by decide) (pcT := 16) (by decide) ?_
  refine s_iloadN S0 (hb hby dPK20r_16) rfl (pc' := 17) rfl ?_
  exact g_iret S0 (hb hby dPK20r_17) hret ⟨rfl, rfl⟩
theorem dPK20n_0 : decode jdk_41_method_11_code 0 = .ok (.iload_n 0, 1) := by decide +kernel
theorem dPK20n_1 : decode jdk_41_method_11_code 1 = .ok (.ifCond .lt 8, 3) := by decide +kernel
theorem dPK20n_4 : decode jdk_41_method_11_code 4 = .ok (.iload_n 0, 1) := by decide +kernel
theorem dPK20n_5 : decode jdk_41_method_11_code 5 = .ok (.iload_n 1, 1) := by decide +kernel
theorem dPK20n_6 : decode jdk_41_method_11_code 6 = .ok (.if_icmp .lt 10, 3) := by decide +kernel
theorem dPK20n_16 : decode jdk_41_method_11_code 16 = .ok (.iload_n 0, 1) := by decide +kernel
theorem dPK20n_17 : decode jdk_41_method_11_code 17 = .ok (.ireturn, 1) := by decide +kernel
set_option maxRecDepth 65536 in
set_option maxHeartbeats 40000000 in
theorem rmPK20n {l : Launch} {Z : State} {a0 : Array Value} {n0 : Nat} (X : Ctx Z a0)  {h : Heap} (hO : Old Z n0 h)  :
    Ctr l Z EL1 n0 (⟨"jdk/internal/util/Preconditions", "checkIndex", "(IILjava/util/function/BiFunction;)I"⟩ : MethodName) jdk_41_method_11_code 3 (some .int) ({ frames := 0, cells := 0, slots := 0, locals := 0 } : Room) #[(.int (0 : Int32)), (.int (2 : Int32)), .null] h [] (fun v h' => v = some (.int (0 : Int32)) ∧ h' = h) := by
  have hw := X.hw
  obtain ⟨z1, hz1, hz2⟩ := X.2.2.1
  refine Ctr.intro (a0 := a0) (plainFor_of_name pn2) hO X.ew ?_
  intro p e s m below meth c T0 V0 S0 hby hml hret hnm hsf
  rw [ef10]
  refine s_iloadN S0 (hb hby dPK20n_0) rfl (pc' := 1) rfl ?_
  refine s_ifN S0 (hb hby dPK20n_1) (by decide) (pc' := 4) rfl ?_
  refine s_iloadN S0 (hb hby dPK20n_4) rfl (pc' := 5) rfl ?_
  refine s_iloadN S0 (hb hby dPK20n_5) rfl (pc' := 6) rfl ?_
  refine s_icmpY S0 (hb hby dPK20n_6) (by decide) (by decide) (pcT := 16) (by decide) ?_
  refine s_iloadN S0 (hb hby dPK20n_16) rfl (pc' := 17) rfl ?_
  exact g_iret S0 (hb hby dPK20n_17) hret ⟨rfl, rfl⟩
theorem dSK20_0 : decode jdk_42_method_155_code 0 = .ok (.iload_n 0, 1) := by decide +kernel
theorem dSK20_1 : decode jdk_42_method_155_code 1 = .ok (.iload_n 1, 1) := by decide +kernel
theorem dSK20_2 : decode jdk_42_method_155_code 2 = .ok (.getstatic 1053, 3) := by decide +kernel
theorem dSK20_5 : decode jdk_42_method_155_code 5 = .ok (.invokestatic 1059, 3) := by decide +kernel
theorem dSK20_8 : decode jdk_42_method_155_code 8 = .ok (.pop, 1) := by decide +kernel
theorem dSK20_9 : decode jdk_42_method_155_code 9 = .ok (.return_, 1) := by decide +kernel
set_option maxRecDepth 65536 in
set_option maxHeartbeats 40000000 in
theorem rmSK20 {l : Launch} {Z : State} {a0 : Array Value} {n0 : Nat} (X : Ctx Z a0)  {h : Heap} (hO : Old Z n0 h)  :
    Ctr l Z EL1 n0 (⟨"java/lang/String", "checkIndex", "(II)V"⟩ : MethodName) jdk_42_method_155_code 2 none ({ frames := 1, cells := 0, slots := 0, locals := 14 } : Room) #[(.int (0 : Int32)), (.int (2 : Int32))] h [] (fun v h' => v = none ∧ h' = h) := by
  have hw := X.hw
  obtain ⟨z1, hz1, hz2⟩ := X.2.2.1
  refine Ctr.intro (a0 := a0) (plainFor_of_name pn1) hO X.ew ?_
  intro p e s m below meth c T0 V0 S0 hby hml hret hnm hsf
  rw [ef11]
  obtain ⟨fm, hfm, rfm⟩ := X.fm
  rcases ref_cases rfm with rfl | ⟨fb, rfl⟩
  · skip
    refine s_iloadN S0 (hb hby dSK20_0) rfl (pc' := 1) rfl ?_
    refine s_iloadN S0 (hb hby dSK20_1) rfl (pc' := 2) rfl ?_
    refine g_getS S0 (w72 hw) Via.refl (hfm.ext S0.old.2) (hb hby dSK20_2) ?_
    intro T239 ST239
    show Go p e below _ (T239.setTop (mkF m 5 #[.val (.int (0 : Int32)), .val (.int (2 : Int32))] [.null, (.int (2 : Int32)), (.int (0 : Int32))]))
    show Go p e below _ (T239.setTop (mkF m 5 #[.val (.int (0 : Int32)), .val (.int (2 : Int32))] [.null, (.int (2 : Int32)), (.int (0 : Int32))]))
    refine g_static ST239 (rmPK20n X ST239.old) (fun _ q => nomatch q) (w74 hw) (w75 hw) (w73 hw) (w76 hw) (by decide) (hb hby dSK20_5) (by rw [hml]; rfl) [(.int (0 : Int32)), (.int (2 : Int32)), .null] (lenOf pd8 rfl) rfl rfl (Nat.le_of_ble_eq_true rfl) (Nat.le_of_ble_eq_true rfl) (Nat.le_of_ble_eq_true rfl) (Nat.le_of_ble_eq_true rfl) ?_
    intro v240 T240 V240 h240 S240 C240 q240
    obtain ⟨rfl, rfl⟩ := q240
    show Go p e below _ (T240.setTop (mkF m 8 #[.val (.int (0 : Int32)), .val (.int (2 : Int32))] [(.int (0 : Int32))]))
    refine s_pop S240 (hb hby dSK20_8) rfl (pc' := 9) rfl ?_
    exact g_ret S240 (hb hby dSK20_9) hret ⟨rfl, rfl⟩
  · skip
    refine s_iloadN S0 (hb hby dSK20_0) rfl (pc' := 1) rfl ?_
    refine s_iloadN S0 (hb hby dSK20_1) rfl (pc' := 2) rfl ?_
    refine g_getS S0 (w72 hw) Via.refl (hfm.ext S0.old.2) (hb hby dSK20_2) ?_
    intro T241 ST241
    show Go p e below _ (T241.setTop (mkF m 5 #[.val (.int (0 : Int32)), .val (.int (2 : Int32))] [(.ref fb), (.int (2 : Int32)), (.int (0 : Int32))]))
    show Go p e below _ (T241.setTop (mkF m 5 #[.val (.int (0 : Int32)), .val (.int (2 : Int32))] [(.ref fb), (.int (2 : Int32)), (.int (0 : Int32))]))
    refine g_static ST241 (rmPK20r X fb ST241.old) (fun _ q => nomatch q) (w74 hw) (w75 hw) (w73 hw) (w76 hw) (by decide) (hb hby dSK20_5) (by rw [hml]; rfl) [(.int (0 : Int32)), (.int (2 : Int32)), (.ref fb)] (lenOf pd8 rfl) rfl rfl (Nat.le_of_ble_eq_true rfl) (Nat.le_of_ble_eq_true rfl) (Nat.le_of_ble_eq_true rfl) (Nat.le_of_ble_eq_true rfl) ?_
    intro v242 T242 V242 h242 S242 C242 q242
    obtain ⟨rfl, rfl⟩ := q242
    show Go p e below _ (T242.setTop (mkF m 8 #[.val (.int (0 : Int32)), .val (.int (2 : Int32))] [(.int (0 : Int32))]))
    refine s_pop S242 (hb hby dSK20_8) rfl (pc' := 9) rfl ?_
    exact g_ret S242 (hb hby dSK20_9) hret ⟨rfl, rfl⟩
theorem dUK20_0 : decode jdk_52_method_91_code 0 = .ok (.iload_n 0, 1) := by decide +kernel
theorem dUK20_1 : decode jdk_52_method_91_code 1 = .ok (.aload_n 1, 1) := by decide +kernel
theorem dUK20_2 : decode jdk_52_method_91_code 2 = .ok (.invokestatic 48, 3) := by decide +kernel
theorem dUK20_5 : decode jdk_52_method_91_code 5 = .ok (.invokestatic 414, 3) := by decide +kernel
theorem dUK20_8 : decode jdk_52_method_91_code 8 = .ok (.return_, 1) := by decide +kernel
set_option maxRecDepth 65536 in
set_option maxHeartbeats 40000000 in
theorem rmUK20 {l : Launch} {Z : State} {a0 : Array Value} {n0 : Nat} (X : Ctx Z a0) {u : Addr} {ku : ClassId} {c0 c1 : Int32} {h : Heap} (hO : Old Z n0 h) (Vu : Arv Z h u ku .byte (4 : Int32) [(.int (StrChars.lo8 c0)), (.int (StrChars.hi8 c0)), (.int (StrChars.lo8 c1)), (.int (StrChars.hi8 c1))] (.int (0 : Int32))) :
    Ctr l Z EL1 n0 (⟨"java/lang/StringUTF16", "checkIndex", "(I[B)V"⟩ : MethodName) jdk_52_method_91_code 2 none ({ frames := 2, cells := 0, slots := 0, locals := 28 } : Room) #[(.int (0 : Int32)), (.ref u)] h [] (fun v h' => v = none ∧ h' = h) := by
  have hw := X.hw
  obtain ⟨z1, hz1, hz2⟩ := X.2.2.1
  refine Ctr.intro (a0 := a0) (plainFor_of_name pn0) hO X.ew ?_
  intro p e s m below meth c T0 V0 S0 hby hml hret hnm hsf
  rw [ef12]
  refine s_iloadN S0 (hb hby dUK20_0) rfl (pc' := 1) rfl ?_
  refine s_aloadN S0 (hb hby dUK20_1) rfl rfl (pc' := 2) rfl ?_
  show Go p e below _ (T0.setTop (mkF m 2 #[.val (.int (0 : Int32)), .val (.ref u)] [(.ref u), (.int (0 : Int32))]))
  refine g_static S0 (rmUL2 X S0.old Vu) (fun _ q => nomatch q) (w109 hw) (w110 hw) (w44 hw) (w111 hw) (by decide) (hb hby dUK20_2) (by rw [hml]; rfl) [(.ref u)] (lenOf pd9 rfl) rfl rfl (Nat.le_of_ble_eq_true rfl) (Nat.le_of_ble_eq_true rfl) (Nat.le_of_ble_eq_true rfl) (Nat.le_of_ble_eq_true rfl) ?_
  intro v243 T243 V243 h243 S243 C243 q243
  obtain ⟨rfl, rfl⟩ := q243
  show Go p e below _ (T243.setTop (mkF m 5 #[.val (.int (0 : Int32)), .val (.ref u)] [(.int (2 : Int32)), (.int (0 : Int32))]))
  show Go p e below _ (T243.setTop (mkF m 5 #[.val (.int (0 : Int32)), .val (.ref u)] [(.int (2 : Int32)), (.int (0 : Int32))]))
  refine g_static S243 (rmSK20 X S243.old) (fun _ q => nomatch q) (w112 hw) (w70 hw) (w7 hw) (w71 hw) (by decide) (hb hby dUK20_5) (by rw [hml]; rfl) [(.int (0 : Int32)), (.int (2 : Int32))] (lenOf pd10 rfl) rfl rfl (Nat.le_of_ble_eq_true rfl) (Nat.le_of_ble_eq_true rfl) (Nat.le_of_ble_eq_true rfl) (Nat.le_of_ble_eq_true rfl) ?_
  intro v244 T244 V244 h244 S244 C244 q244
  obtain ⟨rfl, rfl⟩ := q244
  show Go p e below _ (T244.setTop (mkF m 8 #[.val (.int (0 : Int32)), .val (.ref u)] []))
  exact g_ret S244 (hb hby dUK20_8) hret ⟨rfl, rfl⟩
theorem dUC20_0 : decode jdk_52_method_83_code 0 = .ok (.iload_n 1, 1) := by decide +kernel
theorem dUC20_1 : decode jdk_52_method_83_code 1 = .ok (.aload_n 0, 1) := by decide +kernel
theorem dUC20_2 : decode jdk_52_method_83_code 2 = .ok (.invokestatic 67, 3) := by decide +kernel
theorem dUC20_5 : decode jdk_52_method_83_code 5 = .ok (.aload_n 0, 1) := by decide +kernel
theorem dUC20_6 : decode jdk_52_method_83_code 6 = .ok (.iload_n 1, 1) := by decide +kernel
theorem dUC20_7 : decode jdk_52_method_83_code 7 = .ok (.invokestatic 71, 3) := by decide +kernel
theorem dUC20_10 : decode jdk_52_method_83_code 10 = .ok (.ireturn, 1) := by decide +kernel
set_option maxRecDepth 65536 in
set_option maxHeartbeats 40000000 in
theorem rmUC20 {l : Launch} {Z : State} {a0 : Array Value} {n0 : Nat} (X : Ctx Z a0) {u : Addr} {ku : ClassId} {c0 c1 : Int32} {h : Heap} (hO : Old Z n0 h) (Vu : Arv Z h u ku .byte (4 : Int32) [(.int (StrChars.lo8 c0)), (.int (StrChars.hi8 c0)), (.int (StrChars.lo8 c1)), (.int (StrChars.hi8 c1))] (.int (0 : Int32))) (r : ¬ c0 < 0 ∧ ¬ (65535 : Int32) < c0) :
    Ctr l Z EL1 n0 (⟨"java/lang/StringUTF16", "charAt", "([BI)C"⟩ : MethodName) jdk_52_method_83_code 2 (some .char) ({ frames := 3, cells := 0, slots := 0, locals := 41 } : Room) #[(.ref u), (.int (0 : Int32))] h [] (fun v h' => v = some (.int c0) ∧ h' = h) := by
  have hw := X.hw
  obtain ⟨z1, hz1, hz2⟩ := X.2.2.1
  refine Ctr.intro (a0 := a0) (plainFor_of_name pn0) hO X.ew ?_
  intro p e s m below meth c T0 V0 S0 hby hml hret hnm hsf
  rw [ef1]
  refine s_iloadN S0 (hb hby dUC20_0) rfl (pc' := 1) rfl ?_
  refine s_aloadN S0 (hb hby dUC20_1) rfl rfl (pc' := 2) rfl ?_
  show Go p e below _ (T0.setTop (mkF m 2 #[.val (.ref u), .val (.int (0 : Int32))] [(.ref u), (.int (0 : Int32))]))
  refine g_static S0 (rmUK20 X S0.old Vu) (fun _ q => nomatch q) (w106 hw) (w107 hw) (w44 hw) (w108 hw) (by decide) (hb hby dUC20_2) (by rw [hml]; rfl) [(.int (0 : Int32)), (.ref u)] (lenOf pd11 rfl) rfl rfl (Nat.le_of_ble_eq_true rfl) (Nat.le_of_ble_eq_true rfl) (Nat.le_of_ble_eq_true rfl) (Nat.le_of_ble_eq_true rfl) ?_
  intro v245 T245 V245 h245 S245 C245 q245
  obtain ⟨rfl, rfl⟩ := q245
  show Go p e below _ (T245.setTop (mkF m 5 #[.val (.ref u), .val (.int (0 : Int32))] []))
  refine s_aloadN S245 (hb hby dUC20_5) rfl rfl (pc' := 6) rfl ?_
  refine s_iloadN S245 (hb hby dUC20_6) rfl (pc' := 7) rfl ?_
  show Go p e below _ (T245.setTop (mkF m 7 #[.val (.ref u), .val (.int (0 : Int32))] [(.int (0 : Int32)), (.ref u)]))
  refine g_static S245 (rmGC20 X S245.old Vu r) (fun _ q => nomatch q) (w100 hw) (w101 hw) (w44 hw) (w102 hw) (by decide) (hb hby dUC20_7) (by rw [hml]; rfl) [(.ref u), (.int (0 : Int32))] (lenOf pd5 rfl) rfl rfl (Nat.le_of_ble_eq_true rfl) (Nat.le_of_ble_eq_true rfl) (Nat.le_of_ble_eq_true rfl) (Nat.le_of_ble_eq_true rfl) ?_
  intro v246 T246 V246 h246 S246 C246 q246
  obtain ⟨rfl, rfl⟩ := q246
  show Go p e below _ (T246.setTop (mkF m 10 #[.val (.ref u), .val (.int (0 : Int32))] [(.int c0)]))
  exact g_iretN S246 (hb hby dUC20_10) hret (by simp) ⟨by rw [narC r], rfl⟩
theorem dCA20_0 : decode jdk_42_method_56_code 0 = .ok (.aload_n 0, 1) := by decide +kernel
theorem dCA20_1 : decode jdk_42_method_56_code 1 = .ok (.invokevirtual 492, 3) := by decide +kernel
theorem dCA20_4 : decode jdk_42_method_56_code 4 = .ok (.ifCond .eq 12, 3) := by decide +kernel
theorem dCA20_16 : decode jdk_42_method_56_code 16 = .ok (.aload_n 0, 1) := by decide +kernel
theorem dCA20_17 : decode jdk_42_method_56_code 17 = .ok (.getfield 9, 3) := by decide +kernel
theorem dCA20_20 : decode jdk_42_method_56_code 20 = .ok (.iload_n 1, 1) := by decide +kernel
theorem dCA20_21 : decode jdk_42_method_56_code 21 = .ok (.invokestatic 498, 3) := by decide +kernel
theorem dCA20_24 : decode jdk_42_method_56_code 24 = .ok (.ireturn, 1) := by decide +kernel
set_option maxRecDepth 65536 in
set_option maxHeartbeats 40000000 in
theorem rmCA20 {l : Launch} {Z : State} {a0 : Array Value} {n0 : Nat} (X : Ctx Z a0) {x : Addr} {c0 c1 : Int32} {h : Heap} (hO : Old Z n0 h) (F : StrF Z h x [c0, c1]) (hwd : (255 : Int32) < c0 ∨ (255 : Int32) < c1) :
    Ctr l Z EL1 n0 (⟨"java/lang/String", "charAt", "(I)C"⟩ : MethodName) jdk_42_method_56_code 2 (some .char) ({ frames := 4, cells := 0, slots := 0, locals := 54 } : Room) #[(.ref x), (.int (0 : Int32))] h [] (fun v h' => v = some (.int c0) ∧ h' = h) := by
  have hw := X.hw
  obtain ⟨z1, hz1, hz2⟩ := X.2.2.1
  refine Ctr.intro (a0 := a0) (plainFor_of_name pn1) hO X.ew ?_
  intro p e s m below meth c T0 V0 S0 hby hml hret hnm hsf
  rw [ef1]
  obtain ⟨u, ku, cd, N2, vs, f1, f2, f3, f4, f5, f6, f7⟩ := F
  rcases f5 with ⟨-, -, -, f5⟩ | ⟨rfl, rfl, rfl, -⟩
  · obtain ⟨cc, hcc, hb_⟩ := own_ex2 hwd; exact absurd hb_ (f5 cc hcc)
  have Vu : Arv Z h u ku .byte (4 : Int32) [(.int (StrChars.lo8 c0)), (.int (StrChars.hi8 c0)), (.int (StrChars.lo8 c1)), (.int (StrChars.hi8 c1))] (.int (0 : Int32)) := f4
  show Go p e below _ (T0.setTop (mkF m 0 #[.val (.ref x), .val (.int (0 : Int32))] []))
  refine s_aloadN S0 (hb hby dCA20_0) rfl rfl (pc' := 1) rfl ?_
  show Go p e below _ (T0.setTop (mkF m 1 #[.val (.ref x), .val (.int (0 : Int32))] [(.ref x)]))
  refine g_virtual S0 (rmIS X S0.old f3) (fun _ q => nomatch q) (w60 hw) (w61 hw) (w63 hw) (w62 hw) (w7 hw) (w64 hw) (by decide) (fun _ h => notFace_of_selects h) (hb hby dCA20_1) (by rw [hml]; rfl) x f1 [] (lenOf pd12 rfl) rfl rfl (Nat.le_of_ble_eq_true rfl) (Nat.le_of_ble_eq_true rfl) (Nat.le_of_ble_eq_true rfl) (Nat.le_of_ble_eq_true rfl) ?_
  intro v247 T247 V247 h247 S247 C247 q247
  obtain ⟨rfl, rfl⟩ := q247
  show Go p e below _ (T247.setTop (mkF m 4 #[.val (.ref x), .val (.int (0 : Int32))] [(.int (0 : Int32))]))
  refine s_ifY S247 (hb hby dCA20_4) (by decide) (by decide) (pcT := 16) (by decide) ?_
  refine s_aloadN S247 (hb hby dCA20_16) rfl rfl (pc' := 17) rfl ?_
  refine g_getF S247 (w25 hw) Via.refl f2 (hb hby dCA20_17) ?_
  intro T248 ST248
  show Go p e below _ (T248.setTop (mkF m 20 #[.val (.ref x), .val (.int (0 : Int32))] [(.ref u)]))
  refine s_iloadN ST248 (hb hby dCA20_20) rfl (pc' := 21) rfl ?_
  show Go p e below _ (T248.setTop (mkF m 21 #[.val (.ref x), .val (.int (0 : Int32))] [(.int (0 : Int32)), (.ref u)]))
  refine g_static ST248 (rmUC20 X ST248.old Vu (f6 c0 (by simp))) (fun _ q => nomatch q) (w103 hw) (w104 hw) (w44 hw) (w105 hw) (by decide) (hb hby dCA20_21) (by rw [hml]; rfl) [(.ref u), (.int (0 : Int32))] (lenOf pd5 rfl) rfl rfl (Nat.le_of_ble_eq_true rfl) (Nat.le_of_ble_eq_true rfl) (Nat.le_of_ble_eq_true rfl) (Nat.le_of_ble_eq_true rfl) ?_
  intro v249 T249 V249 h249 S249 C249 q249
  obtain ⟨rfl, rfl⟩ := q249
  show Go p e below _ (T249.setTop (mkF m 24 #[.val (.ref x), .val (.int (0 : Int32))] [(.int c0)]))
  exact g_iretN S249 (hb hby dCA20_24) hret (by simp) ⟨by rw [narC (f6 c0 (by simp))], rfl⟩
theorem dPK21r_0 : decode jdk_41_method_11_code 0 = .ok (.iload_n 0, 1) := by decide +kernel
theorem dPK21r_1 : decode jdk_41_method_11_code 1 = .ok (.ifCond .lt 8, 3) := by decide +kernel
theorem dPK21r_4 : decode jdk_41_method_11_code 4 = .ok (.iload_n 0, 1) := by decide +kernel
theorem dPK21r_5 : decode jdk_41_method_11_code 5 = .ok (.iload_n 1, 1) := by decide +kernel
theorem dPK21r_6 : decode jdk_41_method_11_code 6 = .ok (.if_icmp .lt 10, 3) := by decide +kernel
theorem dPK21r_16 : decode jdk_41_method_11_code 16 = .ok (.iload_n 0, 1) := by decide +kernel
theorem dPK21r_17 : decode jdk_41_method_11_code 17 = .ok (.ireturn, 1) := by decide +kernel
set_option maxRecDepth 65536 in
set_option maxHeartbeats 40000000 in
theorem rmPK21r {l : Launch} {Z : State} {a0 : Array Value} {n0 : Nat} (X : Ctx Z a0) (fb : Addr) {h : Heap} (hO : Old Z n0 h)  :
    Ctr l Z EL1 n0 (⟨"jdk/internal/util/Preconditions", "checkIndex", "(IILjava/util/function/BiFunction;)I"⟩ : MethodName) jdk_41_method_11_code 3 (some .int) ({ frames := 0, cells := 0, slots := 0, locals := 0 } : Room) #[(.int (1 : Int32)), (.int (2 : Int32)), (.ref fb)] h [] (fun v h' => v = some (.int (1 : Int32)) ∧ h' = h) := by
  have hw := X.hw
  obtain ⟨z1, hz1, hz2⟩ := X.2.2.1
  refine Ctr.intro (a0 := a0) (plainFor_of_name pn2) hO X.ew ?_
  intro p e s m below meth c T0 V0 S0 hby hml hret hnm hsf
  rw [ef9]
  refine s_iloadN S0 (hb hby dPK21r_0) rfl (pc' := 1) rfl ?_
  refine s_ifN S0 (hb hby dPK21r_1) (by decide) (pc' := 4) rfl ?_
  refine s_iloadN S0 (hb hby dPK21r_4) rfl (pc' := 5) rfl ?_
  refine s_iloadN S0 (hb hby dPK21r_5) rfl (pc' := 6) rfl ?_
  refine s_icmpY S0 (hb hby dPK21r_6) (by decide) (by decide) (pcT := 16) (by decide) ?_
  refine s_iloadN S0 (hb hby dPK21r_16) rfl (pc' := 17) rfl ?_
  exact g_iret S0 (hb hby dPK21r_17) hret ⟨rfl, rfl⟩
theorem dPK21n_0 : decode jdk_41_method_11_code 0 = .ok (.iload_n 0, 1) := by decide +kernel
theorem dPK21n_1 : decode jdk_41_method_11_code 1 = .ok (.ifCond .lt 8, 3) := by decide +kernel
theorem dPK21n_4 : decode jdk_41_method_11_code 4 = .ok (.iload_n 0, 1) := by decide +kernel
theorem dPK21n_5 : decode jdk_41_method_11_code 5 = .ok (.iload_n 1, 1) := by decide +kernel
theorem dPK21n_6 : decode jdk_41_method_11_code 6 = .ok (.if_icmp .lt 10, 3) := by decide +kernel
theorem dPK21n_16 : decode jdk_41_method_11_code 16 = .ok (.iload_n 0, 1) := by decide +kernel
theorem dPK21n_17 : decode jdk_41_method_11_code 17 = .ok (.ireturn, 1) := by decide +kernel
set_option maxRecDepth 65536 in
set_option maxHeartbeats 40000000 in
theorem rmPK21n {l : Launch} {Z : State} {a0 : Array Value} {n0 : Nat} (X : Ctx Z a0)  {h : Heap} (hO : Old Z n0 h)  :
    Ctr l Z EL1 n0 (⟨"jdk/internal/util/Preconditions", "checkIndex", "(IILjava/util/function/BiFunction;)I"⟩ : MethodName) jdk_41_method_11_code 3 (some .int) ({ frames := 0, cells := 0, slots := 0, locals := 0 } : Room) #[(.int (1 : Int32)), (.int (2 : Int32)), .null] h [] (fun v h' => v = some (.int (1 : Int32)) ∧ h' = h) := by
  have hw := X.hw
  obtain ⟨z1, hz1, hz2⟩ := X.2.2.1
  refine Ctr.intro (a0 := a0) (plainFor_of_name pn2) hO X.ew ?_
  intro p e s m below meth c T0 V0 S0 hby hml hret hnm hsf
  rw [ef10]
  refine s_iloadN S0 (hb hby dPK21n_0) rfl (pc' := 1) rfl ?_
  refine s_ifN S0 (hb hby dPK21n_1) (by decide) (pc' := 4) rfl ?_
  refine s_iloadN S0 (hb hby dPK21n_4) rfl (pc' := 5) rfl ?_
  refine s_iloadN S0 (hb hby dPK21n_5) rfl (pc' := 6) rfl ?_
  refine s_icmpY S0 (hb hby dPK21n_6) (by decide) (by decide) (pcT := 16) (by decide) ?_
  refine s_iloadN S0 (hb hby dPK21n_16) rfl (pc' := 17) rfl ?_
  exact g_iret S0 (hb hby dPK21n_17) hret ⟨rfl, rfl⟩
theorem dSK21_0 : decode jdk_42_method_155_code 0 = .ok (.iload_n 0, 1) := by decide +kernel
theorem dSK21_1 : decode jdk_42_method_155_code 1 = .ok (.iload_n 1, 1) := by decide +kernel
theorem dSK21_2 : decode jdk_42_method_155_code 2 = .ok (.getstatic 1053, 3) := by decide +kernel
theorem dSK21_5 : decode jdk_42_method_155_code 5 = .ok (.invokestatic 1059, 3) := by decide +kernel
theorem dSK21_8 : decode jdk_42_method_155_code 8 = .ok (.pop, 1) := by decide +kernel
theorem dSK21_9 : decode jdk_42_method_155_code 9 = .ok (.return_, 1) := by decide +kernel
set_option maxRecDepth 65536 in
set_option maxHeartbeats 40000000 in
theorem rmSK21 {l : Launch} {Z : State} {a0 : Array Value} {n0 : Nat} (X : Ctx Z a0)  {h : Heap} (hO : Old Z n0 h)  :
    Ctr l Z EL1 n0 (⟨"java/lang/String", "checkIndex", "(II)V"⟩ : MethodName) jdk_42_method_155_code 2 none ({ frames := 1, cells := 0, slots := 0, locals := 14 } : Room) #[(.int (1 : Int32)), (.int (2 : Int32))] h [] (fun v h' => v = none ∧ h' = h) := by
  have hw := X.hw
  obtain ⟨z1, hz1, hz2⟩ := X.2.2.1
  refine Ctr.intro (a0 := a0) (plainFor_of_name pn1) hO X.ew ?_
  intro p e s m below meth c T0 V0 S0 hby hml hret hnm hsf
  rw [ef11]
  obtain ⟨fm, hfm, rfm⟩ := X.fm
  rcases ref_cases rfm with rfl | ⟨fb, rfl⟩
  · skip
    refine s_iloadN S0 (hb hby dSK21_0) rfl (pc' := 1) rfl ?_
    refine s_iloadN S0 (hb hby dSK21_1) rfl (pc' := 2) rfl ?_
    refine g_getS S0 (w72 hw) Via.refl (hfm.ext S0.old.2) (hb hby dSK21_2) ?_
    intro T250 ST250
    show Go p e below _ (T250.setTop (mkF m 5 #[.val (.int (1 : Int32)), .val (.int (2 : Int32))] [.null, (.int (2 : Int32)), (.int (1 : Int32))]))
    show Go p e below _ (T250.setTop (mkF m 5 #[.val (.int (1 : Int32)), .val (.int (2 : Int32))] [.null, (.int (2 : Int32)), (.int (1 : Int32))]))
    refine g_static ST250 (rmPK21n X ST250.old) (fun _ q => nomatch q) (w74 hw) (w75 hw) (w73 hw) (w76 hw) (by decide) (hb hby dSK21_5) (by rw [hml]; rfl) [(.int (1 : Int32)), (.int (2 : Int32)), .null] (lenOf pd8 rfl) rfl rfl (Nat.le_of_ble_eq_true rfl) (Nat.le_of_ble_eq_true rfl) (Nat.le_of_ble_eq_true rfl) (Nat.le_of_ble_eq_true rfl) ?_
    intro v251 T251 V251 h251 S251 C251 q251
    obtain ⟨rfl, rfl⟩ := q251
    show Go p e below _ (T251.setTop (mkF m 8 #[.val (.int (1 : Int32)), .val (.int (2 : Int32))] [(.int (1 : Int32))]))
    refine s_pop S251 (hb hby dSK21_8) rfl (pc' := 9) rfl ?_
    exact g_ret S251 (hb hby dSK21_9) hret ⟨rfl, rfl⟩
  · skip
    refine s_iloadN S0 (hb hby dSK21_0) rfl (pc' := 1) rfl ?_
    refine s_iloadN S0 (hb hby dSK21_1) rfl (pc' := 2) rfl ?_
    refine g_getS S0 (w72 hw) Via.refl (hfm.ext S0.old.2) (hb hby dSK21_2) ?_
    intro T252 ST252
    show Go p e below _ (T252.setTop (mkF m 5 #[.val (.int (1 : Int32)), .val (.int (2 : Int32))] [(.ref fb), (.int (2 : Int32)), (.int (1 : Int32))]))
    show Go p e below _ (T252.setTop (mkF m 5 #[.val (.int (1 : Int32)), .val (.int (2 : Int32))] [(.ref fb), (.int (2 : Int32)), (.int (1 : Int32))]))
    refine g_static ST252 (rmPK21r X fb ST252.old) (fun _ q => nomatch q) (w74 hw) (w75 hw) (w73 hw) (w76 hw) (by decide) (hb hby dSK21_5) (by rw [hml]; rfl) [(.int (1 : Int32)), (.int (2 : Int32)), (.ref fb)] (lenOf pd8 rfl) rfl rfl (Nat.le_of_ble_eq_true rfl) (Nat.le_of_ble_eq_true rfl) (Nat.le_of_ble_eq_true rfl) (Nat.le_of_ble_eq_true rfl) ?_
    intro v253 T253 V253 h253 S253 C253 q253
    obtain ⟨rfl, rfl⟩ := q253
    show Go p e below _ (T253.setTop (mkF m 8 #[.val (.int (1 : Int32)), .val (.int (2 : Int32))] [(.int (1 : Int32))]))
    refine s_pop S253 (hb hby dSK21_8) rfl (pc' := 9) rfl ?_
    exact g_ret S253 (hb hby dSK21_9) hret ⟨rfl, rfl⟩
theorem dUK21_0 : decode jdk_52_method_91_code 0 = .ok (.iload_n 0, 1) := by decide +kernel
theorem dUK21_1 : decode jdk_52_method_91_code 1 = .ok (.aload_n 1, 1) := by decide +kernel
theorem dUK21_2 : decode jdk_52_method_91_code 2 = .ok (.invokestatic 48, 3) := by decide +kernel
theorem dUK21_5 : decode jdk_52_method_91_code 5 = .ok (.invokestatic 414, 3) := by decide +kernel
theorem dUK21_8 : decode jdk_52_method_91_code 8 = .ok (.return_, 1) := by decide +kernel
set_option maxRecDepth 65536 in
set_option maxHeartbeats 40000000 in
theorem rmUK21 {l : Launch} {Z : State} {a0 : Array Value} {n0 : Nat} (X : Ctx Z a0) {u : Addr} {ku : ClassId} {c0 c1 : Int32} {h : Heap} (hO : Old Z n0 h) (Vu : Arv Z h u ku .byte (4 : Int32) [(.int (StrChars.lo8 c0)), (.int (StrChars.hi8 c0)), (.int (StrChars.lo8 c1)), (.int (StrChars.hi8 c1))] (.int (0 : Int32))) :
    Ctr l Z EL1 n0 (⟨"java/lang/StringUTF16", "checkIndex", "(I[B)V"⟩ : MethodName) jdk_52_method_91_code 2 none ({ frames := 2, cells := 0, slots := 0, locals := 28 } : Room) #[(.int (1 : Int32)), (.ref u)] h [] (fun v h' => v = none ∧ h' = h) := by
  have hw := X.hw
  obtain ⟨z1, hz1, hz2⟩ := X.2.2.1
  refine Ctr.intro (a0 := a0) (plainFor_of_name pn0) hO X.ew ?_
  intro p e s m below meth c T0 V0 S0 hby hml hret hnm hsf
  rw [ef12]
  refine s_iloadN S0 (hb hby dUK21_0) rfl (pc' := 1) rfl ?_
  refine s_aloadN S0 (hb hby dUK21_1) rfl rfl (pc' := 2) rfl ?_
  show Go p e below _ (T0.setTop (mkF m 2 #[.val (.int (1 : Int32)), .val (.ref u)] [(.ref u), (.int (1 : Int32))]))
  refine g_static S0 (rmUL2 X S0.old Vu) (fun _ q => nomatch q) (w109 hw) (w110 hw) (w44 hw) (w111 hw) (by decide) (hb hby dUK21_2) (by rw [hml]; rfl) [(.ref u)] (lenOf pd9 rfl) rfl rfl (Nat.le_of_ble_eq_true rfl) (Nat.le_of_ble_eq_true rfl) (Nat.le_of_ble_eq_true rfl) (Nat.le_of_ble_eq_true rfl) ?_
  intro v254 T254 V254 h254 S254 C254 q254
  obtain ⟨rfl, rfl⟩ := q254
  show Go p e below _ (T254.setTop (mkF m 5 #[.val (.int (1 : Int32)), .val (.ref u)] [(.int (2 : Int32)), (.int (1 : Int32))]))
  show Go p e below _ (T254.setTop (mkF m 5 #[.val (.int (1 : Int32)), .val (.ref u)] [(.int (2 : Int32)), (.int (1 : Int32))]))
  refine g_static S254 (rmSK21 X S254.old) (fun _ q => nomatch q) (w112 hw) (w70 hw) (w7 hw) (w71 hw) (by decide) (hb hby dUK21_5) (by rw [hml]; rfl) [(.int (1 : Int32)), (.int (2 : Int32))] (lenOf pd10 rfl) rfl rfl (Nat.le_of_ble_eq_true rfl) (Nat.le_of_ble_eq_true rfl) (Nat.le_of_ble_eq_true rfl) (Nat.le_of_ble_eq_true rfl) ?_
  intro v255 T255 V255 h255 S255 C255 q255
  obtain ⟨rfl, rfl⟩ := q255
  show Go p e below _ (T255.setTop (mkF m 8 #[.val (.int (1 : Int32)), .val (.ref u)] []))
  exact g_ret S255 (hb hby dUK21_8) hret ⟨rfl, rfl⟩
theorem dUC21_0 : decode jdk_52_method_83_code 0 = .ok (.iload_n 1, 1) := by decide +kernel
theorem dUC21_1 : decode jdk_52_method_83_code 1 = .ok (.aload_n 0, 1) := by decide +kernel
theorem dUC21_2 : decode jdk_52_method_83_code 2 = .ok (.invokestatic 67, 3) := by decide +kernel
theorem dUC21_5 : decode jdk_52_method_83_code 5 = .ok (.aload_n 0, 1) := by decide +kernel
theorem dUC21_6 : decode jdk_52_method_83_code 6 = .ok (.iload_n 1, 1) := by decide +kernel
theorem dUC21_7 : decode jdk_52_method_83_code 7 = .ok (.invokestatic 71, 3) := by decide +kernel
theorem dUC21_10 : decode jdk_52_method_83_code 10 = .ok (.ireturn, 1) := by decide +kernel
set_option maxRecDepth 65536 in
set_option maxHeartbeats 40000000 in
theorem rmUC21 {l : Launch} {Z : State} {a0 : Array Value} {n0 : Nat} (X : Ctx Z a0) {u : Addr} {ku : ClassId} {c0 c1 : Int32} {h : Heap} (hO : Old Z n0 h) (Vu : Arv Z h u ku .byte (4 : Int32) [(.int (StrChars.lo8 c0)), (.int (StrChars.hi8 c0)), (.int (StrChars.lo8 c1)), (.int (StrChars.hi8 c1))] (.int (0 : Int32))) (r : ¬ c1 < 0 ∧ ¬ (65535 : Int32) < c1) :
    Ctr l Z EL1 n0 (⟨"java/lang/StringUTF16", "charAt", "([BI)C"⟩ : MethodName) jdk_52_method_83_code 2 (some .char) ({ frames := 3, cells := 0, slots := 0, locals := 41 } : Room) #[(.ref u), (.int (1 : Int32))] h [] (fun v h' => v = some (.int c1) ∧ h' = h) := by
  have hw := X.hw
  obtain ⟨z1, hz1, hz2⟩ := X.2.2.1
  refine Ctr.intro (a0 := a0) (plainFor_of_name pn0) hO X.ew ?_
  intro p e s m below meth c T0 V0 S0 hby hml hret hnm hsf
  rw [ef1]
  refine s_iloadN S0 (hb hby dUC21_0) rfl (pc' := 1) rfl ?_
  refine s_aloadN S0 (hb hby dUC21_1) rfl rfl (pc' := 2) rfl ?_
  show Go p e below _ (T0.setTop (mkF m 2 #[.val (.ref u), .val (.int (1 : Int32))] [(.ref u), (.int (1 : Int32))]))
  refine g_static S0 (rmUK21 X S0.old Vu) (fun _ q => nomatch q) (w106 hw) (w107 hw) (w44 hw) (w108 hw) (by decide) (hb hby dUC21_2) (by rw [hml]; rfl) [(.int (1 : Int32)), (.ref u)] (lenOf pd11 rfl) rfl rfl (Nat.le_of_ble_eq_true rfl) (Nat.le_of_ble_eq_true rfl) (Nat.le_of_ble_eq_true rfl) (Nat.le_of_ble_eq_true rfl) ?_
  intro v256 T256 V256 h256 S256 C256 q256
  obtain ⟨rfl, rfl⟩ := q256
  show Go p e below _ (T256.setTop (mkF m 5 #[.val (.ref u), .val (.int (1 : Int32))] []))
  refine s_aloadN S256 (hb hby dUC21_5) rfl rfl (pc' := 6) rfl ?_
  refine s_iloadN S256 (hb hby dUC21_6) rfl (pc' := 7) rfl ?_
  show Go p e below _ (T256.setTop (mkF m 7 #[.val (.ref u), .val (.int (1 : Int32))] [(.int (1 : Int32)), (.ref u)]))
  refine g_static S256 (rmGC21 X S256.old Vu r) (fun _ q => nomatch q) (w100 hw) (w101 hw) (w44 hw) (w102 hw) (by decide) (hb hby dUC21_7) (by rw [hml]; rfl) [(.ref u), (.int (1 : Int32))] (lenOf pd5 rfl) rfl rfl (Nat.le_of_ble_eq_true rfl) (Nat.le_of_ble_eq_true rfl) (Nat.le_of_ble_eq_true rfl) (Nat.le_of_ble_eq_true rfl) ?_
  intro v257 T257 V257 h257 S257 C257 q257
  obtain ⟨rfl, rfl⟩ := q257
  show Go p e below _ (T257.setTop (mkF m 10 #[.val (.ref u), .val (.int (1 : Int32))] [(.int c1)]))
  exact g_iretN S257 (hb hby dUC21_10) hret (by simp) ⟨by rw [narC r], rfl⟩
theorem dCA21_0 : decode jdk_42_method_56_code 0 = .ok (.aload_n 0, 1) := by decide +kernel
theorem dCA21_1 : decode jdk_42_method_56_code 1 = .ok (.invokevirtual 492, 3) := by decide +kernel
theorem dCA21_4 : decode jdk_42_method_56_code 4 = .ok (.ifCond .eq 12, 3) := by decide +kernel
theorem dCA21_16 : decode jdk_42_method_56_code 16 = .ok (.aload_n 0, 1) := by decide +kernel
theorem dCA21_17 : decode jdk_42_method_56_code 17 = .ok (.getfield 9, 3) := by decide +kernel
theorem dCA21_20 : decode jdk_42_method_56_code 20 = .ok (.iload_n 1, 1) := by decide +kernel
theorem dCA21_21 : decode jdk_42_method_56_code 21 = .ok (.invokestatic 498, 3) := by decide +kernel
theorem dCA21_24 : decode jdk_42_method_56_code 24 = .ok (.ireturn, 1) := by decide +kernel
set_option maxRecDepth 65536 in
set_option maxHeartbeats 40000000 in
theorem rmCA21 {l : Launch} {Z : State} {a0 : Array Value} {n0 : Nat} (X : Ctx Z a0) {x : Addr} {c0 c1 : Int32} {h : Heap} (hO : Old Z n0 h) (F : StrF Z h x [c0, c1]) (hwd : (255 : Int32) < c0 ∨ (255 : Int32) < c1) :
    Ctr l Z EL1 n0 (⟨"java/lang/String", "charAt", "(I)C"⟩ : MethodName) jdk_42_method_56_code 2 (some .char) ({ frames := 4, cells := 0, slots := 0, locals := 54 } : Room) #[(.ref x), (.int (1 : Int32))] h [] (fun v h' => v = some (.int c1) ∧ h' = h) := by
  have hw := X.hw
  obtain ⟨z1, hz1, hz2⟩ := X.2.2.1
  refine Ctr.intro (a0 := a0) (plainFor_of_name pn1) hO X.ew ?_
  intro p e s m below meth c T0 V0 S0 hby hml hret hnm hsf
  rw [ef1]
  obtain ⟨u, ku, cd, N2, vs, f1, f2, f3, f4, f5, f6, f7⟩ := F
  rcases f5 with ⟨-, -, -, f5⟩ | ⟨rfl, rfl, rfl, -⟩
  · obtain ⟨cc, hcc, hb_⟩ := own_ex2 hwd; exact absurd hb_ (f5 cc hcc)
  have Vu : Arv Z h u ku .byte (4 : Int32) [(.int (StrChars.lo8 c0)), (.int (StrChars.hi8 c0)), (.int (StrChars.lo8 c1)), (.int (StrChars.hi8 c1))] (.int (0 : Int32)) := f4
  show Go p e below _ (T0.setTop (mkF m 0 #[.val (.ref x), .val (.int (1 : Int32))] []))
  refine s_aloadN S0 (hb hby dCA21_0) rfl rfl (pc' := 1) rfl ?_
  show Go p e below _ (T0.setTop (mkF m 1 #[.val (.ref x), .val (.int (1 : Int32))] [(.ref x)]))
  refine g_virtual S0 (rmIS X S0.old f3) (fun _ q => nomatch q) (w60 hw) (w61 hw) (w63 hw) (w62 hw) (w7 hw) (w64 hw) (by decide) (fun _ h => notFace_of_selects h) (hb hby dCA21_1) (by rw [hml]; rfl) x f1 [] (lenOf pd12 rfl) rfl rfl (Nat.le_of_ble_eq_true rfl) (Nat.le_of_ble_eq_true rfl) (Nat.le_of_ble_eq_true rfl) (Nat.le_of_ble_eq_true rfl) ?_
  intro v258 T258 V258 h258 S258 C258 q258
  obtain ⟨rfl, rfl⟩ := q258
  show Go p e below _ (T258.setTop (mkF m 4 #[.val (.ref x), .val (.int (1 : Int32))] [(.int (0 : Int32))]))
  refine s_ifY S258 (hb hby dCA21_4) (by decide) (by decide) (pcT := 16) (by decide) ?_
  refine s_aloadN S258 (hb hby dCA21_16) rfl rfl (pc' := 17) rfl ?_
  refine g_getF S258 (w25 hw) Via.refl f2 (hb hby dCA21_17) ?_
  intro T259 ST259
  show Go p e below _ (T259.setTop (mkF m 20 #[.val (.ref x), .val (.int (1 : Int32))] [(.ref u)]))
  refine s_iloadN ST259 (hb hby dCA21_20) rfl (pc' := 21) rfl ?_
  show Go p e below _ (T259.setTop (mkF m 21 #[.val (.ref x), .val (.int (1 : Int32))] [(.int (1 : Int32)), (.ref u)]))
  refine g_static ST259 (rmUC21 X ST259.old Vu (f6 c1 (by simp))) (fun _ q => nomatch q) (w103 hw) (w104 hw) (w44 hw) (w105 hw) (by decide) (hb hby dCA21_21) (by rw [hml]; rfl) [(.ref u), (.int (1 : Int32))] (lenOf pd5 rfl) rfl rfl (Nat.le_of_ble_eq_true rfl) (Nat.le_of_ble_eq_true rfl) (Nat.le_of_ble_eq_true rfl) (Nat.le_of_ble_eq_true rfl) ?_
  intro v260 T260 V260 h260 S260 C260 q260
  obtain ⟨rfl, rfl⟩ := q260
  show Go p e below _ (T260.setTop (mkF m 24 #[.val (.ref x), .val (.int (1 : Int32))] [(.int c1)]))
  exact g_iretN S260 (hb hby dCA21_24) hret (by simp) ⟨by rw [narC (f6 c1 (by simp))], rfl⟩
theorem dPK30r_0 : decode jdk_41_method_11_code 0 = .ok (.iload_n 0, 1) := by decide +kernel
theorem dPK30r_1 : decode jdk_41_method_11_code 1 = .ok (.ifCond .lt 8, 3) := by decide +kernel
theorem dPK30r_4 : decode jdk_41_method_11_code 4 = .ok (.iload_n 0, 1) := by decide +kernel
theorem dPK30r_5 : decode jdk_41_method_11_code 5 = .ok (.iload_n 1, 1) := by decide +kernel
theorem dPK30r_6 : decode jdk_41_method_11_code 6 = .ok (.if_icmp .lt 10, 3) := by decide +kernel
theorem dPK30r_16 : decode jdk_41_method_11_code 16 = .ok (.iload_n 0, 1) := by decide +kernel
theorem dPK30r_17 : decode jdk_41_method_11_code 17 = .ok (.ireturn, 1) := by decide +kernel
set_option maxRecDepth 65536 in
set_option maxHeartbeats 40000000 in
theorem rmPK30r {l : Launch} {Z : State} {a0 : Array Value} {n0 : Nat} (X : Ctx Z a0) (fb : Addr) {h : Heap} (hO : Old Z n0 h)  :
    Ctr l Z EL1 n0 (⟨"jdk/internal/util/Preconditions", "checkIndex", "(IILjava/util/function/BiFunction;)I"⟩ : MethodName) jdk_41_method_11_code 3 (some .int) ({ frames := 0, cells := 0, slots := 0, locals := 0 } : Room) #[(.int (0 : Int32)), (.int (3 : Int32)), (.ref fb)] h [] (fun v h' => v = some (.int (0 : Int32)) ∧ h' = h) := by
  have hw := X.hw
  obtain ⟨z1, hz1, hz2⟩ := X.2.2.1
  refine Ctr.intro (a0 := a0) (plainFor_of_name pn2) hO X.ew ?_
  intro p e s m below meth c T0 V0 S0 hby hml hret hnm hsf
  rw [ef9]
  refine s_iloadN S0 (hb hby dPK30r_0) rfl (pc' := 1) rfl ?_
  refine s_ifN S0 (hb hby dPK30r_1) (by decide) (pc' := 4) rfl ?_
  refine s_iloadN S0 (hb hby dPK30r_4) rfl (pc' := 5) rfl ?_
  refine s_iloadN S0 (hb hby dPK30r_5) rfl (pc' := 6) rfl ?_
  refine s_icmpY S0 (hb hby dPK30r_6) (by decide) (by decide) (pcT := 16) (by decide) ?_
  refine s_iloadN S0 (hb hby dPK30r_16) rfl (pc' := 17) rfl ?_
  exact g_iret S0 (hb hby dPK30r_17) hret ⟨rfl, rfl⟩
theorem dPK30n_0 : decode jdk_41_method_11_code 0 = .ok (.iload_n 0, 1) := by decide +kernel
theorem dPK30n_1 : decode jdk_41_method_11_code 1 = .ok (.ifCond .lt 8, 3) := by decide +kernel
theorem dPK30n_4 : decode jdk_41_method_11_code 4 = .ok (.iload_n 0, 1) := by decide +kernel
theorem dPK30n_5 : decode jdk_41_method_11_code 5 = .ok (.iload_n 1, 1) := by decide +kernel
theorem dPK30n_6 : decode jdk_41_method_11_code 6 = .ok (.if_icmp .lt 10, 3) := by decide +kernel
theorem dPK30n_16 : decode jdk_41_method_11_code 16 = .ok (.iload_n 0, 1) := by decide +kernel
theorem dPK30n_17 : decode jdk_41_method_11_code 17 = .ok (.ireturn, 1) := by decide +kernel
set_option maxRecDepth 65536 in
set_option maxHeartbeats 40000000 in
theorem rmPK30n {l : Launch} {Z : State} {a0 : Array Value} {n0 : Nat} (X : Ctx Z a0)  {h : Heap} (hO : Old Z n0 h)  :
    Ctr l Z EL1 n0 (⟨"jdk/internal/util/Preconditions", "checkIndex", "(IILjava/util/function/BiFunction;)I"⟩ : MethodName) jdk_41_method_11_code 3 (some .int) ({ frames := 0, cells := 0, slots := 0, locals := 0 } : Room) #[(.int (0 : Int32)), (.int (3 : Int32)), .null] h [] (fun v h' => v = some (.int (0 : Int32)) ∧ h' = h) := by
  have hw := X.hw
  obtain ⟨z1, hz1, hz2⟩ := X.2.2.1
  refine Ctr.intro (a0 := a0) (plainFor_of_name pn2) hO X.ew ?_
  intro p e s m below meth c T0 V0 S0 hby hml hret hnm hsf
  rw [ef10]
  refine s_iloadN S0 (hb hby dPK30n_0) rfl (pc' := 1) rfl ?_
  refine s_ifN S0 (hb hby dPK30n_1) (by decide) (pc' := 4) rfl ?_
  refine s_iloadN S0 (hb hby dPK30n_4) rfl (pc' := 5) rfl ?_
  refine s_iloadN S0 (hb hby dPK30n_5) rfl (pc' := 6) rfl ?_
  refine s_icmpY S0 (hb hby dPK30n_6) (by decide) (by decide) (pcT := 16) (by decide) ?_
  refine s_iloadN S0 (hb hby dPK30n_16) rfl (pc' := 17) rfl ?_
  exact g_iret S0 (hb hby dPK30n_17) hret ⟨rfl, rfl⟩
theorem dSK30_0 : decode jdk_42_method_155_code 0 = .ok (.iload_n 0, 1) := by decide +kernel
theorem dSK30_1 : decode jdk_42_method_155_code 1 = .ok (.iload_n 1, 1) := by decide +kernel
theorem dSK30_2 : decode jdk_42_method_155_code 2 = .ok (.getstatic 1053, 3) := by decide +kernel
theorem dSK30_5 : decode jdk_42_method_155_code 5 = .ok (.invokestatic 1059, 3) := by decide +kernel
theorem dSK30_8 : decode jdk_42_method_155_code 8 = .ok (.pop, 1) := by decide +kernel
theorem dSK30_9 : decode jdk_42_method_155_code 9 = .ok (.return_, 1) := by decide +kernel
set_option maxRecDepth 65536 in
set_option maxHeartbeats 40000000 in
theorem rmSK30 {l : Launch} {Z : State} {a0 : Array Value} {n0 : Nat} (X : Ctx Z a0)  {h : Heap} (hO : Old Z n0 h)  :
    Ctr l Z EL1 n0 (⟨"java/lang/String", "checkIndex", "(II)V"⟩ : MethodName) jdk_42_method_155_code 2 none ({ frames := 1, cells := 0, slots := 0, locals := 14 } : Room) #[(.int (0 : Int32)), (.int (3 : Int32))] h [] (fun v h' => v = none ∧ h' = h) := by
  have hw := X.hw
  obtain ⟨z1, hz1, hz2⟩ := X.2.2.1
  refine Ctr.intro (a0 := a0) (plainFor_of_name pn1) hO X.ew ?_
  intro p e s m below meth c T0 V0 S0 hby hml hret hnm hsf
  rw [ef11]
  obtain ⟨fm, hfm, rfm⟩ := X.fm
  rcases ref_cases rfm with rfl | ⟨fb, rfl⟩
  · skip
    refine s_iloadN S0 (hb hby dSK30_0) rfl (pc' := 1) rfl ?_
    refine s_iloadN S0 (hb hby dSK30_1) rfl (pc' := 2) rfl ?_
    refine g_getS S0 (w72 hw) Via.refl (hfm.ext S0.old.2) (hb hby dSK30_2) ?_
    intro T261 ST261
    show Go p e below _ (T261.setTop (mkF m 5 #[.val (.int (0 : Int32)), .val (.int (3 : Int32))] [.null, (.int (3 : Int32)), (.int (0 : Int32))]))
    show Go p e below _ (T261.setTop (mkF m 5 #[.val (.int (0 : Int32)), .val (.int (3 : Int32))] [.null, (.int (3 : Int32)), (.int (0 : Int32))]))
    refine g_static ST261 (rmPK30n X ST261.old) (fun _ q => nomatch q) (w74 hw) (w75 hw) (w73 hw) (w76 hw) (by decide) (hb hby dSK30_5) (by rw [hml]; rfl) [(.int (0 : Int32)), (.int (3 : Int32)), .null] (lenOf pd8 rfl) rfl rfl (Nat.le_of_ble_eq_true rfl) (Nat.le_of_ble_eq_true rfl) (Nat.le_of_ble_eq_true rfl) (Nat.le_of_ble_eq_true rfl) ?_
    intro v262 T262 V262 h262 S262 C262 q262
    obtain ⟨rfl, rfl⟩ := q262
    show Go p e below _ (T262.setTop (mkF m 8 #[.val (.int (0 : Int32)), .val (.int (3 : Int32))] [(.int (0 : Int32))]))
    refine s_pop S262 (hb hby dSK30_8) rfl (pc' := 9) rfl ?_
    exact g_ret S262 (hb hby dSK30_9) hret ⟨rfl, rfl⟩
  · skip
    refine s_iloadN S0 (hb hby dSK30_0) rfl (pc' := 1) rfl ?_
    refine s_iloadN S0 (hb hby dSK30_1) rfl (pc' := 2) rfl ?_
    refine g_getS S0 (w72 hw) Via.refl (hfm.ext S0.old.2) (hb hby dSK30_2) ?_
    intro T263 ST263
    show Go p e below _ (T263.setTop (mkF m 5 #[.val (.int (0 : Int32)), .val (.int (3 : Int32))] [(.ref fb), (.int (3 : Int32)), (.int (0 : Int32))]))
    show Go p e below _ (T263.setTop (mkF m 5 #[.val (.int (0 : Int32)), .val (.int (3 : Int32))] [(.ref fb), (.int (3 : Int32)), (.int (0 : Int32))]))
    refine g_static ST263 (rmPK30r X fb ST263.old) (fun _ q => nomatch q) (w74 hw) (w75 hw) (w73 hw) (w76 hw) (by decide) (hb hby dSK30_5) (by rw [hml]; rfl) [(.int (0 : Int32)), (.int (3 : Int32)), (.ref fb)] (lenOf pd8 rfl) rfl rfl (Nat.le_of_ble_eq_true rfl) (Nat.le_of_ble_eq_true rfl) (Nat.le_of_ble_eq_true rfl) (Nat.le_of_ble_eq_true rfl) ?_
    intro v264 T264 V264 h264 S264 C264 q264
    obtain ⟨rfl, rfl⟩ := q264
    show Go p e below _ (T264.setTop (mkF m 8 #[.val (.int (0 : Int32)), .val (.int (3 : Int32))] [(.int (0 : Int32))]))
    refine s_pop S264 (hb hby dSK30_8) rfl (pc' := 9) rfl ?_
    exact g_ret S264 (hb hby dSK30_9) hret ⟨rfl, rfl⟩
theorem dUK30_0 : decode jdk_52_method_91_code 0 = .ok (.iload_n 0, 1) := by decide +kernel
theorem dUK30_1 : decode jdk_52_method_91_code 1 = .ok (.aload_n 1, 1) := by decide +kernel
theorem dUK30_2 : decode jdk_52_method_91_code 2 = .ok (.invokestatic 48, 3) := by decide +kernel
theorem dUK30_5 : decode jdk_52_method_91_code 5 = .ok (.invokestatic 414, 3) := by decide +kernel
theorem dUK30_8 : decode jdk_52_method_91_code 8 = .ok (.return_, 1) := by decide +kernel
set_option maxRecDepth 65536 in
set_option maxHeartbeats 40000000 in
theorem rmUK30 {l : Launch} {Z : State} {a0 : Array Value} {n0 : Nat} (X : Ctx Z a0) {u : Addr} {ku : ClassId} {c0 c1 c2 : Int32} {h : Heap} (hO : Old Z n0 h) (Vu : Arv Z h u ku .byte (6 : Int32) [(.int (StrChars.lo8 c0)), (.int (StrChars.hi8 c0)), (.int (StrChars.lo8 c1)), (.int (StrChars.hi8 c1)), (.int (StrChars.lo8 c2)), (.int (StrChars.hi8 c2))] (.int (0 : Int32))) :
    Ctr l Z EL1 n0 (⟨"java/lang/StringUTF16", "checkIndex", "(I[B)V"⟩ : MethodName) jdk_52_method_91_code 2 none ({ frames := 2, cells := 0, slots := 0, locals := 28 } : Room) #[(.int (0 : Int32)), (.ref u)] h [] (fun v h' => v = none ∧ h' = h) := by
  have hw := X.hw
  obtain ⟨z1, hz1, hz2⟩ := X.2.2.1
  refine Ctr.intro (a0 := a0) (plainFor_of_name pn0) hO X.ew ?_
  intro p e s m below meth c T0 V0 S0 hby hml hret hnm hsf
  rw [ef12]
  refine s_iloadN S0 (hb hby dUK30_0) rfl (pc' := 1) rfl ?_
  refine s_aloadN S0 (hb hby dUK30_1) rfl rfl (pc' := 2) rfl ?_
  show Go p e below _ (T0.setTop (mkF m 2 #[.val (.int (0 : Int32)), .val (.ref u)] [(.ref u), (.int (0 : Int32))]))
  refine g_static S0 (rmUL3 X S0.old Vu) (fun _ q => nomatch q) (w109 hw) (w110 hw) (w44 hw) (w111 hw) (by decide) (hb hby dUK30_2) (by rw [hml]; rfl) [(.ref u)] (lenOf pd9 rfl) rfl rfl (Nat.le_of_ble_eq_true rfl) (Nat.le_of_ble_eq_true rfl) (Nat.le_of_ble_eq_true rfl) (Nat.le_of_ble_eq_true rfl) ?_
  intro v265 T265 V265 h265 S265 C265 q265
  obtain ⟨rfl, rfl⟩ := q265
  show Go p e below _ (T265.setTop (mkF m 5 #[.val (.int (0 : Int32)), .val (.ref u)] [(.int (3 : Int32)), (.int (0 : Int32))]))
  show Go p e below _ (T265.setTop (mkF m 5 #[.val (.int (0 : Int32)), .val (.ref u)] [(.int (3 : Int32)), (.int (0 : Int32))]))
  refine g_static S265 (rmSK30 X S265.old) (fun _ q => nomatch q) (w112 hw) (w70 hw) (w7 hw) (w71 hw) (by decide) (hb hby dUK30_5) (by rw [hml]; rfl) [(.int (0 : Int32)), (.int (3 : Int32))] (lenOf pd10 rfl) rfl rfl (Nat.le_of_ble_eq_true rfl) (Nat.le_of_ble_eq_true rfl) (Nat.le_of_ble_eq_true rfl) (Nat.le_of_ble_eq_true rfl) ?_
  intro v266 T266 V266 h266 S266 C266 q266
  obtain ⟨rfl, rfl⟩ := q266
  show Go p e below _ (T266.setTop (mkF m 8 #[.val (.int (0 : Int32)), .val (.ref u)] []))
  exact g_ret S266 (hb hby dUK30_8) hret ⟨rfl, rfl⟩
theorem dUC30_0 : decode jdk_52_method_83_code 0 = .ok (.iload_n 1, 1) := by decide +kernel
theorem dUC30_1 : decode jdk_52_method_83_code 1 = .ok (.aload_n 0, 1) := by decide +kernel
theorem dUC30_2 : decode jdk_52_method_83_code 2 = .ok (.invokestatic 67, 3) := by decide +kernel
theorem dUC30_5 : decode jdk_52_method_83_code 5 = .ok (.aload_n 0, 1) := by decide +kernel
theorem dUC30_6 : decode jdk_52_method_83_code 6 = .ok (.iload_n 1, 1) := by decide +kernel
theorem dUC30_7 : decode jdk_52_method_83_code 7 = .ok (.invokestatic 71, 3) := by decide +kernel
theorem dUC30_10 : decode jdk_52_method_83_code 10 = .ok (.ireturn, 1) := by decide +kernel
set_option maxRecDepth 65536 in
set_option maxHeartbeats 40000000 in
theorem rmUC30 {l : Launch} {Z : State} {a0 : Array Value} {n0 : Nat} (X : Ctx Z a0) {u : Addr} {ku : ClassId} {c0 c1 c2 : Int32} {h : Heap} (hO : Old Z n0 h) (Vu : Arv Z h u ku .byte (6 : Int32) [(.int (StrChars.lo8 c0)), (.int (StrChars.hi8 c0)), (.int (StrChars.lo8 c1)), (.int (StrChars.hi8 c1)), (.int (StrChars.lo8 c2)), (.int (StrChars.hi8 c2))] (.int (0 : Int32))) (r : ¬ c0 < 0 ∧ ¬ (65535 : Int32) < c0) :
    Ctr l Z EL1 n0 (⟨"java/lang/StringUTF16", "charAt", "([BI)C"⟩ : MethodName) jdk_52_method_83_code 2 (some .char) ({ frames := 3, cells := 0, slots := 0, locals := 41 } : Room) #[(.ref u), (.int (0 : Int32))] h [] (fun v h' => v = some (.int c0) ∧ h' = h) := by
  have hw := X.hw
  obtain ⟨z1, hz1, hz2⟩ := X.2.2.1
  refine Ctr.intro (a0 := a0) (plainFor_of_name pn0) hO X.ew ?_
  intro p e s m below meth c T0 V0 S0 hby hml hret hnm hsf
  rw [ef1]
  refine s_iloadN S0 (hb hby dUC30_0) rfl (pc' := 1) rfl ?_
  refine s_aloadN S0 (hb hby dUC30_1) rfl rfl (pc' := 2) rfl ?_
  show Go p e below _ (T0.setTop (mkF m 2 #[.val (.ref u), .val (.int (0 : Int32))] [(.ref u), (.int (0 : Int32))]))
  refine g_static S0 (rmUK30 X S0.old Vu) (fun _ q => nomatch q) (w106 hw) (w107 hw) (w44 hw) (w108 hw) (by decide) (hb hby dUC30_2) (by rw [hml]; rfl) [(.int (0 : Int32)), (.ref u)] (lenOf pd11 rfl) rfl rfl (Nat.le_of_ble_eq_true rfl) (Nat.le_of_ble_eq_true rfl) (Nat.le_of_ble_eq_true rfl) (Nat.le_of_ble_eq_true rfl) ?_
  intro v267 T267 V267 h267 S267 C267 q267
  obtain ⟨rfl, rfl⟩ := q267
  show Go p e below _ (T267.setTop (mkF m 5 #[.val (.ref u), .val (.int (0 : Int32))] []))
  refine s_aloadN S267 (hb hby dUC30_5) rfl rfl (pc' := 6) rfl ?_
  refine s_iloadN S267 (hb hby dUC30_6) rfl (pc' := 7) rfl ?_
  show Go p e below _ (T267.setTop (mkF m 7 #[.val (.ref u), .val (.int (0 : Int32))] [(.int (0 : Int32)), (.ref u)]))
  refine g_static S267 (rmGC30 X S267.old Vu r) (fun _ q => nomatch q) (w100 hw) (w101 hw) (w44 hw) (w102 hw) (by decide) (hb hby dUC30_7) (by rw [hml]; rfl) [(.ref u), (.int (0 : Int32))] (lenOf pd5 rfl) rfl rfl (Nat.le_of_ble_eq_true rfl) (Nat.le_of_ble_eq_true rfl) (Nat.le_of_ble_eq_true rfl) (Nat.le_of_ble_eq_true rfl) ?_
  intro v268 T268 V268 h268 S268 C268 q268
  obtain ⟨rfl, rfl⟩ := q268
  show Go p e below _ (T268.setTop (mkF m 10 #[.val (.ref u), .val (.int (0 : Int32))] [(.int c0)]))
  exact g_iretN S268 (hb hby dUC30_10) hret (by simp) ⟨by rw [narC r], rfl⟩
theorem dCA30_0 : decode jdk_42_method_56_code 0 = .ok (.aload_n 0, 1) := by decide +kernel
theorem dCA30_1 : decode jdk_42_method_56_code 1 = .ok (.invokevirtual 492, 3) := by decide +kernel
theorem dCA30_4 : decode jdk_42_method_56_code 4 = .ok (.ifCond .eq 12, 3) := by decide +kernel
theorem dCA30_16 : decode jdk_42_method_56_code 16 = .ok (.aload_n 0, 1) := by decide +kernel
theorem dCA30_17 : decode jdk_42_method_56_code 17 = .ok (.getfield 9, 3) := by decide +kernel
theorem dCA30_20 : decode jdk_42_method_56_code 20 = .ok (.iload_n 1, 1) := by decide +kernel
theorem dCA30_21 : decode jdk_42_method_56_code 21 = .ok (.invokestatic 498, 3) := by decide +kernel
theorem dCA30_24 : decode jdk_42_method_56_code 24 = .ok (.ireturn, 1) := by decide +kernel
set_option maxRecDepth 65536 in
set_option maxHeartbeats 40000000 in
theorem rmCA30 {l : Launch} {Z : State} {a0 : Array Value} {n0 : Nat} (X : Ctx Z a0) {x : Addr} {c0 c1 c2 : Int32} {h : Heap} (hO : Old Z n0 h) (F : StrF Z h x [c0, c1, c2]) (hwd : (255 : Int32) < c0 ∨ (255 : Int32) < c1 ∨ (255 : Int32) < c2) :
    Ctr l Z EL1 n0 (⟨"java/lang/String", "charAt", "(I)C"⟩ : MethodName) jdk_42_method_56_code 2 (some .char) ({ frames := 4, cells := 0, slots := 0, locals := 54 } : Room) #[(.ref x), (.int (0 : Int32))] h [] (fun v h' => v = some (.int c0) ∧ h' = h) := by
  have hw := X.hw
  obtain ⟨z1, hz1, hz2⟩ := X.2.2.1
  refine Ctr.intro (a0 := a0) (plainFor_of_name pn1) hO X.ew ?_
  intro p e s m below meth c T0 V0 S0 hby hml hret hnm hsf
  rw [ef1]
  obtain ⟨u, ku, cd, N2, vs, f1, f2, f3, f4, f5, f6, f7⟩ := F
  rcases f5 with ⟨-, -, -, f5⟩ | ⟨rfl, rfl, rfl, -⟩
  · obtain ⟨cc, hcc, hb_⟩ := own_ex3 hwd; exact absurd hb_ (f5 cc hcc)
  have Vu : Arv Z h u ku .byte (6 : Int32) [(.int (StrChars.lo8 c0)), (.int (StrChars.hi8 c0)), (.int (StrChars.lo8 c1)), (.int (StrChars.hi8 c1)), (.int (StrChars.lo8 c2)), (.int (StrChars.hi8 c2))] (.int (0 : Int32)) := f4
  show Go p e below _ (T0.setTop (mkF m 0 #[.val (.ref x), .val (.int (0 : Int32))] []))
  refine s_aloadN S0 (hb hby dCA30_0) rfl rfl (pc' := 1) rfl ?_
  show Go p e below _ (T0.setTop (mkF m 1 #[.val (.ref x), .val (.int (0 : Int32))] [(.ref x)]))
  refine g_virtual S0 (rmIS X S0.old f3) (fun _ q => nomatch q) (w60 hw) (w61 hw) (w63 hw) (w62 hw) (w7 hw) (w64 hw) (by decide) (fun _ h => notFace_of_selects h) (hb hby dCA30_1) (by rw [hml]; rfl) x f1 [] (lenOf pd12 rfl) rfl rfl (Nat.le_of_ble_eq_true rfl) (Nat.le_of_ble_eq_true rfl) (Nat.le_of_ble_eq_true rfl) (Nat.le_of_ble_eq_true rfl) ?_
  intro v269 T269 V269 h269 S269 C269 q269
  obtain ⟨rfl, rfl⟩ := q269
  show Go p e below _ (T269.setTop (mkF m 4 #[.val (.ref x), .val (.int (0 : Int32))] [(.int (0 : Int32))]))
  refine s_ifY S269 (hb hby dCA30_4) (by decide) (by decide) (pcT := 16) (by decide) ?_
  refine s_aloadN S269 (hb hby dCA30_16) rfl rfl (pc' := 17) rfl ?_
  refine g_getF S269 (w25 hw) Via.refl f2 (hb hby dCA30_17) ?_
  intro T270 ST270
  show Go p e below _ (T270.setTop (mkF m 20 #[.val (.ref x), .val (.int (0 : Int32))] [(.ref u)]))
  refine s_iloadN ST270 (hb hby dCA30_20) rfl (pc' := 21) rfl ?_
  show Go p e below _ (T270.setTop (mkF m 21 #[.val (.ref x), .val (.int (0 : Int32))] [(.int (0 : Int32)), (.ref u)]))
  refine g_static ST270 (rmUC30 X ST270.old Vu (f6 c0 (by simp))) (fun _ q => nomatch q) (w103 hw) (w104 hw) (w44 hw) (w105 hw) (by decide) (hb hby dCA30_21) (by rw [hml]; rfl) [(.ref u), (.int (0 : Int32))] (lenOf pd5 rfl) rfl rfl (Nat.le_of_ble_eq_true rfl) (Nat.le_of_ble_eq_true rfl) (Nat.le_of_ble_eq_true rfl) (Nat.le_of_ble_eq_true rfl) ?_
  intro v271 T271 V271 h271 S271 C271 q271
  obtain ⟨rfl, rfl⟩ := q271
  show Go p e below _ (T271.setTop (mkF m 24 #[.val (.ref x), .val (.int (0 : Int32))] [(.int c0)]))
  exact g_iretN S271 (hb hby dCA30_24) hret (by simp) ⟨by rw [narC (f6 c0 (by simp))], rfl⟩
theorem dPK31r_0 : decode jdk_41_method_11_code 0 = .ok (.iload_n 0, 1) := by decide +kernel
theorem dPK31r_1 : decode jdk_41_method_11_code 1 = .ok (.ifCond .lt 8, 3) := by decide +kernel
theorem dPK31r_4 : decode jdk_41_method_11_code 4 = .ok (.iload_n 0, 1) := by decide +kernel
theorem dPK31r_5 : decode jdk_41_method_11_code 5 = .ok (.iload_n 1, 1) := by decide +kernel
theorem dPK31r_6 : decode jdk_41_method_11_code 6 = .ok (.if_icmp .lt 10, 3) := by decide +kernel
theorem dPK31r_16 : decode jdk_41_method_11_code 16 = .ok (.iload_n 0, 1) := by decide +kernel
theorem dPK31r_17 : decode jdk_41_method_11_code 17 = .ok (.ireturn, 1) := by decide +kernel
set_option maxRecDepth 65536 in
set_option maxHeartbeats 40000000 in
theorem rmPK31r {l : Launch} {Z : State} {a0 : Array Value} {n0 : Nat} (X : Ctx Z a0) (fb : Addr) {h : Heap} (hO : Old Z n0 h)  :
    Ctr l Z EL1 n0 (⟨"jdk/internal/util/Preconditions", "checkIndex", "(IILjava/util/function/BiFunction;)I"⟩ : MethodName) jdk_41_method_11_code 3 (some .int) ({ frames := 0, cells := 0, slots := 0, locals := 0 } : Room) #[(.int (1 : Int32)), (.int (3 : Int32)), (.ref fb)] h [] (fun v h' => v = some (.int (1 : Int32)) ∧ h' = h) := by
  have hw := X.hw
  obtain ⟨z1, hz1, hz2⟩ := X.2.2.1
  refine Ctr.intro (a0 := a0) (plainFor_of_name pn2) hO X.ew ?_
  intro p e s m below meth c T0 V0 S0 hby hml hret hnm hsf
  rw [ef9]
  refine s_iloadN S0 (hb hby dPK31r_0) rfl (pc' := 1) rfl ?_
  refine s_ifN S0 (hb hby dPK31r_1) (by decide) (pc' := 4) rfl ?_
  refine s_iloadN S0 (hb hby dPK31r_4) rfl (pc' := 5) rfl ?_
  refine s_iloadN S0 (hb hby dPK31r_5) rfl (pc' := 6) rfl ?_
  refine s_icmpY S0 (hb hby dPK31r_6) (by decide) (by decide) (pcT := 16) (by decide) ?_
  refine s_iloadN S0 (hb hby dPK31r_16) rfl (pc' := 17) rfl ?_
  exact g_iret S0 (hb hby dPK31r_17) hret ⟨rfl, rfl⟩
theorem dPK31n_0 : decode jdk_41_method_11_code 0 = .ok (.iload_n 0, 1) := by decide +kernel
theorem dPK31n_1 : decode jdk_41_method_11_code 1 = .ok (.ifCond .lt 8, 3) := by decide +kernel
theorem dPK31n_4 : decode jdk_41_method_11_code 4 = .ok (.iload_n 0, 1) := by decide +kernel
theorem dPK31n_5 : decode jdk_41_method_11_code 5 = .ok (.iload_n 1, 1) := by decide +kernel
theorem dPK31n_6 : decode jdk_41_method_11_code 6 = .ok (.if_icmp .lt 10, 3) := by decide +kernel
theorem dPK31n_16 : decode jdk_41_method_11_code 16 = .ok (.iload_n 0, 1) := by decide +kernel
theorem dPK31n_17 : decode jdk_41_method_11_code 17 = .ok (.ireturn, 1) := by decide +kernel
set_option maxRecDepth 65536 in
set_option maxHeartbeats 40000000 in
theorem rmPK31n {l : Launch} {Z : State} {a0 : Array Value} {n0 : Nat} (X : Ctx Z a0)  {h : Heap} (hO : Old Z n0 h)  :
    Ctr l Z EL1 n0 (⟨"jdk/internal/util/Preconditions", "checkIndex", "(IILjava/util/function/BiFunction;)I"⟩ : MethodName) jdk_41_method_11_code 3 (some .int) ({ frames := 0, cells := 0, slots := 0, locals := 0 } : Room) #[(.int (1 : Int32)), (.int (3 : Int32)), .null] h [] (fun v h' => v = some (.int (1 : Int32)) ∧ h' = h) := by
  have hw := X.hw
  obtain ⟨z1, hz1, hz2⟩ := X.2.2.1
  refine Ctr.intro (a0 := a0) (plainFor_of_name pn2) hO X.ew ?_
  intro p e s m below meth c T0 V0 S0 hby hml hret hnm hsf
  rw [ef10]
  refine s_iloadN S0 (hb hby dPK31n_0) rfl (pc' := 1) rfl ?_
  refine s_ifN S0 (hb hby dPK31n_1) (by decide) (pc' := 4) rfl ?_
  refine s_iloadN S0 (hb hby dPK31n_4) rfl (pc' := 5) rfl ?_
  refine s_iloadN S0 (hb hby dPK31n_5) rfl (pc' := 6) rfl ?_
  refine s_icmpY S0 (hb hby dPK31n_6) (by decide) (by decide) (pcT := 16) (by decide) ?_
  refine s_iloadN S0 (hb hby dPK31n_16) rfl (pc' := 17) rfl ?_
  exact g_iret S0 (hb hby dPK31n_17) hret ⟨rfl, rfl⟩
theorem dSK31_0 : decode jdk_42_method_155_code 0 = .ok (.iload_n 0, 1) := by decide +kernel
theorem dSK31_1 : decode jdk_42_method_155_code 1 = .ok (.iload_n 1, 1) := by decide +kernel
theorem dSK31_2 : decode jdk_42_method_155_code 2 = .ok (.getstatic 1053, 3) := by decide +kernel
theorem dSK31_5 : decode jdk_42_method_155_code 5 = .ok (.invokestatic 1059, 3) := by decide +kernel
theorem dSK31_8 : decode jdk_42_method_155_code 8 = .ok (.pop, 1) := by decide +kernel
theorem dSK31_9 : decode jdk_42_method_155_code 9 = .ok (.return_, 1) := by decide +kernel
set_option maxRecDepth 65536 in
set_option maxHeartbeats 40000000 in
theorem rmSK31 {l : Launch} {Z : State} {a0 : Array Value} {n0 : Nat} (X : Ctx Z a0)  {h : Heap} (hO : Old Z n0 h)  :
    Ctr l Z EL1 n0 (⟨"java/lang/String", "checkIndex", "(II)V"⟩ : MethodName) jdk_42_method_155_code 2 none ({ frames := 1, cells := 0, slots := 0, locals := 14 } : Room) #[(.int (1 : Int32)), (.int (3 : Int32))] h [] (fun v h' => v = none ∧ h' = h) := by
  have hw := X.hw
  obtain ⟨z1, hz1, hz2⟩ := X.2.2.1
  refine Ctr.intro (a0 := a0) (plainFor_of_name pn1) hO X.ew ?_
  intro p e s m below meth c T0 V0 S0 hby hml hret hnm hsf
  rw [ef11]
  obtain ⟨fm, hfm, rfm⟩ := X.fm
  rcases ref_cases rfm with rfl | ⟨fb, rfl⟩
  · skip
    refine s_iloadN S0 (hb hby dSK31_0) rfl (pc' := 1) rfl ?_
    refine s_iloadN S0 (hb hby dSK31_1) rfl (pc' := 2) rfl ?_
    refine g_getS S0 (w72 hw) Via.refl (hfm.ext S0.old.2) (hb hby dSK31_2) ?_
    intro T272 ST272
    show Go p e below _ (T272.setTop (mkF m 5 #[.val (.int (1 : Int32)), .val (.int (3 : Int32))] [.null, (.int (3 : Int32)), (.int (1 : Int32))]))
    show Go p e below _ (T272.setTop (mkF m 5 #[.val (.int (1 : Int32)), .val (.int (3 : Int32))] [.null, (.int (3 : Int32)), (.int (1 : Int32))]))
    refine g_static ST272 (rmPK31n X ST272.old) (fun _ q => nomatch q) (w74 hw) (w75 hw) (w73 hw) (w76 hw) (by decide) (hb hby dSK31_5) (by rw [hml]; rfl) [(.int (1 : Int32)), (.int (3 : Int32)), .null] (lenOf pd8 rfl) rfl rfl (Nat.le_of_ble_eq_true rfl) (Nat.le_of_ble_eq_true rfl) (Nat.le_of_ble_eq_true rfl) (Nat.le_of_ble_eq_true rfl) ?_
    intro v273 T273 V273 h273 S273 C273 q273
    obtain ⟨rfl, rfl⟩ := q273
    show Go p e below _ (T273.setTop (mkF m 8 #[.val (.int (1 : Int32)), .val (.int (3 : Int32))] [(.int (1 : Int32))]))
    refine s_pop S273 (hb hby dSK31_8) rfl (pc' := 9) rfl ?_
    exact g_ret S273 (hb hby dSK31_9) hret ⟨rfl, rfl⟩
  · skip
    refine s_iloadN S0 (hb hby dSK31_0) rfl (pc' := 1) rfl ?_
    refine s_iloadN S0 (hb hby dSK31_1) rfl (pc' := 2) rfl ?_
    refine g_getS S0 (w72 hw) Via.refl (hfm.ext S0.old.2) (hb hby dSK31_2) ?_
    intro T274 ST274
    show Go p e below _ (T274.setTop (mkF m 5 #[.val (.int (1 : Int32)), .val (.int (3 : Int32))] [(.ref fb), (.int (3 : Int32)), (.int (1 : Int32))]))
    show Go p e below _ (T274.setTop (mkF m 5 #[.val (.int (1 : Int32)), .val (.int (3 : Int32))] [(.ref fb), (.int (3 : Int32)), (.int (1 : Int32))]))
    refine g_static ST274 (rmPK31r X fb ST274.old) (fun _ q => nomatch q) (w74 hw) (w75 hw) (w73 hw) (w76 hw) (by decide) (hb hby dSK31_5) (by rw [hml]; rfl) [(.int (1 : Int32)), (.int (3 : Int32)), (.ref fb)] (lenOf pd8 rfl) rfl rfl (Nat.le_of_ble_eq_true rfl) (Nat.le_of_ble_eq_true rfl) (Nat.le_of_ble_eq_true rfl) (Nat.le_of_ble_eq_true rfl) ?_
    intro v275 T275 V275 h275 S275 C275 q275
    obtain ⟨rfl, rfl⟩ := q275
    show Go p e below _ (T275.setTop (mkF m 8 #[.val (.int (1 : Int32)), .val (.int (3 : Int32))] [(.int (1 : Int32))]))
    refine s_pop S275 (hb hby dSK31_8) rfl (pc' := 9) rfl ?_
    exact g_ret S275 (hb hby dSK31_9) hret ⟨rfl, rfl⟩
theorem dUK31_0 : decode jdk_52_method_91_code 0 = .ok (.iload_n 0, 1) := by decide +kernel
theorem dUK31_1 : decode jdk_52_method_91_code 1 = .ok (.aload_n 1, 1) := by decide +kernel
theorem dUK31_2 : decode jdk_52_method_91_code 2 = .ok (.invokestatic 48, 3) := by decide +kernel
theorem dUK31_5 : decode jdk_52_method_91_code 5 = .ok (.invokestatic 414, 3) := by decide +kernel
theorem dUK31_8 : decode jdk_52_method_91_code 8 = .ok (.return_, 1) := by decide +kernel
set_option maxRecDepth 65536 in
set_option maxHeartbeats 40000000 in
theorem rmUK31 {l : Launch} {Z : State} {a0 : Array Value} {n0 : Nat} (X : Ctx Z a0) {u : Addr} {ku : ClassId} {c0 c1 c2 : Int32} {h : Heap} (hO : Old Z n0 h) (Vu : Arv Z h u ku .byte (6 : Int32) [(.int (StrChars.lo8 c0)), (.int (StrChars.hi8 c0)), (.int (StrChars.lo8 c1)), (.int (StrChars.hi8 c1)), (.int (StrChars.lo8 c2)), (.int (StrChars.hi8 c2))] (.int (0 : Int32))) :
    Ctr l Z EL1 n0 (⟨"java/lang/StringUTF16", "checkIndex", "(I[B)V"⟩ : MethodName) jdk_52_method_91_code 2 none ({ frames := 2, cells := 0, slots := 0, locals := 28 } : Room) #[(.int (1 : Int32)), (.ref u)] h [] (fun v h' => v = none ∧ h' = h) := by
  have hw := X.hw
  obtain ⟨z1, hz1, hz2⟩ := X.2.2.1
  refine Ctr.intro (a0 := a0) (plainFor_of_name pn0) hO X.ew ?_
  intro p e s m below meth c T0 V0 S0 hby hml hret hnm hsf
  rw [ef12]
  refine s_iloadN S0 (hb hby dUK31_0) rfl (pc' := 1) rfl ?_
  refine s_aloadN S0 (hb hby dUK31_1) rfl rfl (pc' := 2) rfl ?_
  show Go p e below _ (T0.setTop (mkF m 2 #[.val (.int (1 : Int32)), .val (.ref u)] [(.ref u), (.int (1 : Int32))]))
  refine g_static S0 (rmUL3 X S0.old Vu) (fun _ q => nomatch q) (w109 hw) (w110 hw) (w44 hw) (w111 hw) (by decide) (hb hby dUK31_2) (by rw [hml]; rfl) [(.ref u)] (lenOf pd9 rfl) rfl rfl (Nat.le_of_ble_eq_true rfl) (Nat.le_of_ble_eq_true rfl) (Nat.le_of_ble_eq_true rfl) (Nat.le_of_ble_eq_true rfl) ?_
  intro v276 T276 V276 h276 S276 C276 q276
  obtain ⟨rfl, rfl⟩ := q276
  show Go p e below _ (T276.setTop (mkF m 5 #[.val (.int (1 : Int32)), .val (.ref u)] [(.int (3 : Int32)), (.int (1 : Int32))]))
  show Go p e below _ (T276.setTop (mkF m 5 #[.val (.int (1 : Int32)), .val (.ref u)] [(.int (3 : Int32)), (.int (1 : Int32))]))
  refine g_static S276 (rmSK31 X S276.old) (fun _ q => nomatch q) (w112 hw) (w70 hw) (w7 hw) (w71 hw) (by decide) (hb hby dUK31_5) (by rw [hml]; rfl) [(.int (1 : Int32)), (.int (3 : Int32))] (lenOf pd10 rfl) rfl rfl (Nat.le_of_ble_eq_true rfl) (Nat.le_of_ble_eq_true rfl) (Nat.le_of_ble_eq_true rfl) (Nat.le_of_ble_eq_true rfl) ?_
  intro v277 T277 V277 h277 S277 C277 q277
  obtain ⟨rfl, rfl⟩ := q277
  show Go p e below _ (T277.setTop (mkF m 8 #[.val (.int (1 : Int32)), .val (.ref u)] []))
  exact g_ret S277 (hb hby dUK31_8) hret ⟨rfl, rfl⟩
theorem dUC31_0 : decode jdk_52_method_83_code 0 = .ok (.iload_n 1, 1) := by decide +kernel
theorem dUC31_1 : decode jdk_52_method_83_code 1 = .ok (.aload_n 0, 1) := by decide +kernel
theorem dUC31_2 : decode jdk_52_method_83_code 2 = .ok (.invokestatic 67, 3) := by decide +kernel
theorem dUC31_5 : decode jdk_52_method_83_code 5 = .ok (.aload_n 0, 1) := by decide +kernel
theorem dUC31_6 : decode jdk_52_method_83_code 6 = .ok (.iload_n 1, 1) := by decide +kernel
theorem dUC31_7 : decode jdk_52_method_83_code 7 = .ok (.invokestatic 71, 3) := by decide +kernel
theorem dUC31_10 : decode jdk_52_method_83_code 10 = .ok (.ireturn, 1) := by decide +kernel
set_option maxRecDepth 65536 in
set_option maxHeartbeats 40000000 in
theorem rmUC31 {l : Launch} {Z : State} {a0 : Array Value} {n0 : Nat} (X : Ctx Z a0) {u : Addr} {ku : ClassId} {c0 c1 c2 : Int32} {h : Heap} (hO : Old Z n0 h) (Vu : Arv Z h u ku .byte (6 : Int32) [(.int (StrChars.lo8 c0)), (.int (StrChars.hi8 c0)), (.int (StrChars.lo8 c1)), (.int (StrChars.hi8 c1)), (.int (StrChars.lo8 c2)), (.int (StrChars.hi8 c2))] (.int (0 : Int32))) (r : ¬ c1 < 0 ∧ ¬ (65535 : Int32) < c1) :
    Ctr l Z EL1 n0 (⟨"java/lang/StringUTF16", "charAt", "([BI)C"⟩ : MethodName) jdk_52_method_83_code 2 (some .char) ({ frames := 3, cells := 0, slots := 0, locals := 41 } : Room) #[(.ref u), (.int (1 : Int32))] h [] (fun v h' => v = some (.int c1) ∧ h' = h) := by
  have hw := X.hw
  obtain ⟨z1, hz1, hz2⟩ := X.2.2.1
  refine Ctr.intro (a0 := a0) (plainFor_of_name pn0) hO X.ew ?_
  intro p e s m below meth c T0 V0 S0 hby hml hret hnm hsf
  rw [ef1]
  refine s_iloadN S0 (hb hby dUC31_0) rfl (pc' := 1) rfl ?_
  refine s_aloadN S0 (hb hby dUC31_1) rfl rfl (pc' := 2) rfl ?_
  show Go p e below _ (T0.setTop (mkF m 2 #[.val (.ref u), .val (.int (1 : Int32))] [(.ref u), (.int (1 : Int32))]))
  refine g_static S0 (rmUK31 X S0.old Vu) (fun _ q => nomatch q) (w106 hw) (w107 hw) (w44 hw) (w108 hw) (by decide) (hb hby dUC31_2) (by rw [hml]; rfl) [(.int (1 : Int32)), (.ref u)] (lenOf pd11 rfl) rfl rfl (Nat.le_of_ble_eq_true rfl) (Nat.le_of_ble_eq_true rfl) (Nat.le_of_ble_eq_true rfl) (Nat.le_of_ble_eq_true rfl) ?_
  intro v278 T278 V278 h278 S278 C278 q278
  obtain ⟨rfl, rfl⟩ := q278
  show Go p e below _ (T278.setTop (mkF m 5 #[.val (.ref u), .val (.int (1 : Int32))] []))
  refine s_aloadN S278 (hb hby dUC31_5) rfl rfl (pc' := 6) rfl ?_
  refine s_iloadN S278 (hb hby dUC31_6) rfl (pc' := 7) rfl ?_
  show Go p e below _ (T278.setTop (mkF m 7 #[.val (.ref u), .val (.int (1 : Int32))] [(.int (1 : Int32)), (.ref u)]))
  refine g_static S278 (rmGC31 X S278.old Vu r) (fun _ q => nomatch q) (w100 hw) (w101 hw) (w44 hw) (w102 hw) (by decide) (hb hby dUC31_7) (by rw [hml]; rfl) [(.ref u), (.int (1 : Int32))] (lenOf pd5 rfl) rfl rfl (Nat.le_of_ble_eq_true rfl) (Nat.le_of_ble_eq_true rfl) (Nat.le_of_ble_eq_true rfl) (Nat.le_of_ble_eq_true rfl) ?_
  intro v279 T279 V279 h279 S279 C279 q279
  obtain ⟨rfl, rfl⟩ := q279
  show Go p e below _ (T279.setTop (mkF m 10 #[.val (.ref u), .val (.int (1 : Int32))] [(.int c1)]))
  exact g_iretN S279 (hb hby dUC31_10) hret (by simp) ⟨by rw [narC r], rfl⟩
theorem dCA31_0 : decode jdk_42_method_56_code 0 = .ok (.aload_n 0, 1) := by decide +kernel
theorem dCA31_1 : decode jdk_42_method_56_code 1 = .ok (.invokevirtual 492, 3) := by decide +kernel
theorem dCA31_4 : decode jdk_42_method_56_code 4 = .ok (.ifCond .eq 12, 3) := by decide +kernel
theorem dCA31_16 : decode jdk_42_method_56_code 16 = .ok (.aload_n 0, 1) := by decide +kernel
theorem dCA31_17 : decode jdk_42_method_56_code 17 = .ok (.getfield 9, 3) := by decide +kernel
theorem dCA31_20 : decode jdk_42_method_56_code 20 = .ok (.iload_n 1, 1) := by decide +kernel
theorem dCA31_21 : decode jdk_42_method_56_code 21 = .ok (.invokestatic 498, 3) := by decide +kernel
theorem dCA31_24 : decode jdk_42_method_56_code 24 = .ok (.ireturn, 1) := by decide +kernel
set_option maxRecDepth 65536 in
set_option maxHeartbeats 40000000 in
theorem rmCA31 {l : Launch} {Z : State} {a0 : Array Value} {n0 : Nat} (X : Ctx Z a0) {x : Addr} {c0 c1 c2 : Int32} {h : Heap} (hO : Old Z n0 h) (F : StrF Z h x [c0, c1, c2]) (hwd : (255 : Int32) < c0 ∨ (255 : Int32) < c1 ∨ (255 : Int32) < c2) :
    Ctr l Z EL1 n0 (⟨"java/lang/String", "charAt", "(I)C"⟩ : MethodName) jdk_42_method_56_code 2 (some .char) ({ frames := 4, cells := 0, slots := 0, locals := 54 } : Room) #[(.ref x), (.int (1 : Int32))] h [] (fun v h' => v = some (.int c1) ∧ h' = h) := by
  have hw := X.hw
  obtain ⟨z1, hz1, hz2⟩ := X.2.2.1
  refine Ctr.intro (a0 := a0) (plainFor_of_name pn1) hO X.ew ?_
  intro p e s m below meth c T0 V0 S0 hby hml hret hnm hsf
  rw [ef1]
  obtain ⟨u, ku, cd, N2, vs, f1, f2, f3, f4, f5, f6, f7⟩ := F
  rcases f5 with ⟨-, -, -, f5⟩ | ⟨rfl, rfl, rfl, -⟩
  · obtain ⟨cc, hcc, hb_⟩ := own_ex3 hwd; exact absurd hb_ (f5 cc hcc)
  have Vu : Arv Z h u ku .byte (6 : Int32) [(.int (StrChars.lo8 c0)), (.int (StrChars.hi8 c0)), (.int (StrChars.lo8 c1)), (.int (StrChars.hi8 c1)), (.int (StrChars.lo8 c2)), (.int (StrChars.hi8 c2))] (.int (0 : Int32)) := f4
  show Go p e below _ (T0.setTop (mkF m 0 #[.val (.ref x), .val (.int (1 : Int32))] []))
  refine s_aloadN S0 (hb hby dCA31_0) rfl rfl (pc' := 1) rfl ?_
  show Go p e below _ (T0.setTop (mkF m 1 #[.val (.ref x), .val (.int (1 : Int32))] [(.ref x)]))
  refine g_virtual S0 (rmIS X S0.old f3) (fun _ q => nomatch q) (w60 hw) (w61 hw) (w63 hw) (w62 hw) (w7 hw) (w64 hw) (by decide) (fun _ h => notFace_of_selects h) (hb hby dCA31_1) (by rw [hml]; rfl) x f1 [] (lenOf pd12 rfl) rfl rfl (Nat.le_of_ble_eq_true rfl) (Nat.le_of_ble_eq_true rfl) (Nat.le_of_ble_eq_true rfl) (Nat.le_of_ble_eq_true rfl) ?_
  intro v280 T280 V280 h280 S280 C280 q280
  obtain ⟨rfl, rfl⟩ := q280
  show Go p e below _ (T280.setTop (mkF m 4 #[.val (.ref x), .val (.int (1 : Int32))] [(.int (0 : Int32))]))
  refine s_ifY S280 (hb hby dCA31_4) (by decide) (by decide) (pcT := 16) (by decide) ?_
  refine s_aloadN S280 (hb hby dCA31_16) rfl rfl (pc' := 17) rfl ?_
  refine g_getF S280 (w25 hw) Via.refl f2 (hb hby dCA31_17) ?_
  intro T281 ST281
  show Go p e below _ (T281.setTop (mkF m 20 #[.val (.ref x), .val (.int (1 : Int32))] [(.ref u)]))
  refine s_iloadN ST281 (hb hby dCA31_20) rfl (pc' := 21) rfl ?_
  show Go p e below _ (T281.setTop (mkF m 21 #[.val (.ref x), .val (.int (1 : Int32))] [(.int (1 : Int32)), (.ref u)]))
  refine g_static ST281 (rmUC31 X ST281.old Vu (f6 c1 (by simp))) (fun _ q => nomatch q) (w103 hw) (w104 hw) (w44 hw) (w105 hw) (by decide) (hb hby dCA31_21) (by rw [hml]; rfl) [(.ref u), (.int (1 : Int32))] (lenOf pd5 rfl) rfl rfl (Nat.le_of_ble_eq_true rfl) (Nat.le_of_ble_eq_true rfl) (Nat.le_of_ble_eq_true rfl) (Nat.le_of_ble_eq_true rfl) ?_
  intro v282 T282 V282 h282 S282 C282 q282
  obtain ⟨rfl, rfl⟩ := q282
  show Go p e below _ (T282.setTop (mkF m 24 #[.val (.ref x), .val (.int (1 : Int32))] [(.int c1)]))
  exact g_iretN S282 (hb hby dCA31_24) hret (by simp) ⟨by rw [narC (f6 c1 (by simp))], rfl⟩
theorem dPK32r_0 : decode jdk_41_method_11_code 0 = .ok (.iload_n 0, 1) := by decide +kernel
theorem dPK32r_1 : decode jdk_41_method_11_code 1 = .ok (.ifCond .lt 8, 3) := by decide +kernel
theorem dPK32r_4 : decode jdk_41_method_11_code 4 = .ok (.iload_n 0, 1) := by decide +kernel
theorem dPK32r_5 : decode jdk_41_method_11_code 5 = .ok (.iload_n 1, 1) := by decide +kernel
theorem dPK32r_6 : decode jdk_41_method_11_code 6 = .ok (.if_icmp .lt 10, 3) := by decide +kernel
theorem dPK32r_16 : decode jdk_41_method_11_code 16 = .ok (.iload_n 0, 1) := by decide +kernel
theorem dPK32r_17 : decode jdk_41_method_11_code 17 = .ok (.ireturn, 1) := by decide +kernel
set_option maxRecDepth 65536 in
set_option maxHeartbeats 40000000 in
theorem rmPK32r {l : Launch} {Z : State} {a0 : Array Value} {n0 : Nat} (X : Ctx Z a0) (fb : Addr) {h : Heap} (hO : Old Z n0 h)  :
    Ctr l Z EL1 n0 (⟨"jdk/internal/util/Preconditions", "checkIndex", "(IILjava/util/function/BiFunction;)I"⟩ : MethodName) jdk_41_method_11_code 3 (some .int) ({ frames := 0, cells := 0, slots := 0, locals := 0 } : Room) #[(.int (2 : Int32)), (.int (3 : Int32)), (.ref fb)] h [] (fun v h' => v = some (.int (2 : Int32)) ∧ h' = h) := by
  have hw := X.hw
  obtain ⟨z1, hz1, hz2⟩ := X.2.2.1
  refine Ctr.intro (a0 := a0) (plainFor_of_name pn2) hO X.ew ?_
  intro p e s m below meth c T0 V0 S0 hby hml hret hnm hsf
  rw [ef9]
  refine s_iloadN S0 (hb hby dPK32r_0) rfl (pc' := 1) rfl ?_
  refine s_ifN S0 (hb hby dPK32r_1) (by decide) (pc' := 4) rfl ?_
  refine s_iloadN S0 (hb hby dPK32r_4) rfl (pc' := 5) rfl ?_
  refine s_iloadN S0 (hb hby dPK32r_5) rfl (pc' := 6) rfl ?_
  refine s_icmpY S0 (hb hby dPK32r_6) (by decide) (by decide) (pcT := 16) (by decide) ?_
  refine s_iloadN S0 (hb hby dPK32r_16) rfl (pc' := 17) rfl ?_
  exact g_iret S0 (hb hby dPK32r_17) hret ⟨rfl, rfl⟩
theorem dPK32n_0 : decode jdk_41_method_11_code 0 = .ok (.iload_n 0, 1) := by decide +kernel
theorem dPK32n_1 : decode jdk_41_method_11_code 1 = .ok (.ifCond .lt 8, 3) := by decide +kernel
theorem dPK32n_4 : decode jdk_41_method_11_code 4 = .ok (.iload_n 0, 1) := by decide +kernel
theorem dPK32n_5 : decode jdk_41_method_11_code 5 = .ok (.iload_n 1, 1) := by decide +kernel
theorem dPK32n_6 : decode jdk_41_method_11_code 6 = .ok (.if_icmp .lt 10, 3) := by decide +kernel
theorem dPK32n_16 : decode jdk_41_method_11_code 16 = .ok (.iload_n 0, 1) := by decide +kernel
theorem dPK32n_17 : decode jdk_41_method_11_code 17 = .ok (.ireturn, 1) := by decide +kernel
set_option maxRecDepth 65536 in
set_option maxHeartbeats 40000000 in
theorem rmPK32n {l : Launch} {Z : State} {a0 : Array Value} {n0 : Nat} (X : Ctx Z a0)  {h : Heap} (hO : Old Z n0 h)  :
    Ctr l Z EL1 n0 (⟨"jdk/internal/util/Preconditions", "checkIndex", "(IILjava/util/function/BiFunction;)I"⟩ : MethodName) jdk_41_method_11_code 3 (some .int) ({ frames := 0, cells := 0, slots := 0, locals := 0 } : Room) #[(.int (2 : Int32)), (.int (3 : Int32)), .null] h [] (fun v h' => v = some (.int (2 : Int32)) ∧ h' = h) := by
  have hw := X.hw
  obtain ⟨z1, hz1, hz2⟩ := X.2.2.1
  refine Ctr.intro (a0 := a0) (plainFor_of_name pn2) hO X.ew ?_
  intro p e s m below meth c T0 V0 S0 hby hml hret hnm hsf
  rw [ef10]
  refine s_iloadN S0 (hb hby dPK32n_0) rfl (pc' := 1) rfl ?_
  refine s_ifN S0 (hb hby dPK32n_1) (by decide) (pc' := 4) rfl ?_
  refine s_iloadN S0 (hb hby dPK32n_4) rfl (pc' := 5) rfl ?_
  refine s_iloadN S0 (hb hby dPK32n_5) rfl (pc' := 6) rfl ?_
  refine s_icmpY S0 (hb hby dPK32n_6) (by decide) (by decide) (pcT := 16) (by decide) ?_
  refine s_iloadN S0 (hb hby dPK32n_16) rfl (pc' := 17) rfl ?_
  exact g_iret S0 (hb hby dPK32n_17) hret ⟨rfl, rfl⟩
theorem dSK32_0 : decode jdk_42_method_155_code 0 = .ok (.iload_n 0, 1) := by decide +kernel
theorem dSK32_1 : decode jdk_42_method_155_code 1 = .ok (.iload_n 1, 1) := by decide +kernel
theorem dSK32_2 : decode jdk_42_method_155_code 2 = .ok (.getstatic 1053, 3) := by decide +kernel
theorem dSK32_5 : decode jdk_42_method_155_code 5 = .ok (.invokestatic 1059, 3) := by decide +kernel
theorem dSK32_8 : decode jdk_42_method_155_code 8 = .ok (.pop, 1) := by decide +kernel
theorem dSK32_9 : decode jdk_42_method_155_code 9 = .ok (.return_, 1) := by decide +kernel
set_option maxRecDepth 65536 in
set_option maxHeartbeats 40000000 in
theorem rmSK32 {l : Launch} {Z : State} {a0 : Array Value} {n0 : Nat} (X : Ctx Z a0)  {h : Heap} (hO : Old Z n0 h)  :
    Ctr l Z EL1 n0 (⟨"java/lang/String", "checkIndex", "(II)V"⟩ : MethodName) jdk_42_method_155_code 2 none ({ frames := 1, cells := 0, slots := 0, locals := 14 } : Room) #[(.int (2 : Int32)), (.int (3 : Int32))] h [] (fun v h' => v = none ∧ h' = h) := by
  have hw := X.hw
  obtain ⟨z1, hz1, hz2⟩ := X.2.2.1
  refine Ctr.intro (a0 := a0) (plainFor_of_name pn1) hO X.ew ?_
  intro p e s m below meth c T0 V0 S0 hby hml hret hnm hsf
  rw [ef11]
  obtain ⟨fm, hfm, rfm⟩ := X.fm
  rcases ref_cases rfm with rfl | ⟨fb, rfl⟩
  · skip
    refine s_iloadN S0 (hb hby dSK32_0) rfl (pc' := 1) rfl ?_
    refine s_iloadN S0 (hb hby dSK32_1) rfl (pc' := 2) rfl ?_
    refine g_getS S0 (w72 hw) Via.refl (hfm.ext S0.old.2) (hb hby dSK32_2) ?_
    intro T283 ST283
    show Go p e below _ (T283.setTop (mkF m 5 #[.val (.int (2 : Int32)), .val (.int (3 : Int32))] [.null, (.int (3 : Int32)), (.int (2 : Int32))]))
    show Go p e below _ (T283.setTop (mkF m 5 #[.val (.int (2 : Int32)), .val (.int (3 : Int32))] [.null, (.int (3 : Int32)), (.int (2 : Int32))]))
    refine g_static ST283 (rmPK32n X ST283.old) (fun _ q => nomatch q) (w74 hw) (w75 hw) (w73 hw) (w76 hw) (by decide) (hb hby dSK32_5) (by rw [hml]; rfl) [(.int (2 : Int32)), (.int (3 : Int32)), .null] (lenOf pd8 rfl) rfl rfl (Nat.le_of_ble_eq_true rfl) (Nat.le_of_ble_eq_true rfl) (Nat.le_of_ble_eq_true rfl) (Nat.le_of_ble_eq_true rfl) ?_
    intro v284 T284 V284 h284 S284 C284 q284
    obtain ⟨rfl, rfl⟩ := q284
    show Go p e below _ (T284.setTop (mkF m 8 #[.val (.int (2 : Int32)), .val (.int (3 : Int32))] [(.int (2 : Int32))]))
    refine s_pop S284 (hb hby dSK32_8) rfl (pc' := 9) rfl ?_
    exact g_ret S284 (hb hby dSK32_9) hret ⟨rfl, rfl⟩
  · skip
    refine s_iloadN S0 (hb hby dSK32_0) rfl (pc' := 1) rfl ?_
    refine s_iloadN S0 (hb hby dSK32_1) rfl (pc' := 2) rfl ?_
    refine g_getS S0 (w72 hw) Via.refl (hfm.ext S0.old.2) (hb hby dSK32_2) ?_
    intro T285 ST285
    show Go p e below _ (T285.setTop (mkF m 5 #[.val (.int (2 : Int32)), .val (.int (3 : Int32))] [(.ref fb), (.int (3 : Int32)), (.int (2 : Int32))]))
    show Go p e below _ (T285.setTop (mkF m 5 #[.val (.int (2 : Int32)), .val (.int (3 : Int32))] [(.ref fb), (.int (3 : Int32)), (.int (2 : Int32))]))
    refine g_static ST285 (rmPK32r X fb ST285.old) (fun _ q => nomatch q) (w74 hw) (w75 hw) (w73 hw) (w76 hw) (by decide) (hb hby dSK32_5) (by rw [hml]; rfl) [(.int (2 : Int32)), (.int (3 : Int32)), (.ref fb)] (lenOf pd8 rfl) rfl rfl (Nat.le_of_ble_eq_true rfl) (Nat.le_of_ble_eq_true rfl) (Nat.le_of_ble_eq_true rfl) (Nat.le_of_ble_eq_true rfl) ?_
    intro v286 T286 V286 h286 S286 C286 q286
    obtain ⟨rfl, rfl⟩ := q286
    show Go p e below _ (T286.setTop (mkF m 8 #[.val (.int (2 : Int32)), .val (.int (3 : Int32))] [(.int (2 : Int32))]))
    refine s_pop S286 (hb hby dSK32_8) rfl (pc' := 9) rfl ?_
    exact g_ret S286 (hb hby dSK32_9) hret ⟨rfl, rfl⟩
theorem dUK32_0 : decode jdk_52_method_91_code 0 = .ok (.iload_n 0, 1) := by decide +kernel
theorem dUK32_1 : decode jdk_52_method_91_code 1 = .ok (.aload_n 1, 1) := by decide +kernel
theorem dUK32_2 : decode jdk_52_method_91_code 2 = .ok (.invokestatic 48, 3) := by decide +kernel
theorem dUK32_5 : decode jdk_52_method_91_code 5 = .ok (.invokestatic 414, 3) := by decide +kernel
theorem dUK32_8 : decode jdk_52_method_91_code 8 = .ok (.return_, 1) := by decide +kernel
set_option maxRecDepth 65536 in
set_option maxHeartbeats 40000000 in
theorem rmUK32 {l : Launch} {Z : State} {a0 : Array Value} {n0 : Nat} (X : Ctx Z a0) {u : Addr} {ku : ClassId} {c0 c1 c2 : Int32} {h : Heap} (hO : Old Z n0 h) (Vu : Arv Z h u ku .byte (6 : Int32) [(.int (StrChars.lo8 c0)), (.int (StrChars.hi8 c0)), (.int (StrChars.lo8 c1)), (.int (StrChars.hi8 c1)), (.int (StrChars.lo8 c2)), (.int (StrChars.hi8 c2))] (.int (0 : Int32))) :
    Ctr l Z EL1 n0 (⟨"java/lang/StringUTF16", "checkIndex", "(I[B)V"⟩ : MethodName) jdk_52_method_91_code 2 none ({ frames := 2, cells := 0, slots := 0, locals := 28 } : Room) #[(.int (2 : Int32)), (.ref u)] h [] (fun v h' => v = none ∧ h' = h) := by
  have hw := X.hw
  obtain ⟨z1, hz1, hz2⟩ := X.2.2.1
  refine Ctr.intro (a0 := a0) (plainFor_of_name pn0) hO X.ew ?_
  intro p e s m below meth c T0 V0 S0 hby hml hret hnm hsf
  rw [ef12]
  refine s_iloadN S0 (hb hby dUK32_0) rfl (pc' := 1) rfl ?_
  refine s_aloadN S0 (hb hby dUK32_1) rfl rfl (pc' := 2) rfl ?_
  show Go p e below _ (T0.setTop (mkF m 2 #[.val (.int (2 : Int32)), .val (.ref u)] [(.ref u), (.int (2 : Int32))]))
  refine g_static S0 (rmUL3 X S0.old Vu) (fun _ q => nomatch q) (w109 hw) (w110 hw) (w44 hw) (w111 hw) (by decide) (hb hby dUK32_2) (by rw [hml]; rfl) [(.ref u)] (lenOf pd9 rfl) rfl rfl (Nat.le_of_ble_eq_true rfl) (Nat.le_of_ble_eq_true rfl) (Nat.le_of_ble_eq_true rfl) (Nat.le_of_ble_eq_true rfl) ?_
  intro v287 T287 V287 h287 S287 C287 q287
  obtain ⟨rfl, rfl⟩ := q287
  show Go p e below _ (T287.setTop (mkF m 5 #[.val (.int (2 : Int32)), .val (.ref u)] [(.int (3 : Int32)), (.int (2 : Int32))]))
  show Go p e below _ (T287.setTop (mkF m 5 #[.val (.int (2 : Int32)), .val (.ref u)] [(.int (3 : Int32)), (.int (2 : Int32))]))
  refine g_static S287 (rmSK32 X S287.old) (fun _ q => nomatch q) (w112 hw) (w70 hw) (w7 hw) (w71 hw) (by decide) (hb hby dUK32_5) (by rw [hml]; rfl) [(.int (2 : Int32)), (.int (3 : Int32))] (lenOf pd10 rfl) rfl rfl (Nat.le_of_ble_eq_true rfl) (Nat.le_of_ble_eq_true rfl) (Nat.le_of_ble_eq_true rfl) (Nat.le_of_ble_eq_true rfl) ?_
  intro v288 T288 V288 h288 S288 C288 q288
  obtain ⟨rfl, rfl⟩ := q288
  show Go p e below _ (T288.setTop (mkF m 8 #[.val (.int (2 : Int32)), .val (.ref u)] []))
  exact g_ret S288 (hb hby dUK32_8) hret ⟨rfl, rfl⟩
theorem dUC32_0 : decode jdk_52_method_83_code 0 = .ok (.iload_n 1, 1) := by decide +kernel
theorem dUC32_1 : decode jdk_52_method_83_code 1 = .ok (.aload_n 0, 1) := by decide +kernel
theorem dUC32_2 : decode jdk_52_method_83_code 2 = .ok (.invokestatic 67, 3) := by decide +kernel
theorem dUC32_5 : decode jdk_52_method_83_code 5 = .ok (.aload_n 0, 1) := by decide +kernel
theorem dUC32_6 : decode jdk_52_method_83_code 6 = .ok (.iload_n 1, 1) := by decide +kernel
theorem dUC32_7 : decode jdk_52_method_83_code 7 = .ok (.invokestatic 71, 3) := by decide +kernel
theorem dUC32_10 : decode jdk_52_method_83_code 10 = .ok (.ireturn, 1) := by decide +kernel
set_option maxRecDepth 65536 in
set_option maxHeartbeats 40000000 in
theorem rmUC32 {l : Launch} {Z : State} {a0 : Array Value} {n0 : Nat} (X : Ctx Z a0) {u : Addr} {ku : ClassId} {c0 c1 c2 : Int32} {h : Heap} (hO : Old Z n0 h) (Vu : Arv Z h u ku .byte (6 : Int32) [(.int (StrChars.lo8 c0)), (.int (StrChars.hi8 c0)), (.int (StrChars.lo8 c1)), (.int (StrChars.hi8 c1)), (.int (StrChars.lo8 c2)), (.int (StrChars.hi8 c2))] (.int (0 : Int32))) (r : ¬ c2 < 0 ∧ ¬ (65535 : Int32) < c2) :
    Ctr l Z EL1 n0 (⟨"java/lang/StringUTF16", "charAt", "([BI)C"⟩ : MethodName) jdk_52_method_83_code 2 (some .char) ({ frames := 3, cells := 0, slots := 0, locals := 41 } : Room) #[(.ref u), (.int (2 : Int32))] h [] (fun v h' => v = some (.int c2) ∧ h' = h) := by
  have hw := X.hw
  obtain ⟨z1, hz1, hz2⟩ := X.2.2.1
  refine Ctr.intro (a0 := a0) (plainFor_of_name pn0) hO X.ew ?_
  intro p e s m below meth c T0 V0 S0 hby hml hret hnm hsf
  rw [ef1]
  refine s_iloadN S0 (hb hby dUC32_0) rfl (pc' := 1) rfl ?_
  refine s_aloadN S0 (hb hby dUC32_1) rfl rfl (pc' := 2) rfl ?_
  show Go p e below _ (T0.setTop (mkF m 2 #[.val (.ref u), .val (.int (2 : Int32))] [(.ref u), (.int (2 : Int32))]))
  refine g_static S0 (rmUK32 X S0.old Vu) (fun _ q => nomatch q) (w106 hw) (w107 hw) (w44 hw) (w108 hw) (by decide) (hb hby dUC32_2) (by rw [hml]; rfl) [(.int (2 : Int32)), (.ref u)] (lenOf pd11 rfl) rfl rfl (Nat.le_of_ble_eq_true rfl) (Nat.le_of_ble_eq_true rfl) (Nat.le_of_ble_eq_true rfl) (Nat.le_of_ble_eq_true rfl) ?_
  intro v289 T289 V289 h289 S289 C289 q289
  obtain ⟨rfl, rfl⟩ := q289
  show Go p e below _ (T289.setTop (mkF m 5 #[.val (.ref u), .val (.int (2 : Int32))] []))
  refine s_aloadN S289 (hb hby dUC32_5) rfl rfl (pc' := 6) rfl ?_
  refine s_iloadN S289 (hb hby dUC32_6) rfl (pc' := 7) rfl ?_
  show Go p e below _ (T289.setTop (mkF m 7 #[.val (.ref u), .val (.int (2 : Int32))] [(.int (2 : Int32)), (.ref u)]))
  refine g_static S289 (rmGC32 X S289.old Vu r) (fun _ q => nomatch q) (w100 hw) (w101 hw) (w44 hw) (w102 hw) (by decide) (hb hby dUC32_7) (by rw [hml]; rfl) [(.ref u), (.int (2 : Int32))] (lenOf pd5 rfl) rfl rfl (Nat.le_of_ble_eq_true rfl) (Nat.le_of_ble_eq_true rfl) (Nat.le_of_ble_eq_true rfl) (Nat.le_of_ble_eq_true rfl) ?_
  intro v290 T290 V290 h290 S290 C290 q290
  obtain ⟨rfl, rfl⟩ := q290
  show Go p e below _ (T290.setTop (mkF m 10 #[.val (.ref u), .val (.int (2 : Int32))] [(.int c2)]))
  exact g_iretN S290 (hb hby dUC32_10) hret (by simp) ⟨by rw [narC r], rfl⟩
theorem dCA32_0 : decode jdk_42_method_56_code 0 = .ok (.aload_n 0, 1) := by decide +kernel
theorem dCA32_1 : decode jdk_42_method_56_code 1 = .ok (.invokevirtual 492, 3) := by decide +kernel
theorem dCA32_4 : decode jdk_42_method_56_code 4 = .ok (.ifCond .eq 12, 3) := by decide +kernel
theorem dCA32_16 : decode jdk_42_method_56_code 16 = .ok (.aload_n 0, 1) := by decide +kernel
theorem dCA32_17 : decode jdk_42_method_56_code 17 = .ok (.getfield 9, 3) := by decide +kernel
theorem dCA32_20 : decode jdk_42_method_56_code 20 = .ok (.iload_n 1, 1) := by decide +kernel
theorem dCA32_21 : decode jdk_42_method_56_code 21 = .ok (.invokestatic 498, 3) := by decide +kernel
theorem dCA32_24 : decode jdk_42_method_56_code 24 = .ok (.ireturn, 1) := by decide +kernel
set_option maxRecDepth 65536 in
set_option maxHeartbeats 40000000 in
theorem rmCA32 {l : Launch} {Z : State} {a0 : Array Value} {n0 : Nat} (X : Ctx Z a0) {x : Addr} {c0 c1 c2 : Int32} {h : Heap} (hO : Old Z n0 h) (F : StrF Z h x [c0, c1, c2]) (hwd : (255 : Int32) < c0 ∨ (255 : Int32) < c1 ∨ (255 : Int32) < c2) :
    Ctr l Z EL1 n0 (⟨"java/lang/String", "charAt", "(I)C"⟩ : MethodName) jdk_42_method_56_code 2 (some .char) ({ frames := 4, cells := 0, slots := 0, locals := 54 } : Room) #[(.ref x), (.int (2 : Int32))] h [] (fun v h' => v = some (.int c2) ∧ h' = h) := by
  have hw := X.hw
  obtain ⟨z1, hz1, hz2⟩ := X.2.2.1
  refine Ctr.intro (a0 := a0) (plainFor_of_name pn1) hO X.ew ?_
  intro p e s m below meth c T0 V0 S0 hby hml hret hnm hsf
  rw [ef1]
  obtain ⟨u, ku, cd, N2, vs, f1, f2, f3, f4, f5, f6, f7⟩ := F
  rcases f5 with ⟨-, -, -, f5⟩ | ⟨rfl, rfl, rfl, -⟩
  · obtain ⟨cc, hcc, hb_⟩ := own_ex3 hwd; exact absurd hb_ (f5 cc hcc)
  have Vu : Arv Z h u ku .byte (6 : Int32) [(.int (StrChars.lo8 c0)), (.int (StrChars.hi8 c0)), (.int (StrChars.lo8 c1)), (.int (StrChars.hi8 c1)), (.int (StrChars.lo8 c2)), (.int (StrChars.hi8 c2))] (.int (0 : Int32)) := f4
  show Go p e below _ (T0.setTop (mkF m 0 #[.val (.ref x), .val (.int (2 : Int32))] []))
  refine s_aloadN S0 (hb hby dCA32_0) rfl rfl (pc' := 1) rfl ?_
  show Go p e below _ (T0.setTop (mkF m 1 #[.val (.ref x), .val (.int (2 : Int32))] [(.ref x)]))
  refine g_virtual S0 (rmIS X S0.old f3) (fun _ q => nomatch q) (w60 hw) (w61 hw) (w63 hw) (w62 hw) (w7 hw) (w64 hw) (by decide) (fun _ h => notFace_of_selects h) (hb hby dCA32_1) (by rw [hml]; rfl) x f1 [] (lenOf pd12 rfl) rfl rfl (Nat.le_of_ble_eq_true rfl) (Nat.le_of_ble_eq_true rfl) (Nat.le_of_ble_eq_true rfl) (Nat.le_of_ble_eq_true rfl) ?_
  intro v291 T291 V291 h291 S291 C291 q291
  obtain ⟨rfl, rfl⟩ := q291
  show Go p e below _ (T291.setTop (mkF m 4 #[.val (.ref x), .val (.int (2 : Int32))] [(.int (0 : Int32))]))
  refine s_ifY S291 (hb hby dCA32_4) (by decide) (by decide) (pcT := 16) (by decide) ?_
  refine s_aloadN S291 (hb hby dCA32_16) rfl rfl (pc' := 17) rfl ?_
  refine g_getF S291 (w25 hw) Via.refl f2 (hb hby dCA32_17) ?_
  intro T292 ST292
  show Go p e below _ (T292.setTop (mkF m 20 #[.val (.ref x), .val (.int (2 : Int32))] [(.ref u)]))
  refine s_iloadN ST292 (hb hby dCA32_20) rfl (pc' := 21) rfl ?_
  show Go p e below _ (T292.setTop (mkF m 21 #[.val (.ref x), .val (.int (2 : Int32))] [(.int (2 : Int32)), (.ref u)]))
  refine g_static ST292 (rmUC32 X ST292.old Vu (f6 c2 (by simp))) (fun _ q => nomatch q) (w103 hw) (w104 hw) (w44 hw) (w105 hw) (by decide) (hb hby dCA32_21) (by rw [hml]; rfl) [(.ref u), (.int (2 : Int32))] (lenOf pd5 rfl) rfl rfl (Nat.le_of_ble_eq_true rfl) (Nat.le_of_ble_eq_true rfl) (Nat.le_of_ble_eq_true rfl) (Nat.le_of_ble_eq_true rfl) ?_
  intro v293 T293 V293 h293 S293 C293 q293
  obtain ⟨rfl, rfl⟩ := q293
  show Go p e below _ (T293.setTop (mkF m 24 #[.val (.ref x), .val (.int (2 : Int32))] [(.int c2)]))
  exact g_iretN S293 (hb hby dCA32_24) hret (by simp) ⟨by rw [narC (f6 c2 (by simp))], rfl⟩
theorem dBD0_0 : decode method_3_code 0 = .ok (.iload_n 0, 1) := by decide +kernel
theorem dBD0_1 : decode method_3_code 1 = .ok (.ifCond .ne 14, 3) := by decide +kernel
theorem dBD0_4 : decode method_3_code 4 = .ok (.new 7, 3) := by decide +kernel
theorem dBD0_7 : decode method_3_code 7 = .ok (.dup, 1) := by decide +kernel
theorem dBD0_8 : decode method_3_code 8 = .ok (.iconst 0, 1) := by decide +kernel
theorem dBD0_9 : decode method_3_code 9 = .ok (.newarray .char, 2) := by decide +kernel
theorem dBD0_11 : decode method_3_code 11 = .ok (.invokespecial 9, 3) := by decide +kernel
theorem dBD0_14 : decode method_3_code 14 = .ok (.areturn, 1) := by decide +kernel
set_option maxRecDepth 65536 in
set_option maxHeartbeats 40000000 in
theorem rmBD0 {l : Launch} {Z : State} {a0 : Array Value} {n0 : Nat} (X : Ctx Z a0) {c0 c1 c2 : Int32} {h : Heap} (hO : Old Z n0 h) (rc0 : ¬ c0 < 0 ∧ ¬ (65535 : Int32) < c0) (rc1 : ¬ c1 < 0 ∧ ¬ (65535 : Int32) < c1) (rc2 : ¬ c2 < 0 ∧ ¬ (65535 : Int32) < c2) :
    Ctr l Z EL1 n0 (⟨"com/example/remora/remora/RequestPathHoldsControlCharacterPinLaw", "build", "(ICCC)Ljava/lang/String;"⟩ : MethodName) method_3_code 4 (some (.object "java/lang/String")) ({ frames := 6, cells := 6, slots := 16, locals := 96 } : Room) #[(.int (0 : Int32)), (.int c0), (.int c1), (.int c2)] h [] (fun v h' => ∃ a, v = some (.ref a) ∧ StrF Z h' a [] ∧ Ext h h') := by
  have hw := X.hw
  obtain ⟨z1, hz1, hz2⟩ := X.2.2.1
  refine Ctr.intro (a0 := a0) (plainFor_of_name pn3) hO X.ew ?_
  intro p e s m below meth c T0 V0 S0 hby hml hret hnm hsf
  rw [ef13]
  refine s_iloadN S0 (hb hby dBD0_0) rfl (pc' := 1) rfl ?_
  refine s_ifN S0 (hb hby dBD0_1) (by decide) (pc' := 4) rfl ?_
  refine g_new S0 (w5 hw) (w6 hw) (w7 hw) (hb hby dBD0_4) (Nat.le_of_ble_eq_true rfl) (Nat.le_of_ble_eq_true rfl) ?_
  intro T300 h300 b300 S300 E300 fr300 lt300 na300 sf300 A300 D300
  have F301 : Fld Z h300 b300 "java/lang/String" "value" "[B" .null := D300 (Or.inr (w21 hw)) (ty := (.array .byte)) (by decide)
  have F302 : Fld Z h300 b300 "java/lang/String" "coder" "B" (.int (0 : Int32)) := D300 (Or.inr (w22 hw)) (ty := .byte) (by decide)
  show Go p e below _ (T300.setTop (mkF m 7 #[.val (.int (0 : Int32)), .val (.int c0), .val (.int c1), .val (.int c2)] [(.ref b300)]))
  refine s_dup S300 (hb hby dBD0_7) rfl (pc' := 8) rfl ?_
  refine s_iconst S300 (hb hby dBD0_8) (v := (0 : Int32)) rfl (pc' := 9) rfl ?_
  refine g_newarr (aty := .char) S300 (w8 hw) (hb hby dBD0_9) (by decide) (cap := 0) (by decide) (by decide) (Nat.le_of_ble_eq_true rfl) (Nat.le_of_ble_eq_true rfl) ?_
  intro T303 h303 b303 kc303 S303 E303 fr303 lt303 na303 sf303 A303
  have sf304 := Safe.ext E303 S300.chv sf300
  have V303 : Arv Z h303 b303 kc303 .char (0 : Int32) [] (.int (0 : Int32)) := A303 0
  show Go p e below _ (T303.setTop (mkF m 11 #[.val (.int (0 : Int32)), .val (.int c0), .val (.int c1), .val (.int c2)] [(.ref b303), (.ref b300), (.ref b300)]))
  show Go p e below _ (T303.setTop (mkF m 11 #[.val (.int (0 : Int32)), .val (.int c0), .val (.int c1), .val (.int c2)] [(.ref b303), (.ref b300), (.ref b300)]))
  have A306 := A300.ext E303
  have F307 := F301.ext E303
  have F308 := F302.ext E303
  refine g_special S303 (rmN1 X na300 S303.old A306 F307 F308 V303) (sf1 (A306).lt sf304) rfl (w9 hw) (w10 hw) (w7 hw) (w11 hw) (by decide) (hb hby dBD0_11) (by rw [hml]; rfl) b300 [.ref b303] (lenOf pd13 rfl) rfl rfl (Nat.le_of_ble_eq_true rfl) (Nat.le_of_ble_eq_true rfl) (Nat.le_of_ble_eq_true rfl) (Nat.le_of_ble_eq_true rfl) ?_
  intro v305 T305 V305 h305 S305 C305 q305
  obtain ⟨rfl, K305, F305⟩ := q305
  show Go p e below _ (T305.setTop (mkF m 14 #[.val (.int (0 : Int32)), .val (.int c0), .val (.int c1), .val (.int c2)] [(.ref b300)]))
  show Go p e below _ (T305.setTop (mkF m 14 #[.val (.int (0 : Int32)), .val (.int c0), .val (.int c1), .val (.int c2)] [(.ref b300)]))
  have X309 : Ext h h303 := ext_trans E300 E303
  have X310 : Ext h h305 := ext_keep1 X309 K305 fr300
  exact g_aret S305 (hb hby dBD0_14) hret rfl rfl rfl ⟨_, rfl, F305, X310⟩
theorem dBD1_0 : decode method_3_code 0 = .ok (.iload_n 0, 1) := by decide +kernel
theorem dBD1_1 : decode method_3_code 1 = .ok (.ifCond .ne 14, 3) := by decide +kernel
theorem dBD1_15 : decode method_3_code 15 = .ok (.iload_n 0, 1) := by decide +kernel
theorem dBD1_16 : decode method_3_code 16 = .ok (.iconst 1, 1) := by decide +kernel
theorem dBD1_17 : decode method_3_code 17 = .ok (.if_icmp .ne 18, 3) := by decide +kernel
theorem dBD1_20 : decode method_3_code 20 = .ok (.new 7, 3) := by decide +kernel
theorem dBD1_23 : decode method_3_code 23 = .ok (.dup, 1) := by decide +kernel
theorem dBD1_24 : decode method_3_code 24 = .ok (.iconst 1, 1) := by decide +kernel
theorem dBD1_25 : decode method_3_code 25 = .ok (.newarray .char, 2) := by decide +kernel
theorem dBD1_27 : decode method_3_code 27 = .ok (.dup, 1) := by decide +kernel
theorem dBD1_28 : decode method_3_code 28 = .ok (.iconst 0, 1) := by decide +kernel
theorem dBD1_29 : decode method_3_code 29 = .ok (.iload_n 1, 1) := by decide +kernel
theorem dBD1_30 : decode method_3_code 30 = .ok (.castore, 1) := by decide +kernel
theorem dBD1_31 : decode method_3_code 31 = .ok (.invokespecial 9, 3) := by decide +kernel
theorem dBD1_34 : decode method_3_code 34 = .ok (.areturn, 1) := by decide +kernel
set_option maxRecDepth 65536 in
set_option maxHeartbeats 40000000 in
theorem rmBD1 {l : Launch} {Z : State} {a0 : Array Value} {n0 : Nat} (X : Ctx Z a0) {c0 c1 c2 : Int32} {h : Heap} (hO : Old Z n0 h) (rc0 : ¬ c0 < 0 ∧ ¬ (65535 : Int32) < c0) (rc1 : ¬ c1 < 0 ∧ ¬ (65535 : Int32) < c1) (rc2 : ¬ c2 < 0 ∧ ¬ (65535 : Int32) < c2) :
    Ctr l Z EL1 n0 (⟨"com/example/remora/remora/RequestPathHoldsControlCharacterPinLaw", "build", "(ICCC)Ljava/lang/String;"⟩ : MethodName) method_3_code 4 (some (.object "java/lang/String")) ({ frames := 6, cells := 6, slots := 16, locals := 96 } : Room) #[(.int (1 : Int32)), (.int c0), (.int c1), (.int c2)] h [] (fun v h' => ∃ a, v = some (.ref a) ∧ StrF Z h' a [c0] ∧ Ext h h') := by
  have hw := X.hw
  obtain ⟨z1, hz1, hz2⟩ := X.2.2.1
  refine Ctr.intro (a0 := a0) (plainFor_of_name pn3) hO X.ew ?_
  intro p e s m below meth c T0 V0 S0 hby hml hret hnm hsf
  rw [ef13]
  refine s_iloadN S0 (hb hby dBD1_0) rfl (pc' := 1) rfl ?_
  refine s_ifY S0 (hb hby dBD1_1) (by decide) (by decide) (pcT := 15) (by decide) ?_
  refine s_iloadN S0 (hb hby dBD1_15) rfl (pc' := 16) rfl ?_
  refine s_iconst S0 (hb hby dBD1_16) (v := (1 : Int32)) rfl (pc' := 17) rfl ?_
  refine s_icmpN S0 (hb hby dBD1_17) (by decide) (pc' := 20) rfl ?_
  refine g_new S0 (w5 hw) (w6 hw) (w7 hw) (hb hby dBD1_20) (Nat.le_of_ble_eq_true rfl) (Nat.le_of_ble_eq_true rfl) ?_
  intro T311 h311 b311 S311 E311 fr311 lt311 na311 sf311 A311 D311
  have F312 : Fld Z h311 b311 "java/lang/String" "value" "[B" .null := D311 (Or.inr (w21 hw)) (ty := (.array .byte)) (by decide)
  have F313 : Fld Z h311 b311 "java/lang/String" "coder" "B" (.int (0 : Int32)) := D311 (Or.inr (w22 hw)) (ty := .byte) (by decide)
  show Go p e below _ (T311.setTop (mkF m 23 #[.val (.int (1 : Int32)), .val (.int c0), .val (.int c1), .val (.int c2)] [(.ref b311)]))
  refine s_dup S311 (hb hby dBD1_23) rfl (pc' := 24) rfl ?_
  refine s_iconst S311 (hb hby dBD1_24) (v := (1 : Int32)) rfl (pc' := 25) rfl ?_
  refine g_newarr (aty := .char) S311 (w8 hw) (hb hby dBD1_25) (by decide) (cap := 1) (by decide) (by decide) (Nat.le_of_ble_eq_true rfl) (Nat.le_of_ble_eq_true rfl) ?_
  intro T314 h314 b314 kc314 S314 E314 fr314 lt314 na314 sf314 A314
  have sf315 := Safe.ext E314 S311.chv sf311
  have V314 : Arv Z h314 b314 kc314 .char (1 : Int32) [(.int (0 : Int32))] (.int (0 : Int32)) := A314 1
  show Go p e below _ (T314.setTop (mkF m 27 #[.val (.int (1 : Int32)), .val (.int c0), .val (.int c1), .val (.int c2)] [(.ref b314), (.ref b311), (.ref b311)]))
  refine s_dup S314 (hb hby dBD1_27) rfl (pc' := 28) rfl ?_
  refine s_iconst S314 (hb hby dBD1_28) (v := (0 : Int32)) rfl (pc' := 29) rfl ?_
  refine s_iloadN S314 (hb hby dBD1_29) rfl (pc' := 30) rfl ?_
  refine g_castore S314 V314 ⟨by decide, by decide⟩ 0 rfl (Nat.le_of_ble_eq_true rfl) na314 (hb hby dBD1_30) ?_
  intro T316 h316 S316 K316 V316
  have sf317 := Safe.keep K316 (sfS (Safe.arv S314.warm.alike V314 (by decide)) sf0) S314.chv sf315
  rw [narC rc0] at V316
  have V316 : Arv Z h316 b314 kc314 .char (1 : Int32) [(.int c0)] (.int (0 : Int32)) := V316
  show Go p e below _ (T316.setTop (mkF m 31 #[.val (.int (1 : Int32)), .val (.int c0), .val (.int c1), .val (.int c2)] [(.ref b314), (.ref b311), (.ref b311)]))
  rcases Classical.em ((255 : Int32) < c0) with hwd | hnw
  · skip
    show Go p e below _ (T316.setTop (mkF m 31 #[.val (.int (1 : Int32)), .val (.int c0), .val (.int c1), .val (.int c2)] [(.ref b314), (.ref b311), (.ref b311)]))
    have X318 : Ext h311 h316 := ext_keep1 E314 K316 fr314
    have A319 := A311.ext X318
    have F320 := F312.ext X318
    have F321 := F313.ext X318
    refine g_special S316 (rmW11 X na311 S316.old A319 F320 F321 V316 rc0 hwd) (sf1 (A319).lt sf317) rfl (w9 hw) (w10 hw) (w7 hw) (w11 hw) (by decide) (hb hby dBD1_31) (by rw [hml]; rfl) b311 [.ref b314] (lenOf pd13 rfl) rfl rfl (Nat.le_of_ble_eq_true rfl) (Nat.le_of_ble_eq_true rfl) (Nat.le_of_ble_eq_true rfl) (Nat.le_of_ble_eq_true rfl) ?_
    intro v322 T322 V322 h322 S322 C322 q322
    obtain ⟨rfl, K322, F322⟩ := q322
    show Go p e below _ (T322.setTop (mkF m 34 #[.val (.int (1 : Int32)), .val (.int c0), .val (.int c1), .val (.int c2)] [(.ref b311)]))
    show Go p e below _ (T322.setTop (mkF m 34 #[.val (.int (1 : Int32)), .val (.int c0), .val (.int c1), .val (.int c2)] [(.ref b311)]))
    have X323 : Ext h h314 := ext_trans E311 E314
    have X324 : Ext h h316 := ext_keep1 X323 K316 (Nat.le_trans E311.1 fr314)
    have X325 : Ext h h322 := ext_keep1 X324 K322 fr311
    exact g_aret S322 (hb hby dBD1_34) hret rfl rfl rfl ⟨_, rfl, F322, X325⟩
  · skip
    show Go p e below _ (T316.setTop (mkF m 31 #[.val (.int (1 : Int32)), .val (.int c0), .val (.int c1), .val (.int c2)] [(.ref b314), (.ref b311), (.ref b311)]))
    have r8c0 : ¬ c0 < 0 ∧ ¬ (255 : Int32) < c0 := ⟨rc0.1, fun q => hnw (q)⟩
    show Go p e below _ (T316.setTop (mkF m 31 #[.val (.int (1 : Int32)), .val (.int c0), .val (.int c1), .val (.int c2)] [(.ref b314), (.ref b311), (.ref b311)]))
    have X327 : Ext h311 h316 := ext_keep1 E314 K316 fr314
    have A328 := A311.ext X327
    have F329 := F312.ext X327
    have F330 := F313.ext X327
    refine g_newStr S316 X (cs := [c0]) (Nat.le_of_ble_eq_true rfl) (Nat.le_of_ble_eq_true rfl) rfl na311 sf317 A328 F329 F330 V316 (faS r8c0 fa0) (w9 hw) (hb hby dBD1_31) (by rw [hml]; rfl) (Nat.le_of_ble_eq_true rfl) (Nat.le_of_ble_eq_true rfl) (Nat.le_of_ble_eq_true rfl) (Nat.le_of_ble_eq_true rfl) ?_
    intro T326 h326 S326 K326 F326
    show Go p e below _ (T326.setTop (mkF m 34 #[.val (.int (1 : Int32)), .val (.int c0), .val (.int c1), .val (.int c2)] [(.ref b311)]))
    show Go p e below _ (T326.setTop (mkF m 34 #[.val (.int (1 : Int32)), .val (.int c0), .val (.int c1), .val (.int c2)] [(.ref b311)]))
    have X331 : Ext h h314 := ext_trans E311 E314
    have X332 : Ext h h316 := ext_keep1 X331 K316 (Nat.le_trans E311.1 fr314)
    have X333 : Ext h h326 := ext_keep1 X332 K326 fr311
    exact g_aret S326 (hb hby dBD1_34) hret rfl rfl rfl ⟨_, rfl, F326, X333⟩
theorem dBD2_0 : decode method_3_code 0 = .ok (.iload_n 0, 1) := by decide +kernel
theorem dBD2_1 : decode method_3_code 1 = .ok (.ifCond .ne 14, 3) := by decide +kernel
theorem dBD2_15 : decode method_3_code 15 = .ok (.iload_n 0, 1) := by decide +kernel
theorem dBD2_16 : decode method_3_code 16 = .ok (.iconst 1, 1) := by decide +kernel
theorem dBD2_17 : decode method_3_code 17 = .ok (.if_icmp .ne 18, 3) := by decide +kernel
theorem dBD2_35 : decode method_3_code 35 = .ok (.iload_n 0, 1) := by decide +kernel
theorem dBD2_36 : decode method_3_code 36 = .ok (.iconst 2, 1) := by decide +kernel
theorem dBD2_37 : decode method_3_code 37 = .ok (.if_icmp .ne 22, 3) := by decide +kernel
theorem dBD2_40 : decode method_3_code 40 = .ok (.new 7, 3) := by decide +kernel
theorem dBD2_43 : decode method_3_code 43 = .ok (.dup, 1) := by decide +kernel
theorem dBD2_44 : decode method_3_code 44 = .ok (.iconst 2, 1) := by decide +kernel
theorem dBD2_45 : decode method_3_code 45 = .ok (.newarray .char, 2) := by decide +kernel
theorem dBD2_47 : decode method_3_code 47 = .ok (.dup, 1) := by decide +kernel
theorem dBD2_48 : decode method_3_code 48 = .ok (.iconst 0, 1) := by decide +kernel
theorem dBD2_49 : decode method_3_code 49 = .ok (.iload_n 1, 1) := by decide +kernel
theorem dBD2_50 : decode method_3_code 50 = .ok (.castore, 1) := by decide +kernel
theorem dBD2_51 : decode method_3_code 51 = .ok (.dup, 1) := by decide +kernel
theorem dBD2_52 : decode method_3_code 52 = .ok (.iconst 1, 1) := by decide +kernel
theorem dBD2_53 : decode method_3_code 53 = .ok (.iload_n 2, 1) := by decide +kernel
theorem dBD2_54 : decode method_3_code 54 = .ok (.castore, 1) := by decide +kernel
theorem dBD2_55 : decode method_3_code 55 = .ok (.invokespecial 9, 3) := by decide +kernel
theorem dBD2_58 : decode method_3_code 58 = .ok (.areturn, 1) := by decide +kernel
set_option maxRecDepth 65536 in
set_option maxHeartbeats 40000000 in
theorem rmBD2 {l : Launch} {Z : State} {a0 : Array Value} {n0 : Nat} (X : Ctx Z a0) {c0 c1 c2 : Int32} {h : Heap} (hO : Old Z n0 h) (rc0 : ¬ c0 < 0 ∧ ¬ (65535 : Int32) < c0) (rc1 : ¬ c1 < 0 ∧ ¬ (65535 : Int32) < c1) (rc2 : ¬ c2 < 0 ∧ ¬ (65535 : Int32) < c2) :
    Ctr l Z EL1 n0 (⟨"com/example/remora/remora/RequestPathHoldsControlCharacterPinLaw", "build", "(ICCC)Ljava/lang/String;"⟩ : MethodName) method_3_code 4 (some (.object "java/lang/String")) ({ frames := 6, cells := 6, slots := 16, locals := 96 } : Room) #[(.int (2 : Int32)), (.int c0), (.int c1), (.int c2)] h [] (fun v h' => ∃ a, v = some (.ref a) ∧ StrF Z h' a [c0, c1] ∧ Ext h h') := by
  have hw := X.hw
  obtain ⟨z1, hz1, hz2⟩ := X.2.2.1
  refine Ctr.intro (a0 := a0) (plainFor_of_name pn3) hO X.ew ?_
  intro p e s m below meth c T0 V0 S0 hby hml hret hnm hsf
  rw [ef13]
  refine s_iloadN S0 (hb hby dBD2_0) rfl (pc' := 1) rfl ?_
  refine s_ifY S0 (hb hby dBD2_1) (by decide) (by decide) (pcT := 15) (by decide) ?_
  refine s_iloadN S0 (hb hby dBD2_15) rfl (pc' := 16) rfl ?_
  refine s_iconst S0 (hb hby dBD2_16) (v := (1 : Int32)) rfl (pc' := 17) rfl ?_
  refine s_icmpY S0 (hb hby dBD2_17) (by decide) (by decide) (pcT := 35) (by decide) ?_
  refine s_iloadN S0 (hb hby dBD2_35) rfl (pc' := 36) rfl ?_
  refine s_iconst S0 (hb hby dBD2_36) (v := (2 : Int32)) rfl (pc' := 37) rfl ?_
  refine s_icmpN S0 (hb hby dBD2_37) (by decide) (pc' := 40) rfl ?_
  refine g_new S0 (w5 hw) (w6 hw) (w7 hw) (hb hby dBD2_40) (Nat.le_of_ble_eq_true rfl) (Nat.le_of_ble_eq_true rfl) ?_
  intro T334 h334 b334 S334 E334 fr334 lt334 na334 sf334 A334 D334
  have F335 : Fld Z h334 b334 "java/lang/String" "value" "[B" .null := D334 (Or.inr (w21 hw)) (ty := (.array .byte)) (by decide)
  have F336 : Fld Z h334 b334 "java/lang/String" "coder" "B" (.int (0 : Int32)) := D334 (Or.inr (w22 hw)) (ty := .byte) (by decide)
  show Go p e below _ (T334.setTop (mkF m 43 #[.val (.int (2 : Int32)), .val (.int c0), .val (.int c1), .val (.int c2)] [(.ref b334)]))
  refine s_dup S334 (hb hby dBD2_43) rfl (pc' := 44) rfl ?_
  refine s_iconst S334 (hb hby dBD2_44) (v := (2 : Int32)) rfl (pc' := 45) rfl ?_
  refine g_newarr (aty := .char) S334 (w8 hw) (hb hby dBD2_45) (by decide) (cap := 2) (by decide) (by decide) (Nat.le_of_ble_eq_true rfl) (Nat.le_of_ble_eq_true rfl) ?_
  intro T337 h337 b337 kc337 S337 E337 fr337 lt337 na337 sf337 A337
  have sf338 := Safe.ext E337 S334.chv sf334
  have V337 : Arv Z h337 b337 kc337 .char (2 : Int32) [(.int (0 : Int32)), (.int (0 : Int32))] (.int (0 : Int32)) := A337 2
  show Go p e below _ (T337.setTop (mkF m 47 #[.val (.int (2 : Int32)), .val (.int c0), .val (.int c1), .val (.int c2)] [(.ref b337), (.ref b334), (.ref b334)]))
  refine s_dup S337 (hb hby dBD2_47) rfl (pc' := 48) rfl ?_
  refine s_iconst S337 (hb hby dBD2_48) (v := (0 : Int32)) rfl (pc' := 49) rfl ?_
  refine s_iloadN S337 (hb hby dBD2_49) rfl (pc' := 50) rfl ?_
  refine g_castore S337 V337 ⟨by decide, by decide⟩ 0 rfl (Nat.le_of_ble_eq_true rfl) na337 (hb hby dBD2_50) ?_
  intro T339 h339 S339 K339 V339
  have sf340 := Safe.keep K339 (sfS (Safe.arv S337.warm.alike V337 (by decide)) sf0) S337.chv sf338
  rw [narC rc0] at V339
  have V339 : Arv Z h339 b337 kc337 .char (2 : Int32) [(.int c0), (.int (0 : Int32))] (.int (0 : Int32)) := V339
  show Go p e below _ (T339.setTop (mkF m 51 #[.val (.int (2 : Int32)), .val (.int c0), .val (.int c1), .val (.int c2)] [(.ref b337), (.ref b334), (.ref b334)]))
  refine s_dup S339 (hb hby dBD2_51) rfl (pc' := 52) rfl ?_
  refine s_iconst S339 (hb hby dBD2_52) (v := (1 : Int32)) rfl (pc' := 53) rfl ?_
  refine s_iloadN S339 (hb hby dBD2_53) rfl (pc' := 54) rfl ?_
  refine g_castore S339 V339 ⟨by decide, by decide⟩ 1 rfl (Nat.le_of_ble_eq_true rfl) na337 (hb hby dBD2_54) ?_
  intro T341 h341 S341 K341 V341
  have sf342 := Safe.keep K341 (sfS (Safe.arv S339.warm.alike V339 (by decide)) sf0) S339.chv sf340
  rw [narC rc1] at V341
  have V341 : Arv Z h341 b337 kc337 .char (2 : Int32) [(.int c0), (.int c1)] (.int (0 : Int32)) := V341
  show Go p e below _ (T341.setTop (mkF m 55 #[.val (.int (2 : Int32)), .val (.int c0), .val (.int c1), .val (.int c2)] [(.ref b337), (.ref b334), (.ref b334)]))
  rcases Classical.em ((255 : Int32) < c0 ∨ (255 : Int32) < c1) with hwd | hnw
  · skip
    show Go p e below _ (T341.setTop (mkF m 55 #[.val (.int (2 : Int32)), .val (.int c0), .val (.int c1), .val (.int c2)] [(.ref b337), (.ref b334), (.ref b334)]))
    have X343 : Ext h334 h339 := ext_keep1 E337 K339 fr337
    have X344 : Ext h334 h341 := ext_keep1 X343 K341 fr337
    have A345 := A334.ext X344
    have F346 := F335.ext X344
    have F347 := F336.ext X344
    refine g_special S341 (rmW12 X na334 S341.old A345 F346 F347 V341 rc0 rc1 hwd) (sf1 (A345).lt sf342) rfl (w9 hw) (w10 hw) (w7 hw) (w11 hw) (by decide) (hb hby dBD2_55) (by rw [hml]; rfl) b334 [.ref b337] (lenOf pd13 rfl) rfl rfl (Nat.le_of_ble_eq_true rfl) (Nat.le_of_ble_eq_true rfl) (Nat.le_of_ble_eq_true rfl) (Nat.le_of_ble_eq_true rfl) ?_
    intro v348 T348 V348 h348 S348 C348 q348
    obtain ⟨rfl, K348, F348⟩ := q348
    show Go p e below _ (T348.setTop (mkF m 58 #[.val (.int (2 : Int32)), .val (.int c0), .val (.int c1), .val (.int c2)] [(.ref b334)]))
    show Go p e below _ (T348.setTop (mkF m 58 #[.val (.int (2 : Int32)), .val (.int c0), .val (.int c1), .val (.int c2)] [(.ref b334)]))
    have X349 : Ext h h337 := ext_trans E334 E337
    have X350 : Ext h h339 := ext_keep1 X349 K339 (Nat.le_trans E334.1 fr337)
    have X351 : Ext h h341 := ext_keep1 X350 K341 (Nat.le_trans E334.1 fr337)
    have X352 : Ext h h348 := ext_keep1 X351 K348 fr334
    exact g_aret S348 (hb hby dBD2_58) hret rfl rfl rfl ⟨_, rfl, F348, X352⟩
  · skip
    show Go p e below _ (T341.setTop (mkF m 55 #[.val (.int (2 : Int32)), .val (.int c0), .val (.int c1), .val (.int c2)] [(.ref b337), (.ref b334), (.ref b334)]))
    have r8c0 : ¬ c0 < 0 ∧ ¬ (255 : Int32) < c0 := ⟨rc0.1, fun q => hnw (Or.inl q)⟩
    have r8c1 : ¬ c1 < 0 ∧ ¬ (255 : Int32) < c1 := ⟨rc1.1, fun q => hnw (Or.inr (q))⟩
    show Go p e below _ (T341.setTop (mkF m 55 #[.val (.int (2 : Int32)), .val (.int c0), .val (.int c1), .val (.int c2)] [(.ref b337), (.ref b334), (.ref b334)]))
    have X354 : Ext h334 h339 := ext_keep1 E337 K339 fr337
    have X355 : Ext h334 h341 := ext_keep1 X354 K341 fr337
    have A356 := A334.ext X355
    have F357 := F335.ext X355
    have F358 := F336.ext X355
    refine g_newStr S341 X (cs := [c0, c1]) (Nat.le_of_ble_eq_true rfl) (Nat.le_of_ble_eq_true rfl) rfl na334 sf342 A356 F357 F358 V341 (faS r8c0 (faS r8c1 fa0)) (w9 hw) (hb hby dBD2_55) (by rw [hml]; rfl) (Nat.le_of_ble_eq_true rfl) (Nat.le_of_ble_eq_true rfl) (Nat.le_of_ble_eq_true rfl) (Nat.le_of_ble_eq_true rfl) ?_
    intro T353 h353 S353 K353 F353
    show Go p e below _ (T353.setTop (mkF m 58 #[.val (.int (2 : Int32)), .val (.int c0), .val (.int c1), .val (.int c2)] [(.ref b334)]))
    show Go p e below _ (T353.setTop (mkF m 58 #[.val (.int (2 : Int32)), .val (.int c0), .val (.int c1), .val (.int c2)] [(.ref b334)]))
    have X359 : Ext h h337 := ext_trans E334 E337
    have X360 : Ext h h339 := ext_keep1 X359 K339 (Nat.le_trans E334.1 fr337)
    have X361 : Ext h h341 := ext_keep1 X360 K341 (Nat.le_trans E334.1 fr337)
    have X362 : Ext h h353 := ext_keep1 X361 K353 fr334
    exact g_aret S353 (hb hby dBD2_58) hret rfl rfl rfl ⟨_, rfl, F353, X362⟩
theorem dBD3_0 : decode method_3_code 0 = .ok (.iload_n 0, 1) := by decide +kernel
theorem dBD3_1 : decode method_3_code 1 = .ok (.ifCond .ne 14, 3) := by decide +kernel
theorem dBD3_15 : decode method_3_code 15 = .ok (.iload_n 0, 1) := by decide +kernel
theorem dBD3_16 : decode method_3_code 16 = .ok (.iconst 1, 1) := by decide +kernel
theorem dBD3_17 : decode method_3_code 17 = .ok (.if_icmp .ne 18, 3) := by decide +kernel
theorem dBD3_35 : decode method_3_code 35 = .ok (.iload_n 0, 1) := by decide +kernel
theorem dBD3_36 : decode method_3_code 36 = .ok (.iconst 2, 1) := by decide +kernel
theorem dBD3_37 : decode method_3_code 37 = .ok (.if_icmp .ne 22, 3) := by decide +kernel
theorem dBD3_59 : decode method_3_code 59 = .ok (.new 7, 3) := by decide +kernel
theorem dBD3_62 : decode method_3_code 62 = .ok (.dup, 1) := by decide +kernel
theorem dBD3_63 : decode method_3_code 63 = .ok (.iconst 3, 1) := by decide +kernel
theorem dBD3_64 : decode method_3_code 64 = .ok (.newarray .char, 2) := by decide +kernel
theorem dBD3_66 : decode method_3_code 66 = .ok (.dup, 1) := by decide +kernel
theorem dBD3_67 : decode method_3_code 67 = .ok (.iconst 0, 1) := by decide +kernel
theorem dBD3_68 : decode method_3_code 68 = .ok (.iload_n 1, 1) := by decide +kernel
theorem dBD3_69 : decode method_3_code 69 = .ok (.castore, 1) := by decide +kernel
theorem dBD3_70 : decode method_3_code 70 = .ok (.dup, 1) := by decide +kernel
theorem dBD3_71 : decode method_3_code 71 = .ok (.iconst 1, 1) := by decide +kernel
theorem dBD3_72 : decode method_3_code 72 = .ok (.iload_n 2, 1) := by decide +kernel
theorem dBD3_73 : decode method_3_code 73 = .ok (.castore, 1) := by decide +kernel
theorem dBD3_74 : decode method_3_code 74 = .ok (.dup, 1) := by decide +kernel
theorem dBD3_75 : decode method_3_code 75 = .ok (.iconst 2, 1) := by decide +kernel
theorem dBD3_76 : decode method_3_code 76 = .ok (.iload_n 3, 1) := by decide +kernel
theorem dBD3_77 : decode method_3_code 77 = .ok (.castore, 1) := by decide +kernel
theorem dBD3_78 : decode method_3_code 78 = .ok (.invokespecial 9, 3) := by decide +kernel
theorem dBD3_81 : decode method_3_code 81 = .ok (.areturn, 1) := by decide +kernel
set_option maxRecDepth 65536 in
set_option maxHeartbeats 40000000 in
theorem rmBD3 {l : Launch} {Z : State} {a0 : Array Value} {n0 : Nat} (X : Ctx Z a0) {c0 c1 c2 : Int32} {h : Heap} (hO : Old Z n0 h) (rc0 : ¬ c0 < 0 ∧ ¬ (65535 : Int32) < c0) (rc1 : ¬ c1 < 0 ∧ ¬ (65535 : Int32) < c1) (rc2 : ¬ c2 < 0 ∧ ¬ (65535 : Int32) < c2) :
    Ctr l Z EL1 n0 (⟨"com/example/remora/remora/RequestPathHoldsControlCharacterPinLaw", "build", "(ICCC)Ljava/lang/String;"⟩ : MethodName) method_3_code 4 (some (.object "java/lang/String")) ({ frames := 6, cells := 6, slots := 16, locals := 96 } : Room) #[(.int (3 : Int32)), (.int c0), (.int c1), (.int c2)] h [] (fun v h' => ∃ a, v = some (.ref a) ∧ StrF Z h' a [c0, c1, c2] ∧ Ext h h') := by
  have hw := X.hw
  obtain ⟨z1, hz1, hz2⟩ := X.2.2.1
  refine Ctr.intro (a0 := a0) (plainFor_of_name pn3) hO X.ew ?_
  intro p e s m below meth c T0 V0 S0 hby hml hret hnm hsf
  rw [ef13]
  refine s_iloadN S0 (hb hby dBD3_0) rfl (pc' := 1) rfl ?_
  refine s_ifY S0 (hb hby dBD3_1) (by decide) (by decide) (pcT := 15) (by decide) ?_
  refine s_iloadN S0 (hb hby dBD3_15) rfl (pc' := 16) rfl ?_
  refine s_iconst S0 (hb hby dBD3_16) (v := (1 : Int32)) rfl (pc' := 17) rfl ?_
  refine s_icmpY S0 (hb hby dBD3_17) (by decide) (by decide) (pcT := 35) (by decide) ?_
  refine s_iloadN S0 (hb hby dBD3_35) rfl (pc' := 36) rfl ?_
  refine s_iconst S0 (hb hby dBD3_36) (v := (2 : Int32)) rfl (pc' := 37) rfl ?_
  refine s_icmpY S0 (hb hby dBD3_37) (by decide) (by decide) (pcT := 59) (by decide) ?_
  refine g_new S0 (w5 hw) (w6 hw) (w7 hw) (hb hby dBD3_59) (Nat.le_of_ble_eq_true rfl) (Nat.le_of_ble_eq_true rfl) ?_
  intro T363 h363 b363 S363 E363 fr363 lt363 na363 sf363 A363 D363
  have F364 : Fld Z h363 b363 "java/lang/String" "value" "[B" .null := D363 (Or.inr (w21 hw)) (ty := (.array .byte)) (by decide)
  have F365 : Fld Z h363 b363 "java/lang/String" "coder" "B" (.int (0 : Int32)) := D363 (Or.inr (w22 hw)) (ty := .byte) (by decide)
  show Go p e below _ (T363.setTop (mkF m 62 #[.val (.int (3 : Int32)), .val (.int c0), .val (.int c1), .val (.int c2)] [(.ref b363)]))
  refine s_dup S363 (hb hby dBD3_62) rfl (pc' := 63) rfl ?_
  refine s_iconst S363 (hb hby dBD3_63) (v := (3 : Int32)) rfl (pc' := 64) rfl ?_
  refine g_newarr (aty := .char) S363 (w8 hw) (hb hby dBD3_64) (by decide) (cap := 3) (by decide) (by decide) (Nat.le_of_ble_eq_true rfl) (Nat.le_of_ble_eq_true rfl) ?_
  intro T366 h366 b366 kc366 S366 E366 fr366 lt366 na366 sf366 A366
  have sf367 := Safe.ext E366 S363.chv sf363
  have V366 : Arv Z h366 b366 kc366 .char (3 : Int32) [(.int (0 : Int32)), (.int (0 : Int32)), (.int (0 : Int32))] (.int (0 : Int32)) := A366 3
  show Go p e below _ (T366.setTop (mkF m 66 #[.val (.int (3 : Int32)), .val (.int c0), .val (.int c1), .val (.int c2)] [(.ref b366), (.ref b363), (.ref b363)]))
  refine s_dup S366 (hb hby dBD3_66) rfl (pc' := 67) rfl ?_
  refine s_iconst S366 (hb hby dBD3_67) (v := (0 : Int32)) rfl (pc' := 68) rfl ?_
  refine s_iloadN S366 (hb hby dBD3_68) rfl (pc' := 69) rfl ?_
  refine g_castore S366 V366 ⟨by decide, by decide⟩ 0 rfl (Nat.le_of_ble_eq_true rfl) na366 (hb hby dBD3_69) ?_
  intro T368 h368 S368 K368 V368
  have sf369 := Safe.keep K368 (sfS (Safe.arv S366.warm.alike V366 (by decide)) sf0) S366.chv sf367
  rw [narC rc0] at V368
  have V368 : Arv Z h368 b366 kc366 .char (3 : Int32) [(.int c0), (.int (0 : Int32)), (.int (0 : Int32))] (.int (0 : Int32)) := V368
  show Go p e below _ (T368.setTop (mkF m 70 #[.val (.int (3 : Int32)), .val (.int c0), .val (.int c1), .val (.int c2)] [(.ref b366), (.ref b363), (.ref b363)]))
  refine s_dup S368 (hb hby dBD3_70) rfl (pc' := 71) rfl ?_
  refine s_iconst S368 (hb hby dBD3_71) (v := (1 : Int32)) rfl (pc' := 72) rfl ?_
  refine s_iloadN S368 (hb hby dBD3_72) rfl (pc' := 73) rfl ?_
  refine g_castore S368 V368 ⟨by decide, by decide⟩ 1 rfl (Nat.le_of_ble_eq_true rfl) na366 (hb hby dBD3_73) ?_
  intro T370 h370 S370 K370 V370
  have sf371 := Safe.keep K370 (sfS (Safe.arv S368.warm.alike V368 (by decide)) sf0) S368.chv sf369
  rw [narC rc1] at V370
  have V370 : Arv Z h370 b366 kc366 .char (3 : Int32) [(.int c0), (.int c1), (.int (0 : Int32))] (.int (0 : Int32)) := V370
  show Go p e below _ (T370.setTop (mkF m 74 #[.val (.int (3 : Int32)), .val (.int c0), .val (.int c1), .val (.int c2)] [(.ref b366), (.ref b363), (.ref b363)]))
  refine s_dup S370 (hb hby dBD3_74) rfl (pc' := 75) rfl ?_
  refine s_iconst S370 (hb hby dBD3_75) (v := (2 : Int32)) rfl (pc' := 76) rfl ?_
  refine s_iloadN S370 (hb hby dBD3_76) rfl (pc' := 77) rfl ?_
  refine g_castore S370 V370 ⟨by decide, by decide⟩ 2 rfl (Nat.le_of_ble_eq_true rfl) na366 (hb hby dBD3_77) ?_
  intro T372 h372 S372 K372 V372
  have sf373 := Safe.keep K372 (sfS (Safe.arv S370.warm.alike V370 (by decide)) sf0) S370.chv sf371
  rw [narC rc2] at V372
  have V372 : Arv Z h372 b366 kc366 .char (3 : Int32) [(.int c0), (.int c1), (.int c2)] (.int (0 : Int32)) := V372
  show Go p e below _ (T372.setTop (mkF m 78 #[.val (.int (3 : Int32)), .val (.int c0), .val (.int c1), .val (.int c2)] [(.ref b366), (.ref b363), (.ref b363)]))
  rcases Classical.em ((255 : Int32) < c0 ∨ (255 : Int32) < c1 ∨ (255 : Int32) < c2) with hwd | hnw
  · skip
    show Go p e below _ (T372.setTop (mkF m 78 #[.val (.int (3 : Int32)), .val (.int c0), .val (.int c1), .val (.int c2)] [(.ref b366), (.ref b363), (.ref b363)]))
    have X374 : Ext h363 h368 := ext_keep1 E366 K368 fr366
    have X375 : Ext h363 h370 := ext_keep1 X374 K370 fr366
    have X376 : Ext h363 h372 := ext_keep1 X375 K372 fr366
    have A377 := A363.ext X376
    have F378 := F364.ext X376
    have F379 := F365.ext X376
    refine g_special S372 (rmW13 X na363 S372.old A377 F378 F379 V372 rc0 rc1 rc2 hwd) (sf1 (A377).lt sf373) rfl (w9 hw) (w10 hw) (w7 hw) (w11 hw) (by decide) (hb hby dBD3_78) (by rw [hml]; rfl) b363 [.ref b366] (lenOf pd13 rfl) rfl rfl (Nat.le_of_ble_eq_true rfl) (Nat.le_of_ble_eq_true rfl) (Nat.le_of_ble_eq_true rfl) (Nat.le_of_ble_eq_true rfl) ?_
    intro v380 T380 V380 h380 S380 C380 q380
    obtain ⟨rfl, K380, F380⟩ := q380
    show Go p e below _ (T380.setTop (mkF m 81 #[.val (.int (3 : Int32)), .val (.int c0), .val (.int c1), .val (.int c2)] [(.ref b363)]))
    show Go p e below _ (T380.setTop (mkF m 81 #[.val (.int (3 : Int32)), .val (.int c0), .val (.int c1), .val (.int c2)] [(.ref b363)]))
    have X381 : Ext h h366 := ext_trans E363 E366
    have X382 : Ext h h368 := ext_keep1 X381 K368 (Nat.le_trans E363.1 fr366)
    have X383 : Ext h h370 := ext_keep1 X382 K370 (Nat.le_trans E363.1 fr366)
    have X384 : Ext h h372 := ext_keep1 X383 K372 (Nat.le_trans E363.1 fr366)
    have X385 : Ext h h380 := ext_keep1 X384 K380 fr363
    exact g_aret S380 (hb hby dBD3_81) hret rfl rfl rfl ⟨_, rfl, F380, X385⟩
  · skip
    show Go p e below _ (T372.setTop (mkF m 78 #[.val (.int (3 : Int32)), .val (.int c0), .val (.int c1), .val (.int c2)] [(.ref b366), (.ref b363), (.ref b363)]))
    have r8c0 : ¬ c0 < 0 ∧ ¬ (255 : Int32) < c0 := ⟨rc0.1, fun q => hnw (Or.inl q)⟩
    have r8c1 : ¬ c1 < 0 ∧ ¬ (255 : Int32) < c1 := ⟨rc1.1, fun q => hnw (Or.inr (Or.inl q))⟩
    have r8c2 : ¬ c2 < 0 ∧ ¬ (255 : Int32) < c2 := ⟨rc2.1, fun q => hnw (Or.inr (Or.inr (q)))⟩
    show Go p e below _ (T372.setTop (mkF m 78 #[.val (.int (3 : Int32)), .val (.int c0), .val (.int c1), .val (.int c2)] [(.ref b366), (.ref b363), (.ref b363)]))
    have X387 : Ext h363 h368 := ext_keep1 E366 K368 fr366
    have X388 : Ext h363 h370 := ext_keep1 X387 K370 fr366
    have X389 : Ext h363 h372 := ext_keep1 X388 K372 fr366
    have A390 := A363.ext X389
    have F391 := F364.ext X389
    have F392 := F365.ext X389
    refine g_newStr S372 X (cs := [c0, c1, c2]) (Nat.le_of_ble_eq_true rfl) (Nat.le_of_ble_eq_true rfl) rfl na363 sf373 A390 F391 F392 V372 (faS r8c0 (faS r8c1 (faS r8c2 fa0))) (w9 hw) (hb hby dBD3_78) (by rw [hml]; rfl) (Nat.le_of_ble_eq_true rfl) (Nat.le_of_ble_eq_true rfl) (Nat.le_of_ble_eq_true rfl) (Nat.le_of_ble_eq_true rfl) ?_
    intro T386 h386 S386 K386 F386
    show Go p e below _ (T386.setTop (mkF m 81 #[.val (.int (3 : Int32)), .val (.int c0), .val (.int c1), .val (.int c2)] [(.ref b363)]))
    show Go p e below _ (T386.setTop (mkF m 81 #[.val (.int (3 : Int32)), .val (.int c0), .val (.int c1), .val (.int c2)] [(.ref b363)]))
    have X393 : Ext h h366 := ext_trans E363 E366
    have X394 : Ext h h368 := ext_keep1 X393 K368 (Nat.le_trans E363.1 fr366)
    have X395 : Ext h h370 := ext_keep1 X394 K370 (Nat.le_trans E363.1 fr366)
    have X396 : Ext h h372 := ext_keep1 X395 K372 (Nat.le_trans E363.1 fr366)
    have X397 : Ext h h386 := ext_keep1 X396 K386 fr363
    exact g_aret S386 (hb hby dBD3_81) hret rfl rfl rfl ⟨_, rfl, F386, X397⟩
theorem dCT_0 : decode method_2_code 0 = .ok (.iload_n 0, 1) := by decide +kernel
theorem dCT_1 : decode method_2_code 1 = .ok (.bipush 31, 2) := by decide +kernel
theorem dCT_3 : decode method_2_code 3 = .ok (.if_icmp .le 16, 3) := by decide +kernel
theorem dCT_6 : decode method_2_code 6 = .ok (.iload_n 0, 1) := by decide +kernel
theorem dCT_7 : decode method_2_code 7 = .ok (.bipush 127, 2) := by decide +kernel
theorem dCT_9 : decode method_2_code 9 = .ok (.if_icmp .lt 14, 3) := by decide +kernel
theorem dCT_12 : decode method_2_code 12 = .ok (.iload_n 0, 1) := by decide +kernel
theorem dCT_13 : decode method_2_code 13 = .ok (.sipush 159, 3) := by decide +kernel
theorem dCT_16 : decode method_2_code 16 = .ok (.if_icmp .gt 7, 3) := by decide +kernel
theorem dCT_19 : decode method_2_code 19 = .ok (.iconst 1, 1) := by decide +kernel
theorem dCT_20 : decode method_2_code 20 = .ok (.goto 4, 3) := by decide +kernel
theorem dCT_23 : decode method_2_code 23 = .ok (.iconst 0, 1) := by decide +kernel
theorem dCT_24 : decode method_2_code 24 = .ok (.ireturn, 1) := by decide +kernel
set_option maxRecDepth 65536 in
set_option maxHeartbeats 40000000 in
theorem rmCT {l : Launch} {Z : State} {a0 : Array Value} {n0 : Nat} (X : Ctx Z a0) (ch : Int32) {h : Heap} (hO : Old Z n0 h)  :
    Ctr l Z EL1 n0 (⟨"com/example/remora/remora/RequestPathHoldsControlCharacterPinLaw", "control", "(C)Z"⟩ : MethodName) method_2_code 1 (some .boolean) ({ frames := 0, cells := 0, slots := 0, locals := 0 } : Room) #[(.int ch)] h [] (fun v h' => ∃ r : Int32, v = some (.int r) ∧ ((r = 1 ∧ (ctl ch)) ∨ (r = 0 ∧ ¬ (ctl ch))) ∧ h' = h) := by
  have hw := X.hw
  obtain ⟨z1, hz1, hz2⟩ := X.2.2.1
  refine Ctr.intro (a0 := a0) (plainFor_of_name pn3) hO X.ew ?_
  intro p e s m below meth c T0 V0 S0 hby hml hret hnm hsf
  rw [ef3]
  refine s_iloadN S0 (hb hby dCT_0) rfl (pc' := 1) rfl ?_
  refine s_bipush S0 (hb hby dCT_1) (v := (31 : Int32)) rfl (pc' := 3) rfl ?_
  refine g_icmp S0 (hb hby dCT_3) (by decide) (pcT := 19) (by decide) (fun q => ?_) (fun q => ?_)
  · have hc3_398 : ¬ (31 : Int32) < ch := icT_le q
    show Go p e below _ (T0.setTop (mkF m 19 #[.val (.int ch)] []))
    refine s_iconst S0 (hb hby dCT_19) (v := (1 : Int32)) rfl (pc' := 20) rfl ?_
    refine s_goto S0 (hb hby dCT_20) (by decide) (pcT := 24) (by decide) ?_
    show Go p e below _ (T0.setTop (mkF m 24 #[.val (.int ch)] [(.int (1 : Int32))]))
    exact g_iretN S0 (hb hby dCT_24) hret (by simp) ⟨_, rfl, Or.inl ⟨rfl, Or.inl hc3_398⟩, rfl⟩
  · have hc3_398 : (31 : Int32) < ch := icF_le q
    show Go p e below _ (T0.setTop (mkF m 6 #[.val (.int ch)] []))
    refine s_iloadN S0 (hb hby dCT_6) rfl (pc' := 7) rfl ?_
    refine s_bipush S0 (hb hby dCT_7) (v := (127 : Int32)) rfl (pc' := 9) rfl ?_
    refine g_icmp S0 (hb hby dCT_9) (by decide) (pcT := 23) (by decide) (fun q => ?_) (fun q => ?_)
    · have hc9_399 : ch < (127 : Int32) := icT_lt q
      show Go p e below _ (T0.setTop (mkF m 23 #[.val (.int ch)] []))
      refine s_iconst S0 (hb hby dCT_23) (v := (0 : Int32)) rfl (pc' := 24) rfl ?_
      show Go p e below _ (T0.setTop (mkF m 24 #[.val (.int ch)] [(.int (0 : Int32))]))
      exact g_iretN S0 (hb hby dCT_24) hret (by simp) ⟨_, rfl, Or.inr ⟨rfl, fun q => q.elim (fun q => q hc3_398) fun q => q.1 hc9_399⟩, rfl⟩
    · have hc9_399 : ¬ ch < (127 : Int32) := icF_lt q
      show Go p e below _ (T0.setTop (mkF m 12 #[.val (.int ch)] []))
      refine s_iloadN S0 (hb hby dCT_12) rfl (pc' := 13) rfl ?_
      refine s_sipush S0 (hb hby dCT_13) (v := (159 : Int32)) rfl (pc' := 16) rfl ?_
      refine g_icmp S0 (hb hby dCT_16) (by decide) (pcT := 23) (by decide) (fun q => ?_) (fun q => ?_)
      · have hc16_400 : (159 : Int32) < ch := icT_gt q
        show Go p e below _ (T0.setTop (mkF m 23 #[.val (.int ch)] []))
        refine s_iconst S0 (hb hby dCT_23) (v := (0 : Int32)) rfl (pc' := 24) rfl ?_
        show Go p e below _ (T0.setTop (mkF m 24 #[.val (.int ch)] [(.int (0 : Int32))]))
        exact g_iretN S0 (hb hby dCT_24) hret (by simp) ⟨_, rfl, Or.inr ⟨rfl, fun q => q.elim (fun q => q hc3_398) fun q => q.2 hc16_400⟩, rfl⟩
      · have hc16_400 : ¬ (159 : Int32) < ch := icF_gt q
        show Go p e below _ (T0.setTop (mkF m 19 #[.val (.int ch)] []))
        refine s_iconst S0 (hb hby dCT_19) (v := (1 : Int32)) rfl (pc' := 20) rfl ?_
        refine s_goto S0 (hb hby dCT_20) (by decide) (pcT := 24) (by decide) ?_
        show Go p e below _ (T0.setTop (mkF m 24 #[.val (.int ch)] [(.int (1 : Int32))]))
        exact g_iretN S0 (hb hby dCT_24) hret (by simp) ⟨_, rfl, Or.inl ⟨rfl, Or.inr ⟨hc9_399, hc16_400⟩⟩, rfl⟩
theorem dIC_0 : decode jdk_89_method_89_code 0 = .ok (.iload_n 0, 1) := by decide +kernel
theorem dIC_1 : decode jdk_89_method_89_code 1 = .ok (.sipush 159, 3) := by decide +kernel
theorem dIC_4 : decode jdk_89_method_89_code 4 = .ok (.if_icmp .gt 19, 3) := by decide +kernel
theorem dIC_7 : decode jdk_89_method_89_code 7 = .ok (.iload_n 0, 1) := by decide +kernel
theorem dIC_8 : decode jdk_89_method_89_code 8 = .ok (.bipush 127, 2) := by decide +kernel
theorem dIC_10 : decode jdk_89_method_89_code 10 = .ok (.if_icmp .ge 9, 3) := by decide +kernel
theorem dIC_13 : decode jdk_89_method_89_code 13 = .ok (.iload_n 0, 1) := by decide +kernel
theorem dIC_14 : decode jdk_89_method_89_code 14 = .ok (.iconst 5, 1) := by decide +kernel
theorem dIC_15 : decode jdk_89_method_89_code 15 = .ok (.iushr, 1) := by decide +kernel
theorem dIC_16 : decode jdk_89_method_89_code 16 = .ok (.ifCond .ne 7, 3) := by decide +kernel
theorem dIC_19 : decode jdk_89_method_89_code 19 = .ok (.iconst 1, 1) := by decide +kernel
theorem dIC_20 : decode jdk_89_method_89_code 20 = .ok (.goto 4, 3) := by decide +kernel
theorem dIC_23 : decode jdk_89_method_89_code 23 = .ok (.iconst 0, 1) := by decide +kernel
theorem dIC_24 : decode jdk_89_method_89_code 24 = .ok (.ireturn, 1) := by decide +kernel
set_option maxRecDepth 65536 in
set_option maxHeartbeats 40000000 in
theorem rmIC {l : Launch} {Z : State} {a0 : Array Value} {n0 : Nat} (X : Ctx Z a0) {ch : Int32} {h : Heap} (hO : Old Z n0 h) (r : ¬ ch < 0 ∧ ¬ (65535 : Int32) < ch) :
    Ctr l Z EL1 n0 (⟨"java/lang/Character", "isISOControl", "(I)Z"⟩ : MethodName) jdk_89_method_89_code 1 (some .boolean) ({ frames := 0, cells := 0, slots := 0, locals := 0 } : Room) #[(.int ch)] h [] (fun v h' => ∃ r : Int32, v = some (.int r) ∧ ((r = 1 ∧ (ctl ch)) ∨ (r = 0 ∧ ¬ (ctl ch))) ∧ h' = h) := by
  have hw := X.hw
  obtain ⟨z1, hz1, hz2⟩ := X.2.2.1
  refine Ctr.intro (a0 := a0) (plainFor_of_name pn4) hO X.ew ?_
  intro p e s m below meth c T0 V0 S0 hby hml hret hnm hsf
  rw [ef3]
  refine s_iloadN S0 (hb hby dIC_0) rfl (pc' := 1) rfl ?_
  refine s_sipush S0 (hb hby dIC_1) (v := (159 : Int32)) rfl (pc' := 4) rfl ?_
  refine g_icmp S0 (hb hby dIC_4) (by decide) (pcT := 23) (by decide) (fun q => ?_) (fun q => ?_)
  · have hc4_401 : (159 : Int32) < ch := icT_gt q
    show Go p e below _ (T0.setTop (mkF m 23 #[.val (.int ch)] []))
    refine s_iconst S0 (hb hby dIC_23) (v := (0 : Int32)) rfl (pc' := 24) rfl ?_
    show Go p e below _ (T0.setTop (mkF m 24 #[.val (.int ch)] [(.int (0 : Int32))]))
    exact g_iretN S0 (hb hby dIC_24) hret (by simp) ⟨_, rfl, Or.inr ⟨rfl, own_cA hc4_401⟩, rfl⟩
  · have hc4_401 : ¬ (159 : Int32) < ch := icF_gt q
    show Go p e below _ (T0.setTop (mkF m 7 #[.val (.int ch)] []))
    refine s_iloadN S0 (hb hby dIC_7) rfl (pc' := 8) rfl ?_
    refine s_bipush S0 (hb hby dIC_8) (v := (127 : Int32)) rfl (pc' := 10) rfl ?_
    refine g_icmp S0 (hb hby dIC_10) (by decide) (pcT := 19) (by decide) (fun q => ?_) (fun q => ?_)
    · have hc10_402 : ¬ ch < (127 : Int32) := icT_ge q
      show Go p e below _ (T0.setTop (mkF m 19 #[.val (.int ch)] []))
      refine s_iconst S0 (hb hby dIC_19) (v := (1 : Int32)) rfl (pc' := 20) rfl ?_
      refine s_goto S0 (hb hby dIC_20) (by decide) (pcT := 24) (by decide) ?_
      show Go p e below _ (T0.setTop (mkF m 24 #[.val (.int ch)] [(.int (1 : Int32))]))
      exact g_iretN S0 (hb hby dIC_24) hret (by simp) ⟨_, rfl, Or.inl ⟨rfl, own_cB hc4_401 hc10_402⟩, rfl⟩
    · have hc10_402 : ch < (127 : Int32) := icF_ge q
      show Go p e below _ (T0.setTop (mkF m 13 #[.val (.int ch)] []))
      refine s_iloadN S0 (hb hby dIC_13) rfl (pc' := 14) rfl ?_
      refine s_iconst S0 (hb hby dIC_14) (v := (5 : Int32)) rfl (pc' := 15) rfl ?_
      refine s_iushr S0 (hb hby dIC_15) (z := ((ch.toUInt32 >>> ((5 : Int32) &&& 31).toUInt32).toInt32)) rfl (pc' := 16) rfl ?_
      refine g_if S0 (hb hby dIC_16) (by decide) (pcT := 23) (by decide) (fun q => ?_) (fun q => ?_)
      · have hc16_403 : ¬ ((ch.toUInt32 >>> ((5 : Int32) &&& 31).toUInt32).toInt32) = (0 : Int32) := icT_ne q
        show Go p e below _ (T0.setTop (mkF m 23 #[.val (.int ch)] []))
        refine s_iconst S0 (hb hby dIC_23) (v := (0 : Int32)) rfl (pc' := 24) rfl ?_
        show Go p e below _ (T0.setTop (mkF m 24 #[.val (.int ch)] [(.int (0 : Int32))]))
        exact g_iretN S0 (hb hby dIC_24) hret (by simp) ⟨_, rfl, Or.inr ⟨rfl, own_cD r.1 hc10_402 hc16_403⟩, rfl⟩
      · have hc16_403 : ((ch.toUInt32 >>> ((5 : Int32) &&& 31).toUInt32).toInt32) = (0 : Int32) := icF_ne q
        show Go p e below _ (T0.setTop (mkF m 19 #[.val (.int ch)] []))
        refine s_iconst S0 (hb hby dIC_19) (v := (1 : Int32)) rfl (pc' := 20) rfl ?_
        refine s_goto S0 (hb hby dIC_20) (by decide) (pcT := 24) (by decide) ?_
        show Go p e below _ (T0.setTop (mkF m 24 #[.val (.int ch)] [(.int (1 : Int32))]))
        exact g_iretN S0 (hb hby dIC_24) hret (by simp) ⟨_, rfl, Or.inl ⟨rfl, own_cC r.1 hc10_402 hc16_403⟩, rfl⟩
theorem dID_0 : decode jdk_89_method_88_code 0 = .ok (.iload_n 0, 1) := by decide +kernel
theorem dID_1 : decode jdk_89_method_88_code 1 = .ok (.invokestatic 266, 3) := by decide +kernel
theorem dID_4 : decode jdk_89_method_88_code 4 = .ok (.ireturn, 1) := by decide +kernel
set_option maxRecDepth 65536 in
set_option maxHeartbeats 40000000 in
theorem rmID {l : Launch} {Z : State} {a0 : Array Value} {n0 : Nat} (X : Ctx Z a0) {ch : Int32} {h : Heap} (hO : Old Z n0 h) (r : ¬ ch < 0 ∧ ¬ (65535 : Int32) < ch) :
    Ctr l Z EL1 n0 (⟨"java/lang/Character", "isISOControl", "(C)Z"⟩ : MethodName) jdk_89_method_88_code 1 (some .boolean) ({ frames := 1, cells := 0, slots := 0, locals := 12 } : Room) #[(.int ch)] h [] (fun v h' => ∃ r : Int32, v = some (.int r) ∧ ((r = 1 ∧ (ctl ch)) ∨ (r = 0 ∧ ¬ (ctl ch))) ∧ h' = h) := by
  have hw := X.hw
  obtain ⟨z1, hz1, hz2⟩ := X.2.2.1
  refine Ctr.intro (a0 := a0) (plainFor_of_name pn4) hO X.ew ?_
  intro p e s m below meth c T0 V0 S0 hby hml hret hnm hsf
  rw [ef3]
  refine s_iloadN S0 (hb hby dID_0) rfl (pc' := 1) rfl ?_
  show Go p e below _ (T0.setTop (mkF m 1 #[.val (.int ch)] [(.int ch)]))
  refine g_static S0 (rmIC X S0.old r) (fun _ q => nomatch q) (w81 hw) (w82 hw) (w79 hw) (w83 hw) (by decide) (hb hby dID_1) (by rw [hml]; rfl) [(.int ch)] (lenOf pd14 rfl) rfl rfl (Nat.le_of_ble_eq_true rfl) (Nat.le_of_ble_eq_true rfl) (Nat.le_of_ble_eq_true rfl) (Nat.le_of_ble_eq_true rfl) ?_
  intro v404 T404 V404 h404 S404 C404 q404
  obtain ⟨rr, rfl, hrr, rfl⟩ := q404
  show Go p e below _ (T404.setTop (mkF m 4 #[.val (.int ch)] [(.int rr)]))
  exact g_iretN S404 (hb hby dID_4) hret (by simp) ⟨rr, by rcases hrr with ⟨rfl, -⟩ | ⟨rfl, -⟩ <;> rfl, hrr, rfl⟩
theorem dHC0_0 : decode prog_11_method_4_code 0 = .ok (.iconst 0, 1) := by decide +kernel
theorem dHC0_1 : decode prog_11_method_4_code 1 = .ok (.istore_n 1, 1) := by decide +kernel
theorem dHC0_2 : decode prog_11_method_4_code 2 = .ok (.iconst 0, 1) := by decide +kernel
theorem dHC0_3 : decode prog_11_method_4_code 3 = .ok (.istore_n 2, 1) := by decide +kernel
theorem dHC0_4 : decode prog_11_method_4_code 4 = .ok (.iload_n 2, 1) := by decide +kernel
theorem dHC0_5 : decode prog_11_method_4_code 5 = .ok (.aload_n 0, 1) := by decide +kernel
theorem dHC0_6 : decode prog_11_method_4_code 6 = .ok (.invokevirtual 50, 3) := by decide +kernel
theorem dHC0_9 : decode prog_11_method_4_code 9 = .ok (.if_icmp .ge 22, 3) := by decide +kernel
theorem dHC0_31 : decode prog_11_method_4_code 31 = .ok (.iload_n 1, 1) := by decide +kernel
theorem dHC0_32 : decode prog_11_method_4_code 32 = .ok (.ireturn, 1) := by decide +kernel
set_option maxRecDepth 65536 in
set_option maxHeartbeats 40000000 in
theorem rmHC0 {l : Launch} {Z : State} {a0 : Array Value} {n0 : Nat} (X : Ctx Z a0) {a : Addr} {h : Heap} (hO : Old Z n0 h) (F : StrF Z h a []) :
    Ctr l Z EL1 n0 (⟨"com/example/remora/remora/RequestPath", "holdsControlCharacter", "(Ljava/lang/String;)Z"⟩ : MethodName) prog_11_method_4_code 3 (some .boolean) ({ frames := 5, cells := 0, slots := 0, locals := 68 } : Room) #[(.ref a)] h [] (fun v h' => ∃ r : Int32, v = some (.int r) ∧ ((r = 1 ∧ (False)) ∨ (r = 0 ∧ ¬ (False))) ∧ h' = h) := by
  have hw := X.hw
  obtain ⟨z1, hz1, hz2⟩ := X.2.2.1
  refine Ctr.intro (a0 := a0) (plainFor_of_name pn5) hO X.ew ?_
  intro p e s m below meth c T0 V0 S0 hby hml hret hnm hsf
  rw [ef14]
  show Go p e below _ (T0.setTop (mkF m 0 #[.val (.ref a), .unset, .unset] []))
  refine s_iconst S0 (hb hby dHC0_0) (v := (0 : Int32)) rfl (pc' := 1) rfl ?_
  refine s_istoreN S0 (hb hby dHC0_1) (L' := #[.val (.ref a), .val (.int (0 : Int32)), .unset]) rfl (pc' := 2) rfl ?_
  refine s_iconst S0 (hb hby dHC0_2) (v := (0 : Int32)) rfl (pc' := 3) rfl ?_
  refine s_istoreN S0 (hb hby dHC0_3) (L' := #[.val (.ref a), .val (.int (0 : Int32)), .val (.int (0 : Int32))]) rfl (pc' := 4) rfl ?_
  refine s_iloadN S0 (hb hby dHC0_4) rfl (pc' := 5) rfl ?_
  refine s_aloadN S0 (hb hby dHC0_5) rfl rfl (pc' := 6) rfl ?_
  show Go p e below _ (T0.setTop (mkF m 6 #[.val (.ref a), .val (.int (0 : Int32)), .val (.int (0 : Int32))] [(.ref a), (.int (0 : Int32))]))
  refine g_strLen S0 X F (w31 hw) (hb hby dHC0_6) (by rw [hml]; rfl) (Nat.le_of_ble_eq_true rfl) (Nat.le_of_ble_eq_true rfl) (Nat.le_of_ble_eq_true rfl) (Nat.le_of_ble_eq_true rfl) ?_
  intro T405 S405
  show Go p e below _ (T405.setTop (mkF m 9 #[.val (.ref a), .val (.int (0 : Int32)), .val (.int (0 : Int32))] [(.int (0 : Int32)), (.int (0 : Int32))]))
  refine s_icmpY S405 (hb hby dHC0_9) (by decide) (by decide) (pcT := 31) (by decide) ?_
  refine s_iloadN S405 (hb hby dHC0_31) rfl (pc' := 32) rfl ?_
  show Go p e below _ (T405.setTop (mkF m 32 #[.val (.ref a), .val (.int (0 : Int32)), .val (.int (0 : Int32))] [(.int (0 : Int32))]))
  exact g_iretN S405 (hb hby dHC0_32) hret (by simp) ⟨_, rfl, Or.inr ⟨rfl, fun q => q⟩, rfl⟩
theorem dHC1_0 : decode prog_11_method_4_code 0 = .ok (.iconst 0, 1) := by decide +kernel
theorem dHC1_1 : decode prog_11_method_4_code 1 = .ok (.istore_n 1, 1) := by decide +kernel
theorem dHC1_2 : decode prog_11_method_4_code 2 = .ok (.iconst 0, 1) := by decide +kernel
theorem dHC1_3 : decode prog_11_method_4_code 3 = .ok (.istore_n 2, 1) := by decide +kernel
theorem dHC1_4 : decode prog_11_method_4_code 4 = .ok (.iload_n 2, 1) := by decide +kernel
theorem dHC1_5 : decode prog_11_method_4_code 5 = .ok (.aload_n 0, 1) := by decide +kernel
theorem dHC1_6 : decode prog_11_method_4_code 6 = .ok (.invokevirtual 50, 3) := by decide +kernel
theorem dHC1_9 : decode prog_11_method_4_code 9 = .ok (.if_icmp .ge 22, 3) := by decide +kernel
theorem dHC1_12 : decode prog_11_method_4_code 12 = .ok (.iload_n 1, 1) := by decide +kernel
theorem dHC1_13 : decode prog_11_method_4_code 13 = .ok (.ifCond .ne 18, 3) := by decide +kernel
theorem dHC1_16 : decode prog_11_method_4_code 16 = .ok (.aload_n 0, 1) := by decide +kernel
theorem dHC1_17 : decode prog_11_method_4_code 17 = .ok (.iload_n 2, 1) := by decide +kernel
theorem dHC1_18 : decode prog_11_method_4_code 18 = .ok (.invokevirtual 54, 3) := by decide +kernel
theorem dHC1_21 : decode prog_11_method_4_code 21 = .ok (.invokestatic 58, 3) := by decide +kernel
theorem dHC1_24 : decode prog_11_method_4_code 24 = .ok (.istore_n 1, 1) := by decide +kernel
theorem dHC1_25 : decode prog_11_method_4_code 25 = .ok (.iinc 2 1, 3) := by decide +kernel
theorem dHC1_28 : decode prog_11_method_4_code 28 = .ok (.goto (-24), 3) := by decide +kernel
theorem dHC1_31 : decode prog_11_method_4_code 31 = .ok (.iload_n 1, 1) := by decide +kernel
theorem dHC1_32 : decode prog_11_method_4_code 32 = .ok (.ireturn, 1) := by decide +kernel
set_option maxRecDepth 65536 in
set_option maxHeartbeats 40000000 in
theorem rmHC1 {l : Launch} {Z : State} {a0 : Array Value} {n0 : Nat} (X : Ctx Z a0) {a : Addr} {c0 : Int32} {h : Heap} (hO : Old Z n0 h) (F : StrF Z h a [c0]) :
    Ctr l Z EL1 n0 (⟨"com/example/remora/remora/RequestPath", "holdsControlCharacter", "(Ljava/lang/String;)Z"⟩ : MethodName) prog_11_method_4_code 3 (some .boolean) ({ frames := 5, cells := 0, slots := 0, locals := 68 } : Room) #[(.ref a)] h [] (fun v h' => ∃ r : Int32, v = some (.int r) ∧ ((r = 1 ∧ (ctl c0)) ∨ (r = 0 ∧ ¬ (ctl c0))) ∧ h' = h) := by
  have hw := X.hw
  obtain ⟨z1, hz1, hz2⟩ := X.2.2.1
  refine Ctr.intro (a0 := a0) (plainFor_of_name pn5) hO X.ew ?_
  intro p e s m below meth c T0 V0 S0 hby hml hret hnm hsf
  rw [ef14]
  rcases Classical.em ((255 : Int32) < c0) with hwd | hnw
  · skip
    have f6 : ∀ c ∈ [c0], ¬ c < 0 ∧ ¬ (65535 : Int32) < c := by obtain ⟨t, kb, cd, N2, vs, -, -, -, -, -, q, -⟩ := F; exact q
    show Go p e below _ (T0.setTop (mkF m 0 #[.val (.ref a), .unset, .unset] []))
    refine s_iconst S0 (hb hby dHC1_0) (v := (0 : Int32)) rfl (pc' := 1) rfl ?_
    refine s_istoreN S0 (hb hby dHC1_1) (L' := #[.val (.ref a), .val (.int (0 : Int32)), .unset]) rfl (pc' := 2) rfl ?_
    refine s_iconst S0 (hb hby dHC1_2) (v := (0 : Int32)) rfl (pc' := 3) rfl ?_
    refine s_istoreN S0 (hb hby dHC1_3) (L' := #[.val (.ref a), .val (.int (0 : Int32)), .val (.int (0 : Int32))]) rfl (pc' := 4) rfl ?_
    refine s_iloadN S0 (hb hby dHC1_4) rfl (pc' := 5) rfl ?_
    refine s_aloadN S0 (hb hby dHC1_5) rfl rfl (pc' := 6) rfl ?_
    show Go p e below _ (T0.setTop (mkF m 6 #[.val (.ref a), .val (.int (0 : Int32)), .val (.int (0 : Int32))] [(.ref a), (.int (0 : Int32))]))
    refine g_strLen S0 X F (w31 hw) (hb hby dHC1_6) (by rw [hml]; rfl) (Nat.le_of_ble_eq_true rfl) (Nat.le_of_ble_eq_true rfl) (Nat.le_of_ble_eq_true rfl) (Nat.le_of_ble_eq_true rfl) ?_
    intro T406 S406
    show Go p e below _ (T406.setTop (mkF m 9 #[.val (.ref a), .val (.int (0 : Int32)), .val (.int (0 : Int32))] [(.int (1 : Int32)), (.int (0 : Int32))]))
    refine s_icmpN S406 (hb hby dHC1_9) (by decide) (pc' := 12) rfl ?_
    refine s_iloadN S406 (hb hby dHC1_12) rfl (pc' := 13) rfl ?_
    refine s_ifN S406 (hb hby dHC1_13) (by decide) (pc' := 16) rfl ?_
    refine s_aloadN S406 (hb hby dHC1_16) rfl rfl (pc' := 17) rfl ?_
    refine s_iloadN S406 (hb hby dHC1_17) rfl (pc' := 18) rfl ?_
    show Go p e below _ (T406.setTop (mkF m 18 #[.val (.ref a), .val (.int (0 : Int32)), .val (.int (0 : Int32))] [(.int (0 : Int32)), (.ref a)]))
    refine g_virtual S406 (rmCA10 X S406.old F hwd) (fun _ q => nomatch q) (w55 hw) (w56 hw) (w58 hw) (w57 hw) (w7 hw) (w59 hw) (by decide) (fun _ h => notFace_of_selects h) (hb hby dHC1_18) (by rw [hml]; rfl) a F.exa [(.int (0 : Int32))] (lenOf pd15 rfl) rfl rfl (Nat.le_of_ble_eq_true rfl) (Nat.le_of_ble_eq_true rfl) (Nat.le_of_ble_eq_true rfl) (Nat.le_of_ble_eq_true rfl) ?_
    intro v407 T407 V407 h407 S407 C407 q407
    obtain ⟨rfl, rfl⟩ := q407
    show Go p e below _ (T407.setTop (mkF m 21 #[.val (.ref a), .val (.int (0 : Int32)), .val (.int (0 : Int32))] [(.int c0)]))
    show Go p e below _ (T407.setTop (mkF m 21 #[.val (.ref a), .val (.int (0 : Int32)), .val (.int (0 : Int32))] [(.int c0)]))
    refine g_static S407 (rmID X S407.old (f6 c0 (by simp))) (fun _ q => nomatch q) (w77 hw) (w78 hw) (w79 hw) (w80 hw) (by decide) (hb hby dHC1_21) (by rw [hml]; rfl) [(.int c0)] (lenOf pd16 rfl) rfl rfl (Nat.le_of_ble_eq_true rfl) (Nat.le_of_ble_eq_true rfl) (Nat.le_of_ble_eq_true rfl) (Nat.le_of_ble_eq_true rfl) ?_
    intro v409 T409 V409 h409 S409 C409 q409
    obtain ⟨r408, rfl, hr408, rfl⟩ := q409
    rcases hr408 with ⟨rfl, hr408⟩ | ⟨rfl, hr408⟩
    · skip
      show Go p e below _ (T409.setTop (mkF m 24 #[.val (.ref a), .val (.int (0 : Int32)), .val (.int (0 : Int32))] [(.int (1 : Int32))]))
      refine s_istoreN S409 (hb hby dHC1_24) (L' := #[.val (.ref a), .val (.int (1 : Int32)), .val (.int (0 : Int32))]) rfl (pc' := 25) rfl ?_
      refine s_iinc S409 (hb hby dHC1_25) rfl (z := (1 : Int32)) rfl (L' := #[.val (.ref a), .val (.int (1 : Int32)), .val (.int (1 : Int32))]) rfl (pc' := 28) rfl ?_
      refine s_goto S409 (hb hby dHC1_28) (by decide) (pcT := 4) (by decide) ?_
      refine s_iloadN S409 (hb hby dHC1_4) rfl (pc' := 5) rfl ?_
      refine s_aloadN S409 (hb hby dHC1_5) rfl rfl (pc' := 6) rfl ?_
      show Go p e below _ (T409.setTop (mkF m 6 #[.val (.ref a), .val (.int (1 : Int32)), .val (.int (1 : Int32))] [(.ref a), (.int (1 : Int32))]))
      refine g_strLen S409 X F (w31 hw) (hb hby dHC1_6) (by rw [hml]; rfl) (Nat.le_of_ble_eq_true rfl) (Nat.le_of_ble_eq_true rfl) (Nat.le_of_ble_eq_true rfl) (Nat.le_of_ble_eq_true rfl) ?_
      intro T410 S410
      show Go p e below _ (T410.setTop (mkF m 9 #[.val (.ref a), .val (.int (1 : Int32)), .val (.int (1 : Int32))] [(.int (1 : Int32)), (.int (1 : Int32))]))
      refine s_icmpY S410 (hb hby dHC1_9) (by decide) (by decide) (pcT := 31) (by decide) ?_
      refine s_iloadN S410 (hb hby dHC1_31) rfl (pc' := 32) rfl ?_
      show Go p e below _ (T410.setTop (mkF m 32 #[.val (.ref a), .val (.int (1 : Int32)), .val (.int (1 : Int32))] [(.int (1 : Int32))]))
      exact g_iretN S410 (hb hby dHC1_32) hret (by simp) ⟨_, rfl, Or.inl ⟨rfl, hr408⟩, rfl⟩
    · skip
      show Go p e below _ (T409.setTop (mkF m 24 #[.val (.ref a), .val (.int (0 : Int32)), .val (.int (0 : Int32))] [(.int (0 : Int32))]))
      refine s_istoreN S409 (hb hby dHC1_24) (L' := #[.val (.ref a), .val (.int (0 : Int32)), .val (.int (0 : Int32))]) rfl (pc' := 25) rfl ?_
      refine s_iinc S409 (hb hby dHC1_25) rfl (z := (1 : Int32)) rfl (L' := #[.val (.ref a), .val (.int (0 : Int32)), .val (.int (1 : Int32))]) rfl (pc' := 28) rfl ?_
      refine s_goto S409 (hb hby dHC1_28) (by decide) (pcT := 4) (by decide) ?_
      refine s_iloadN S409 (hb hby dHC1_4) rfl (pc' := 5) rfl ?_
      refine s_aloadN S409 (hb hby dHC1_5) rfl rfl (pc' := 6) rfl ?_
      show Go p e below _ (T409.setTop (mkF m 6 #[.val (.ref a), .val (.int (0 : Int32)), .val (.int (1 : Int32))] [(.ref a), (.int (1 : Int32))]))
      refine g_strLen S409 X F (w31 hw) (hb hby dHC1_6) (by rw [hml]; rfl) (Nat.le_of_ble_eq_true rfl) (Nat.le_of_ble_eq_true rfl) (Nat.le_of_ble_eq_true rfl) (Nat.le_of_ble_eq_true rfl) ?_
      intro T411 S411
      show Go p e below _ (T411.setTop (mkF m 9 #[.val (.ref a), .val (.int (0 : Int32)), .val (.int (1 : Int32))] [(.int (1 : Int32)), (.int (1 : Int32))]))
      refine s_icmpY S411 (hb hby dHC1_9) (by decide) (by decide) (pcT := 31) (by decide) ?_
      refine s_iloadN S411 (hb hby dHC1_31) rfl (pc' := 32) rfl ?_
      show Go p e below _ (T411.setTop (mkF m 32 #[.val (.ref a), .val (.int (0 : Int32)), .val (.int (1 : Int32))] [(.int (0 : Int32))]))
      exact g_iretN S411 (hb hby dHC1_32) hret (by simp) ⟨_, rfl, Or.inr ⟨rfl, hr408⟩, rfl⟩
  · skip
    have f6 : ∀ c ∈ [c0], ¬ c < 0 ∧ ¬ (65535 : Int32) < c := by obtain ⟨t, kb, cd, N2, vs, -, -, -, -, -, q, -⟩ := F; exact q
    have lat : ∀ c ∈ [c0], ¬ (255 : Int32) < c := by simpa [not_or] using hnw
    show Go p e below _ (T0.setTop (mkF m 0 #[.val (.ref a), .unset, .unset] []))
    refine s_iconst S0 (hb hby dHC1_0) (v := (0 : Int32)) rfl (pc' := 1) rfl ?_
    refine s_istoreN S0 (hb hby dHC1_1) (L' := #[.val (.ref a), .val (.int (0 : Int32)), .unset]) rfl (pc' := 2) rfl ?_
    refine s_iconst S0 (hb hby dHC1_2) (v := (0 : Int32)) rfl (pc' := 3) rfl ?_
    refine s_istoreN S0 (hb hby dHC1_3) (L' := #[.val (.ref a), .val (.int (0 : Int32)), .val (.int (0 : Int32))]) rfl (pc' := 4) rfl ?_
    refine s_iloadN S0 (hb hby dHC1_4) rfl (pc' := 5) rfl ?_
    refine s_aloadN S0 (hb hby dHC1_5) rfl rfl (pc' := 6) rfl ?_
    show Go p e below _ (T0.setTop (mkF m 6 #[.val (.ref a), .val (.int (0 : Int32)), .val (.int (0 : Int32))] [(.ref a), (.int (0 : Int32))]))
    refine g_strLen S0 X F (w31 hw) (hb hby dHC1_6) (by rw [hml]; rfl) (Nat.le_of_ble_eq_true rfl) (Nat.le_of_ble_eq_true rfl) (Nat.le_of_ble_eq_true rfl) (Nat.le_of_ble_eq_true rfl) ?_
    intro T412 S412
    show Go p e below _ (T412.setTop (mkF m 9 #[.val (.ref a), .val (.int (0 : Int32)), .val (.int (0 : Int32))] [(.int (1 : Int32)), (.int (0 : Int32))]))
    refine s_icmpN S412 (hb hby dHC1_9) (by decide) (pc' := 12) rfl ?_
    refine s_iloadN S412 (hb hby dHC1_12) rfl (pc' := 13) rfl ?_
    refine s_ifN S412 (hb hby dHC1_13) (by decide) (pc' := 16) rfl ?_
    refine s_aloadN S412 (hb hby dHC1_16) rfl rfl (pc' := 17) rfl ?_
    refine s_iloadN S412 (hb hby dHC1_17) rfl (pc' := 18) rfl ?_
    show Go p e below _ (T412.setTop (mkF m 18 #[.val (.ref a), .val (.int (0 : Int32)), .val (.int (0 : Int32))] [(.int (0 : Int32)), (.ref a)]))
    refine g_strChar S412 X (i := 0) F lat (Nat.le_of_ble_eq_true rfl) rfl (w55 hw) (hb hby dHC1_18) (by rw [hml]; rfl) (Nat.le_of_ble_eq_true rfl) (Nat.le_of_ble_eq_true rfl) (Nat.le_of_ble_eq_true rfl) (Nat.le_of_ble_eq_true rfl) ?_
    intro T413 S413
    show Go p e below _ (T413.setTop (mkF m 21 #[.val (.ref a), .val (.int (0 : Int32)), .val (.int (0 : Int32))] [(.int c0)]))
    show Go p e below _ (T413.setTop (mkF m 21 #[.val (.ref a), .val (.int (0 : Int32)), .val (.int (0 : Int32))] [(.int c0)]))
    refine g_static S413 (rmID X S413.old (f6 c0 (by simp))) (fun _ q => nomatch q) (w77 hw) (w78 hw) (w79 hw) (w80 hw) (by decide) (hb hby dHC1_21) (by rw [hml]; rfl) [(.int c0)] (lenOf pd16 rfl) rfl rfl (Nat.le_of_ble_eq_true rfl) (Nat.le_of_ble_eq_true rfl) (Nat.le_of_ble_eq_true rfl) (Nat.le_of_ble_eq_true rfl) ?_
    intro v415 T415 V415 h415 S415 C415 q415
    obtain ⟨r414, rfl, hr414, rfl⟩ := q415
    rcases hr414 with ⟨rfl, hr414⟩ | ⟨rfl, hr414⟩
    · skip
      show Go p e below _ (T415.setTop (mkF m 24 #[.val (.ref a), .val (.int (0 : Int32)), .val (.int (0 : Int32))] [(.int (1 : Int32))]))
      refine s_istoreN S415 (hb hby dHC1_24) (L' := #[.val (.ref a), .val (.int (1 : Int32)), .val (.int (0 : Int32))]) rfl (pc' := 25) rfl ?_
      refine s_iinc S415 (hb hby dHC1_25) rfl (z := (1 : Int32)) rfl (L' := #[.val (.ref a), .val (.int (1 : Int32)), .val (.int (1 : Int32))]) rfl (pc' := 28) rfl ?_
      refine s_goto S415 (hb hby dHC1_28) (by decide) (pcT := 4) (by decide) ?_
      refine s_iloadN S415 (hb hby dHC1_4) rfl (pc' := 5) rfl ?_
      refine s_aloadN S415 (hb hby dHC1_5) rfl rfl (pc' := 6) rfl ?_
      show Go p e below _ (T415.setTop (mkF m 6 #[.val (.ref a), .val (.int (1 : Int32)), .val (.int (1 : Int32))] [(.ref a), (.int (1 : Int32))]))
      refine g_strLen S415 X F (w31 hw) (hb hby dHC1_6) (by rw [hml]; rfl) (Nat.le_of_ble_eq_true rfl) (Nat.le_of_ble_eq_true rfl) (Nat.le_of_ble_eq_true rfl) (Nat.le_of_ble_eq_true rfl) ?_
      intro T416 S416
      show Go p e below _ (T416.setTop (mkF m 9 #[.val (.ref a), .val (.int (1 : Int32)), .val (.int (1 : Int32))] [(.int (1 : Int32)), (.int (1 : Int32))]))
      refine s_icmpY S416 (hb hby dHC1_9) (by decide) (by decide) (pcT := 31) (by decide) ?_
      refine s_iloadN S416 (hb hby dHC1_31) rfl (pc' := 32) rfl ?_
      show Go p e below _ (T416.setTop (mkF m 32 #[.val (.ref a), .val (.int (1 : Int32)), .val (.int (1 : Int32))] [(.int (1 : Int32))]))
      exact g_iretN S416 (hb hby dHC1_32) hret (by simp) ⟨_, rfl, Or.inl ⟨rfl, hr414⟩, rfl⟩
    · skip
      show Go p e below _ (T415.setTop (mkF m 24 #[.val (.ref a), .val (.int (0 : Int32)), .val (.int (0 : Int32))] [(.int (0 : Int32))]))
      refine s_istoreN S415 (hb hby dHC1_24) (L' := #[.val (.ref a), .val (.int (0 : Int32)), .val (.int (0 : Int32))]) rfl (pc' := 25) rfl ?_
      refine s_iinc S415 (hb hby dHC1_25) rfl (z := (1 : Int32)) rfl (L' := #[.val (.ref a), .val (.int (0 : Int32)), .val (.int (1 : Int32))]) rfl (pc' := 28) rfl ?_
      refine s_goto S415 (hb hby dHC1_28) (by decide) (pcT := 4) (by decide) ?_
      refine s_iloadN S415 (hb hby dHC1_4) rfl (pc' := 5) rfl ?_
      refine s_aloadN S415 (hb hby dHC1_5) rfl rfl (pc' := 6) rfl ?_
      show Go p e below _ (T415.setTop (mkF m 6 #[.val (.ref a), .val (.int (0 : Int32)), .val (.int (1 : Int32))] [(.ref a), (.int (1 : Int32))]))
      refine g_strLen S415 X F (w31 hw) (hb hby dHC1_6) (by rw [hml]; rfl) (Nat.le_of_ble_eq_true rfl) (Nat.le_of_ble_eq_true rfl) (Nat.le_of_ble_eq_true rfl) (Nat.le_of_ble_eq_true rfl) ?_
      intro T417 S417
      show Go p e below _ (T417.setTop (mkF m 9 #[.val (.ref a), .val (.int (0 : Int32)), .val (.int (1 : Int32))] [(.int (1 : Int32)), (.int (1 : Int32))]))
      refine s_icmpY S417 (hb hby dHC1_9) (by decide) (by decide) (pcT := 31) (by decide) ?_
      refine s_iloadN S417 (hb hby dHC1_31) rfl (pc' := 32) rfl ?_
      show Go p e below _ (T417.setTop (mkF m 32 #[.val (.ref a), .val (.int (0 : Int32)), .val (.int (1 : Int32))] [(.int (0 : Int32))]))
      exact g_iretN S417 (hb hby dHC1_32) hret (by simp) ⟨_, rfl, Or.inr ⟨rfl, hr414⟩, rfl⟩
theorem dHC2_0 : decode prog_11_method_4_code 0 = .ok (.iconst 0, 1) := by decide +kernel
theorem dHC2_1 : decode prog_11_method_4_code 1 = .ok (.istore_n 1, 1) := by decide +kernel
theorem dHC2_2 : decode prog_11_method_4_code 2 = .ok (.iconst 0, 1) := by decide +kernel
theorem dHC2_3 : decode prog_11_method_4_code 3 = .ok (.istore_n 2, 1) := by decide +kernel
theorem dHC2_4 : decode prog_11_method_4_code 4 = .ok (.iload_n 2, 1) := by decide +kernel
theorem dHC2_5 : decode prog_11_method_4_code 5 = .ok (.aload_n 0, 1) := by decide +kernel
theorem dHC2_6 : decode prog_11_method_4_code 6 = .ok (.invokevirtual 50, 3) := by decide +kernel
theorem dHC2_9 : decode prog_11_method_4_code 9 = .ok (.if_icmp .ge 22, 3) := by decide +kernel
theorem dHC2_12 : decode prog_11_method_4_code 12 = .ok (.iload_n 1, 1) := by decide +kernel
theorem dHC2_13 : decode prog_11_method_4_code 13 = .ok (.ifCond .ne 18, 3) := by decide +kernel
theorem dHC2_16 : decode prog_11_method_4_code 16 = .ok (.aload_n 0, 1) := by decide +kernel
theorem dHC2_17 : decode prog_11_method_4_code 17 = .ok (.iload_n 2, 1) := by decide +kernel
theorem dHC2_18 : decode prog_11_method_4_code 18 = .ok (.invokevirtual 54, 3) := by decide +kernel
theorem dHC2_21 : decode prog_11_method_4_code 21 = .ok (.invokestatic 58, 3) := by decide +kernel
theorem dHC2_24 : decode prog_11_method_4_code 24 = .ok (.istore_n 1, 1) := by decide +kernel
theorem dHC2_25 : decode prog_11_method_4_code 25 = .ok (.iinc 2 1, 3) := by decide +kernel
theorem dHC2_28 : decode prog_11_method_4_code 28 = .ok (.goto (-24), 3) := by decide +kernel
theorem dHC2_31 : decode prog_11_method_4_code 31 = .ok (.iload_n 1, 1) := by decide +kernel
theorem dHC2_32 : decode prog_11_method_4_code 32 = .ok (.ireturn, 1) := by decide +kernel
set_option maxRecDepth 65536 in
set_option maxHeartbeats 40000000 in
theorem rmHC2 {l : Launch} {Z : State} {a0 : Array Value} {n0 : Nat} (X : Ctx Z a0) {a : Addr} {c0 c1 : Int32} {h : Heap} (hO : Old Z n0 h) (F : StrF Z h a [c0, c1]) :
    Ctr l Z EL1 n0 (⟨"com/example/remora/remora/RequestPath", "holdsControlCharacter", "(Ljava/lang/String;)Z"⟩ : MethodName) prog_11_method_4_code 3 (some .boolean) ({ frames := 5, cells := 0, slots := 0, locals := 68 } : Room) #[(.ref a)] h [] (fun v h' => ∃ r : Int32, v = some (.int r) ∧ ((r = 1 ∧ (ctl c0 ∨ ctl c1)) ∨ (r = 0 ∧ ¬ (ctl c0 ∨ ctl c1))) ∧ h' = h) := by
  have hw := X.hw
  obtain ⟨z1, hz1, hz2⟩ := X.2.2.1
  refine Ctr.intro (a0 := a0) (plainFor_of_name pn5) hO X.ew ?_
  intro p e s m below meth c T0 V0 S0 hby hml hret hnm hsf
  rw [ef14]
  rcases Classical.em ((255 : Int32) < c0 ∨ (255 : Int32) < c1) with hwd | hnw
  · skip
    have f6 : ∀ c ∈ [c0, c1], ¬ c < 0 ∧ ¬ (65535 : Int32) < c := by obtain ⟨t, kb, cd, N2, vs, -, -, -, -, -, q, -⟩ := F; exact q
    show Go p e below _ (T0.setTop (mkF m 0 #[.val (.ref a), .unset, .unset] []))
    refine s_iconst S0 (hb hby dHC2_0) (v := (0 : Int32)) rfl (pc' := 1) rfl ?_
    refine s_istoreN S0 (hb hby dHC2_1) (L' := #[.val (.ref a), .val (.int (0 : Int32)), .unset]) rfl (pc' := 2) rfl ?_
    refine s_iconst S0 (hb hby dHC2_2) (v := (0 : Int32)) rfl (pc' := 3) rfl ?_
    refine s_istoreN S0 (hb hby dHC2_3) (L' := #[.val (.ref a), .val (.int (0 : Int32)), .val (.int (0 : Int32))]) rfl (pc' := 4) rfl ?_
    refine s_iloadN S0 (hb hby dHC2_4) rfl (pc' := 5) rfl ?_
    refine s_aloadN S0 (hb hby dHC2_5) rfl rfl (pc' := 6) rfl ?_
    show Go p e below _ (T0.setTop (mkF m 6 #[.val (.ref a), .val (.int (0 : Int32)), .val (.int (0 : Int32))] [(.ref a), (.int (0 : Int32))]))
    refine g_strLen S0 X F (w31 hw) (hb hby dHC2_6) (by rw [hml]; rfl) (Nat.le_of_ble_eq_true rfl) (Nat.le_of_ble_eq_true rfl) (Nat.le_of_ble_eq_true rfl) (Nat.le_of_ble_eq_true rfl) ?_
    intro T418 S418
    show Go p e below _ (T418.setTop (mkF m 9 #[.val (.ref a), .val (.int (0 : Int32)), .val (.int (0 : Int32))] [(.int (2 : Int32)), (.int (0 : Int32))]))
    refine s_icmpN S418 (hb hby dHC2_9) (by decide) (pc' := 12) rfl ?_
    refine s_iloadN S418 (hb hby dHC2_12) rfl (pc' := 13) rfl ?_
    refine s_ifN S418 (hb hby dHC2_13) (by decide) (pc' := 16) rfl ?_
    refine s_aloadN S418 (hb hby dHC2_16) rfl rfl (pc' := 17) rfl ?_
    refine s_iloadN S418 (hb hby dHC2_17) rfl (pc' := 18) rfl ?_
    show Go p e below _ (T418.setTop (mkF m 18 #[.val (.ref a), .val (.int (0 : Int32)), .val (.int (0 : Int32))] [(.int (0 : Int32)), (.ref a)]))
    refine g_virtual S418 (rmCA20 X S418.old F hwd) (fun _ q => nomatch q) (w55 hw) (w56 hw) (w58 hw) (w57 hw) (w7 hw) (w59 hw) (by decide) (fun _ h => notFace_of_selects h) (hb hby dHC2_18) (by rw [hml]; rfl) a F.exa [(.int (0 : Int32))] (lenOf pd15 rfl) rfl rfl (Nat.le_of_ble_eq_true rfl) (Nat.le_of_ble_eq_true rfl) (Nat.le_of_ble_eq_true rfl) (Nat.le_of_ble_eq_true rfl) ?_
    intro v419 T419 V419 h419 S419 C419 q419
    obtain ⟨rfl, rfl⟩ := q419
    show Go p e below _ (T419.setTop (mkF m 21 #[.val (.ref a), .val (.int (0 : Int32)), .val (.int (0 : Int32))] [(.int c0)]))
    show Go p e below _ (T419.setTop (mkF m 21 #[.val (.ref a), .val (.int (0 : Int32)), .val (.int (0 : Int32))] [(.int c0)]))
    refine g_static S419 (rmID X S419.old (f6 c0 (by simp))) (fun _ q => nomatch q) (w77 hw) (w78 hw) (w79 hw) (w80 hw) (by decide) (hb hby dHC2_21) (by rw [hml]; rfl) [(.int c0)] (lenOf pd16 rfl) rfl rfl (Nat.le_of_ble_eq_true rfl) (Nat.le_of_ble_eq_true rfl) (Nat.le_of_ble_eq_true rfl) (Nat.le_of_ble_eq_true rfl) ?_
    intro v421 T421 V421 h421 S421 C421 q421
    obtain ⟨r420, rfl, hr420, rfl⟩ := q421
    rcases hr420 with ⟨rfl, hr420⟩ | ⟨rfl, hr420⟩
    · skip
      show Go p e below _ (T421.setTop (mkF m 24 #[.val (.ref a), .val (.int (0 : Int32)), .val (.int (0 : Int32))] [(.int (1 : Int32))]))
      refine s_istoreN S421 (hb hby dHC2_24) (L' := #[.val (.ref a), .val (.int (1 : Int32)), .val (.int (0 : Int32))]) rfl (pc' := 25) rfl ?_
      refine s_iinc S421 (hb hby dHC2_25) rfl (z := (1 : Int32)) rfl (L' := #[.val (.ref a), .val (.int (1 : Int32)), .val (.int (1 : Int32))]) rfl (pc' := 28) rfl ?_
      refine s_goto S421 (hb hby dHC2_28) (by decide) (pcT := 4) (by decide) ?_
      refine s_iloadN S421 (hb hby dHC2_4) rfl (pc' := 5) rfl ?_
      refine s_aloadN S421 (hb hby dHC2_5) rfl rfl (pc' := 6) rfl ?_
      show Go p e below _ (T421.setTop (mkF m 6 #[.val (.ref a), .val (.int (1 : Int32)), .val (.int (1 : Int32))] [(.ref a), (.int (1 : Int32))]))
      refine g_strLen S421 X F (w31 hw) (hb hby dHC2_6) (by rw [hml]; rfl) (Nat.le_of_ble_eq_true rfl) (Nat.le_of_ble_eq_true rfl) (Nat.le_of_ble_eq_true rfl) (Nat.le_of_ble_eq_true rfl) ?_
      intro T422 S422
      show Go p e below _ (T422.setTop (mkF m 9 #[.val (.ref a), .val (.int (1 : Int32)), .val (.int (1 : Int32))] [(.int (2 : Int32)), (.int (1 : Int32))]))
      refine s_icmpN S422 (hb hby dHC2_9) (by decide) (pc' := 12) rfl ?_
      refine s_iloadN S422 (hb hby dHC2_12) rfl (pc' := 13) rfl ?_
      refine s_ifY S422 (hb hby dHC2_13) (by decide) (by decide) (pcT := 31) (by decide) ?_
      refine s_iloadN S422 (hb hby dHC2_31) rfl (pc' := 32) rfl ?_
      show Go p e below _ (T422.setTop (mkF m 32 #[.val (.ref a), .val (.int (1 : Int32)), .val (.int (1 : Int32))] [(.int (1 : Int32))]))
      exact g_iretN S422 (hb hby dHC2_32) hret (by simp) ⟨_, rfl, Or.inl ⟨rfl, Or.inl hr420⟩, rfl⟩
    · skip
      show Go p e below _ (T421.setTop (mkF m 24 #[.val (.ref a), .val (.int (0 : Int32)), .val (.int (0 : Int32))] [(.int (0 : Int32))]))
      refine s_istoreN S421 (hb hby dHC2_24) (L' := #[.val (.ref a), .val (.int (0 : Int32)), .val (.int (0 : Int32))]) rfl (pc' := 25) rfl ?_
      refine s_iinc S421 (hb hby dHC2_25) rfl (z := (1 : Int32)) rfl (L' := #[.val (.ref a), .val (.int (0 : Int32)), .val (.int (1 : Int32))]) rfl (pc' := 28) rfl ?_
      refine s_goto S421 (hb hby dHC2_28) (by decide) (pcT := 4) (by decide) ?_
      refine s_iloadN S421 (hb hby dHC2_4) rfl (pc' := 5) rfl ?_
      refine s_aloadN S421 (hb hby dHC2_5) rfl rfl (pc' := 6) rfl ?_
      show Go p e below _ (T421.setTop (mkF m 6 #[.val (.ref a), .val (.int (0 : Int32)), .val (.int (1 : Int32))] [(.ref a), (.int (1 : Int32))]))
      refine g_strLen S421 X F (w31 hw) (hb hby dHC2_6) (by rw [hml]; rfl) (Nat.le_of_ble_eq_true rfl) (Nat.le_of_ble_eq_true rfl) (Nat.le_of_ble_eq_true rfl) (Nat.le_of_ble_eq_true rfl) ?_
      intro T423 S423
      show Go p e below _ (T423.setTop (mkF m 9 #[.val (.ref a), .val (.int (0 : Int32)), .val (.int (1 : Int32))] [(.int (2 : Int32)), (.int (1 : Int32))]))
      refine s_icmpN S423 (hb hby dHC2_9) (by decide) (pc' := 12) rfl ?_
      refine s_iloadN S423 (hb hby dHC2_12) rfl (pc' := 13) rfl ?_
      refine s_ifN S423 (hb hby dHC2_13) (by decide) (pc' := 16) rfl ?_
      refine s_aloadN S423 (hb hby dHC2_16) rfl rfl (pc' := 17) rfl ?_
      refine s_iloadN S423 (hb hby dHC2_17) rfl (pc' := 18) rfl ?_
      show Go p e below _ (T423.setTop (mkF m 18 #[.val (.ref a), .val (.int (0 : Int32)), .val (.int (1 : Int32))] [(.int (1 : Int32)), (.ref a)]))
      refine g_virtual S423 (rmCA21 X S423.old F hwd) (fun _ q => nomatch q) (w55 hw) (w56 hw) (w58 hw) (w57 hw) (w7 hw) (w59 hw) (by decide) (fun _ h => notFace_of_selects h) (hb hby dHC2_18) (by rw [hml]; rfl) a F.exa [(.int (1 : Int32))] (lenOf pd15 rfl) rfl rfl (Nat.le_of_ble_eq_true rfl) (Nat.le_of_ble_eq_true rfl) (Nat.le_of_ble_eq_true rfl) (Nat.le_of_ble_eq_true rfl) ?_
      intro v424 T424 V424 h424 S424 C424 q424
      obtain ⟨rfl, rfl⟩ := q424
      show Go p e below _ (T424.setTop (mkF m 21 #[.val (.ref a), .val (.int (0 : Int32)), .val (.int (1 : Int32))] [(.int c1)]))
      show Go p e below _ (T424.setTop (mkF m 21 #[.val (.ref a), .val (.int (0 : Int32)), .val (.int (1 : Int32))] [(.int c1)]))
      refine g_static S424 (rmID X S424.old (f6 c1 (by simp))) (fun _ q => nomatch q) (w77 hw) (w78 hw) (w79 hw) (w80 hw) (by decide) (hb hby dHC2_21) (by rw [hml]; rfl) [(.int c1)] (lenOf pd16 rfl) rfl rfl (Nat.le_of_ble_eq_true rfl) (Nat.le_of_ble_eq_true rfl) (Nat.le_of_ble_eq_true rfl) (Nat.le_of_ble_eq_true rfl) ?_
      intro v426 T426 V426 h426 S426 C426 q426
      obtain ⟨r425, rfl, hr425, rfl⟩ := q426
      rcases hr425 with ⟨rfl, hr425⟩ | ⟨rfl, hr425⟩
      · skip
        show Go p e below _ (T426.setTop (mkF m 24 #[.val (.ref a), .val (.int (0 : Int32)), .val (.int (1 : Int32))] [(.int (1 : Int32))]))
        refine s_istoreN S426 (hb hby dHC2_24) (L' := #[.val (.ref a), .val (.int (1 : Int32)), .val (.int (1 : Int32))]) rfl (pc' := 25) rfl ?_
        refine s_iinc S426 (hb hby dHC2_25) rfl (z := (2 : Int32)) rfl (L' := #[.val (.ref a), .val (.int (1 : Int32)), .val (.int (2 : Int32))]) rfl (pc' := 28) rfl ?_
        refine s_goto S426 (hb hby dHC2_28) (by decide) (pcT := 4) (by decide) ?_
        refine s_iloadN S426 (hb hby dHC2_4) rfl (pc' := 5) rfl ?_
        refine s_aloadN S426 (hb hby dHC2_5) rfl rfl (pc' := 6) rfl ?_
        show Go p e below _ (T426.setTop (mkF m 6 #[.val (.ref a), .val (.int (1 : Int32)), .val (.int (2 : Int32))] [(.ref a), (.int (2 : Int32))]))
        refine g_strLen S426 X F (w31 hw) (hb hby dHC2_6) (by rw [hml]; rfl) (Nat.le_of_ble_eq_true rfl) (Nat.le_of_ble_eq_true rfl) (Nat.le_of_ble_eq_true rfl) (Nat.le_of_ble_eq_true rfl) ?_
        intro T427 S427
        show Go p e below _ (T427.setTop (mkF m 9 #[.val (.ref a), .val (.int (1 : Int32)), .val (.int (2 : Int32))] [(.int (2 : Int32)), (.int (2 : Int32))]))
        refine s_icmpY S427 (hb hby dHC2_9) (by decide) (by decide) (pcT := 31) (by decide) ?_
        refine s_iloadN S427 (hb hby dHC2_31) rfl (pc' := 32) rfl ?_
        show Go p e below _ (T427.setTop (mkF m 32 #[.val (.ref a), .val (.int (1 : Int32)), .val (.int (2 : Int32))] [(.int (1 : Int32))]))
        exact g_iretN S427 (hb hby dHC2_32) hret (by simp) ⟨_, rfl, Or.inl ⟨rfl, Or.inr (hr425)⟩, rfl⟩
      · skip
        show Go p e below _ (T426.setTop (mkF m 24 #[.val (.ref a), .val (.int (0 : Int32)), .val (.int (1 : Int32))] [(.int (0 : Int32))]))
        refine s_istoreN S426 (hb hby dHC2_24) (L' := #[.val (.ref a), .val (.int (0 : Int32)), .val (.int (1 : Int32))]) rfl (pc' := 25) rfl ?_
        refine s_iinc S426 (hb hby dHC2_25) rfl (z := (2 : Int32)) rfl (L' := #[.val (.ref a), .val (.int (0 : Int32)), .val (.int (2 : Int32))]) rfl (pc' := 28) rfl ?_
        refine s_goto S426 (hb hby dHC2_28) (by decide) (pcT := 4) (by decide) ?_
        refine s_iloadN S426 (hb hby dHC2_4) rfl (pc' := 5) rfl ?_
        refine s_aloadN S426 (hb hby dHC2_5) rfl rfl (pc' := 6) rfl ?_
        show Go p e below _ (T426.setTop (mkF m 6 #[.val (.ref a), .val (.int (0 : Int32)), .val (.int (2 : Int32))] [(.ref a), (.int (2 : Int32))]))
        refine g_strLen S426 X F (w31 hw) (hb hby dHC2_6) (by rw [hml]; rfl) (Nat.le_of_ble_eq_true rfl) (Nat.le_of_ble_eq_true rfl) (Nat.le_of_ble_eq_true rfl) (Nat.le_of_ble_eq_true rfl) ?_
        intro T428 S428
        show Go p e below _ (T428.setTop (mkF m 9 #[.val (.ref a), .val (.int (0 : Int32)), .val (.int (2 : Int32))] [(.int (2 : Int32)), (.int (2 : Int32))]))
        refine s_icmpY S428 (hb hby dHC2_9) (by decide) (by decide) (pcT := 31) (by decide) ?_
        refine s_iloadN S428 (hb hby dHC2_31) rfl (pc' := 32) rfl ?_
        show Go p e below _ (T428.setTop (mkF m 32 #[.val (.ref a), .val (.int (0 : Int32)), .val (.int (2 : Int32))] [(.int (0 : Int32))]))
        exact g_iretN S428 (hb hby dHC2_32) hret (by simp) ⟨_, rfl, Or.inr ⟨rfl, (fun q => q.elim hr420 hr425)⟩, rfl⟩
  · skip
    have f6 : ∀ c ∈ [c0, c1], ¬ c < 0 ∧ ¬ (65535 : Int32) < c := by obtain ⟨t, kb, cd, N2, vs, -, -, -, -, -, q, -⟩ := F; exact q
    have lat : ∀ c ∈ [c0, c1], ¬ (255 : Int32) < c := by simpa [not_or] using hnw
    show Go p e below _ (T0.setTop (mkF m 0 #[.val (.ref a), .unset, .unset] []))
    refine s_iconst S0 (hb hby dHC2_0) (v := (0 : Int32)) rfl (pc' := 1) rfl ?_
    refine s_istoreN S0 (hb hby dHC2_1) (L' := #[.val (.ref a), .val (.int (0 : Int32)), .unset]) rfl (pc' := 2) rfl ?_
    refine s_iconst S0 (hb hby dHC2_2) (v := (0 : Int32)) rfl (pc' := 3) rfl ?_
    refine s_istoreN S0 (hb hby dHC2_3) (L' := #[.val (.ref a), .val (.int (0 : Int32)), .val (.int (0 : Int32))]) rfl (pc' := 4) rfl ?_
    refine s_iloadN S0 (hb hby dHC2_4) rfl (pc' := 5) rfl ?_
    refine s_aloadN S0 (hb hby dHC2_5) rfl rfl (pc' := 6) rfl ?_
    show Go p e below _ (T0.setTop (mkF m 6 #[.val (.ref a), .val (.int (0 : Int32)), .val (.int (0 : Int32))] [(.ref a), (.int (0 : Int32))]))
    refine g_strLen S0 X F (w31 hw) (hb hby dHC2_6) (by rw [hml]; rfl) (Nat.le_of_ble_eq_true rfl) (Nat.le_of_ble_eq_true rfl) (Nat.le_of_ble_eq_true rfl) (Nat.le_of_ble_eq_true rfl) ?_
    intro T429 S429
    show Go p e below _ (T429.setTop (mkF m 9 #[.val (.ref a), .val (.int (0 : Int32)), .val (.int (0 : Int32))] [(.int (2 : Int32)), (.int (0 : Int32))]))
    refine s_icmpN S429 (hb hby dHC2_9) (by decide) (pc' := 12) rfl ?_
    refine s_iloadN S429 (hb hby dHC2_12) rfl (pc' := 13) rfl ?_
    refine s_ifN S429 (hb hby dHC2_13) (by decide) (pc' := 16) rfl ?_
    refine s_aloadN S429 (hb hby dHC2_16) rfl rfl (pc' := 17) rfl ?_
    refine s_iloadN S429 (hb hby dHC2_17) rfl (pc' := 18) rfl ?_
    show Go p e below _ (T429.setTop (mkF m 18 #[.val (.ref a), .val (.int (0 : Int32)), .val (.int (0 : Int32))] [(.int (0 : Int32)), (.ref a)]))
    refine g_strChar S429 X (i := 0) F lat (Nat.le_of_ble_eq_true rfl) rfl (w55 hw) (hb hby dHC2_18) (by rw [hml]; rfl) (Nat.le_of_ble_eq_true rfl) (Nat.le_of_ble_eq_true rfl) (Nat.le_of_ble_eq_true rfl) (Nat.le_of_ble_eq_true rfl) ?_
    intro T430 S430
    show Go p e below _ (T430.setTop (mkF m 21 #[.val (.ref a), .val (.int (0 : Int32)), .val (.int (0 : Int32))] [(.int c0)]))
    show Go p e below _ (T430.setTop (mkF m 21 #[.val (.ref a), .val (.int (0 : Int32)), .val (.int (0 : Int32))] [(.int c0)]))
    refine g_static S430 (rmID X S430.old (f6 c0 (by simp))) (fun _ q => nomatch q) (w77 hw) (w78 hw) (w79 hw) (w80 hw) (by decide) (hb hby dHC2_21) (by rw [hml]; rfl) [(.int c0)] (lenOf pd16 rfl) rfl rfl (Nat.le_of_ble_eq_true rfl) (Nat.le_of_ble_eq_true rfl) (Nat.le_of_ble_eq_true rfl) (Nat.le_of_ble_eq_true rfl) ?_
    intro v432 T432 V432 h432 S432 C432 q432
    obtain ⟨r431, rfl, hr431, rfl⟩ := q432
    rcases hr431 with ⟨rfl, hr431⟩ | ⟨rfl, hr431⟩
    · skip
      show Go p e below _ (T432.setTop (mkF m 24 #[.val (.ref a), .val (.int (0 : Int32)), .val (.int (0 : Int32))] [(.int (1 : Int32))]))
      refine s_istoreN S432 (hb hby dHC2_24) (L' := #[.val (.ref a), .val (.int (1 : Int32)), .val (.int (0 : Int32))]) rfl (pc' := 25) rfl ?_
      refine s_iinc S432 (hb hby dHC2_25) rfl (z := (1 : Int32)) rfl (L' := #[.val (.ref a), .val (.int (1 : Int32)), .val (.int (1 : Int32))]) rfl (pc' := 28) rfl ?_
      refine s_goto S432 (hb hby dHC2_28) (by decide) (pcT := 4) (by decide) ?_
      refine s_iloadN S432 (hb hby dHC2_4) rfl (pc' := 5) rfl ?_
      refine s_aloadN S432 (hb hby dHC2_5) rfl rfl (pc' := 6) rfl ?_
      show Go p e below _ (T432.setTop (mkF m 6 #[.val (.ref a), .val (.int (1 : Int32)), .val (.int (1 : Int32))] [(.ref a), (.int (1 : Int32))]))
      refine g_strLen S432 X F (w31 hw) (hb hby dHC2_6) (by rw [hml]; rfl) (Nat.le_of_ble_eq_true rfl) (Nat.le_of_ble_eq_true rfl) (Nat.le_of_ble_eq_true rfl) (Nat.le_of_ble_eq_true rfl) ?_
      intro T433 S433
      show Go p e below _ (T433.setTop (mkF m 9 #[.val (.ref a), .val (.int (1 : Int32)), .val (.int (1 : Int32))] [(.int (2 : Int32)), (.int (1 : Int32))]))
      refine s_icmpN S433 (hb hby dHC2_9) (by decide) (pc' := 12) rfl ?_
      refine s_iloadN S433 (hb hby dHC2_12) rfl (pc' := 13) rfl ?_
      refine s_ifY S433 (hb hby dHC2_13) (by decide) (by decide) (pcT := 31) (by decide) ?_
      refine s_iloadN S433 (hb hby dHC2_31) rfl (pc' := 32) rfl ?_
      show Go p e below _ (T433.setTop (mkF m 32 #[.val (.ref a), .val (.int (1 : Int32)), .val (.int (1 : Int32))] [(.int (1 : Int32))]))
      exact g_iretN S433 (hb hby dHC2_32) hret (by simp) ⟨_, rfl, Or.inl ⟨rfl, Or.inl hr431⟩, rfl⟩
    · skip
      show Go p e below _ (T432.setTop (mkF m 24 #[.val (.ref a), .val (.int (0 : Int32)), .val (.int (0 : Int32))] [(.int (0 : Int32))]))
      refine s_istoreN S432 (hb hby dHC2_24) (L' := #[.val (.ref a), .val (.int (0 : Int32)), .val (.int (0 : Int32))]) rfl (pc' := 25) rfl ?_
      refine s_iinc S432 (hb hby dHC2_25) rfl (z := (1 : Int32)) rfl (L' := #[.val (.ref a), .val (.int (0 : Int32)), .val (.int (1 : Int32))]) rfl (pc' := 28) rfl ?_
      refine s_goto S432 (hb hby dHC2_28) (by decide) (pcT := 4) (by decide) ?_
      refine s_iloadN S432 (hb hby dHC2_4) rfl (pc' := 5) rfl ?_
      refine s_aloadN S432 (hb hby dHC2_5) rfl rfl (pc' := 6) rfl ?_
      show Go p e below _ (T432.setTop (mkF m 6 #[.val (.ref a), .val (.int (0 : Int32)), .val (.int (1 : Int32))] [(.ref a), (.int (1 : Int32))]))
      refine g_strLen S432 X F (w31 hw) (hb hby dHC2_6) (by rw [hml]; rfl) (Nat.le_of_ble_eq_true rfl) (Nat.le_of_ble_eq_true rfl) (Nat.le_of_ble_eq_true rfl) (Nat.le_of_ble_eq_true rfl) ?_
      intro T434 S434
      show Go p e below _ (T434.setTop (mkF m 9 #[.val (.ref a), .val (.int (0 : Int32)), .val (.int (1 : Int32))] [(.int (2 : Int32)), (.int (1 : Int32))]))
      refine s_icmpN S434 (hb hby dHC2_9) (by decide) (pc' := 12) rfl ?_
      refine s_iloadN S434 (hb hby dHC2_12) rfl (pc' := 13) rfl ?_
      refine s_ifN S434 (hb hby dHC2_13) (by decide) (pc' := 16) rfl ?_
      refine s_aloadN S434 (hb hby dHC2_16) rfl rfl (pc' := 17) rfl ?_
      refine s_iloadN S434 (hb hby dHC2_17) rfl (pc' := 18) rfl ?_
      show Go p e below _ (T434.setTop (mkF m 18 #[.val (.ref a), .val (.int (0 : Int32)), .val (.int (1 : Int32))] [(.int (1 : Int32)), (.ref a)]))
      refine g_strChar S434 X (i := 1) F lat (Nat.le_of_ble_eq_true rfl) rfl (w55 hw) (hb hby dHC2_18) (by rw [hml]; rfl) (Nat.le_of_ble_eq_true rfl) (Nat.le_of_ble_eq_true rfl) (Nat.le_of_ble_eq_true rfl) (Nat.le_of_ble_eq_true rfl) ?_
      intro T435 S435
      show Go p e below _ (T435.setTop (mkF m 21 #[.val (.ref a), .val (.int (0 : Int32)), .val (.int (1 : Int32))] [(.int c1)]))
      show Go p e below _ (T435.setTop (mkF m 21 #[.val (.ref a), .val (.int (0 : Int32)), .val (.int (1 : Int32))] [(.int c1)]))
      refine g_static S435 (rmID X S435.old (f6 c1 (by simp))) (fun _ q => nomatch q) (w77 hw) (w78 hw) (w79 hw) (w80 hw) (by decide) (hb hby dHC2_21) (by rw [hml]; rfl) [(.int c1)] (lenOf pd16 rfl) rfl rfl (Nat.le_of_ble_eq_true rfl) (Nat.le_of_ble_eq_true rfl) (Nat.le_of_ble_eq_true rfl) (Nat.le_of_ble_eq_true rfl) ?_
      intro v437 T437 V437 h437 S437 C437 q437
      obtain ⟨r436, rfl, hr436, rfl⟩ := q437
      rcases hr436 with ⟨rfl, hr436⟩ | ⟨rfl, hr436⟩
      · skip
        show Go p e below _ (T437.setTop (mkF m 24 #[.val (.ref a), .val (.int (0 : Int32)), .val (.int (1 : Int32))] [(.int (1 : Int32))]))
        refine s_istoreN S437 (hb hby dHC2_24) (L' := #[.val (.ref a), .val (.int (1 : Int32)), .val (.int (1 : Int32))]) rfl (pc' := 25) rfl ?_
        refine s_iinc S437 (hb hby dHC2_25) rfl (z := (2 : Int32)) rfl (L' := #[.val (.ref a), .val (.int (1 : Int32)), .val (.int (2 : Int32))]) rfl (pc' := 28) rfl ?_
        refine s_goto S437 (hb hby dHC2_28) (by decide) (pcT := 4) (by decide) ?_
        refine s_iloadN S437 (hb hby dHC2_4) rfl (pc' := 5) rfl ?_
        refine s_aloadN S437 (hb hby dHC2_5) rfl rfl (pc' := 6) rfl ?_
        show Go p e below _ (T437.setTop (mkF m 6 #[.val (.ref a), .val (.int (1 : Int32)), .val (.int (2 : Int32))] [(.ref a), (.int (2 : Int32))]))
        refine g_strLen S437 X F (w31 hw) (hb hby dHC2_6) (by rw [hml]; rfl) (Nat.le_of_ble_eq_true rfl) (Nat.le_of_ble_eq_true rfl) (Nat.le_of_ble_eq_true rfl) (Nat.le_of_ble_eq_true rfl) ?_
        intro T438 S438
        show Go p e below _ (T438.setTop (mkF m 9 #[.val (.ref a), .val (.int (1 : Int32)), .val (.int (2 : Int32))] [(.int (2 : Int32)), (.int (2 : Int32))]))
        refine s_icmpY S438 (hb hby dHC2_9) (by decide) (by decide) (pcT := 31) (by decide) ?_
        refine s_iloadN S438 (hb hby dHC2_31) rfl (pc' := 32) rfl ?_
        show Go p e below _ (T438.setTop (mkF m 32 #[.val (.ref a), .val (.int (1 : Int32)), .val (.int (2 : Int32))] [(.int (1 : Int32))]))
        exact g_iretN S438 (hb hby dHC2_32) hret (by simp) ⟨_, rfl, Or.inl ⟨rfl, Or.inr (hr436)⟩, rfl⟩
      · skip
        show Go p e below _ (T437.setTop (mkF m 24 #[.val (.ref a), .val (.int (0 : Int32)), .val (.int (1 : Int32))] [(.int (0 : Int32))]))
        refine s_istoreN S437 (hb hby dHC2_24) (L' := #[.val (.ref a), .val (.int (0 : Int32)), .val (.int (1 : Int32))]) rfl (pc' := 25) rfl ?_
        refine s_iinc S437 (hb hby dHC2_25) rfl (z := (2 : Int32)) rfl (L' := #[.val (.ref a), .val (.int (0 : Int32)), .val (.int (2 : Int32))]) rfl (pc' := 28) rfl ?_
        refine s_goto S437 (hb hby dHC2_28) (by decide) (pcT := 4) (by decide) ?_
        refine s_iloadN S437 (hb hby dHC2_4) rfl (pc' := 5) rfl ?_
        refine s_aloadN S437 (hb hby dHC2_5) rfl rfl (pc' := 6) rfl ?_
        show Go p e below _ (T437.setTop (mkF m 6 #[.val (.ref a), .val (.int (0 : Int32)), .val (.int (2 : Int32))] [(.ref a), (.int (2 : Int32))]))
        refine g_strLen S437 X F (w31 hw) (hb hby dHC2_6) (by rw [hml]; rfl) (Nat.le_of_ble_eq_true rfl) (Nat.le_of_ble_eq_true rfl) (Nat.le_of_ble_eq_true rfl) (Nat.le_of_ble_eq_true rfl) ?_
        intro T439 S439
        show Go p e below _ (T439.setTop (mkF m 9 #[.val (.ref a), .val (.int (0 : Int32)), .val (.int (2 : Int32))] [(.int (2 : Int32)), (.int (2 : Int32))]))
        refine s_icmpY S439 (hb hby dHC2_9) (by decide) (by decide) (pcT := 31) (by decide) ?_
        refine s_iloadN S439 (hb hby dHC2_31) rfl (pc' := 32) rfl ?_
        show Go p e below _ (T439.setTop (mkF m 32 #[.val (.ref a), .val (.int (0 : Int32)), .val (.int (2 : Int32))] [(.int (0 : Int32))]))
        exact g_iretN S439 (hb hby dHC2_32) hret (by simp) ⟨_, rfl, Or.inr ⟨rfl, (fun q => q.elim hr431 hr436)⟩, rfl⟩
theorem dHC3_0 : decode prog_11_method_4_code 0 = .ok (.iconst 0, 1) := by decide +kernel
theorem dHC3_1 : decode prog_11_method_4_code 1 = .ok (.istore_n 1, 1) := by decide +kernel
theorem dHC3_2 : decode prog_11_method_4_code 2 = .ok (.iconst 0, 1) := by decide +kernel
theorem dHC3_3 : decode prog_11_method_4_code 3 = .ok (.istore_n 2, 1) := by decide +kernel
theorem dHC3_4 : decode prog_11_method_4_code 4 = .ok (.iload_n 2, 1) := by decide +kernel
theorem dHC3_5 : decode prog_11_method_4_code 5 = .ok (.aload_n 0, 1) := by decide +kernel
theorem dHC3_6 : decode prog_11_method_4_code 6 = .ok (.invokevirtual 50, 3) := by decide +kernel
theorem dHC3_9 : decode prog_11_method_4_code 9 = .ok (.if_icmp .ge 22, 3) := by decide +kernel
theorem dHC3_12 : decode prog_11_method_4_code 12 = .ok (.iload_n 1, 1) := by decide +kernel
theorem dHC3_13 : decode prog_11_method_4_code 13 = .ok (.ifCond .ne 18, 3) := by decide +kernel
theorem dHC3_16 : decode prog_11_method_4_code 16 = .ok (.aload_n 0, 1) := by decide +kernel
theorem dHC3_17 : decode prog_11_method_4_code 17 = .ok (.iload_n 2, 1) := by decide +kernel
theorem dHC3_18 : decode prog_11_method_4_code 18 = .ok (.invokevirtual 54, 3) := by decide +kernel
theorem dHC3_21 : decode prog_11_method_4_code 21 = .ok (.invokestatic 58, 3) := by decide +kernel
theorem dHC3_24 : decode prog_11_method_4_code 24 = .ok (.istore_n 1, 1) := by decide +kernel
theorem dHC3_25 : decode prog_11_method_4_code 25 = .ok (.iinc 2 1, 3) := by decide +kernel
theorem dHC3_28 : decode prog_11_method_4_code 28 = .ok (.goto (-24), 3) := by decide +kernel
theorem dHC3_31 : decode prog_11_method_4_code 31 = .ok (.iload_n 1, 1) := by decide +kernel
theorem dHC3_32 : decode prog_11_method_4_code 32 = .ok (.ireturn, 1) := by decide +kernel
set_option maxRecDepth 65536 in
set_option maxHeartbeats 40000000 in
theorem rmHC3 {l : Launch} {Z : State} {a0 : Array Value} {n0 : Nat} (X : Ctx Z a0) {a : Addr} {c0 c1 c2 : Int32} {h : Heap} (hO : Old Z n0 h) (F : StrF Z h a [c0, c1, c2]) :
    Ctr l Z EL1 n0 (⟨"com/example/remora/remora/RequestPath", "holdsControlCharacter", "(Ljava/lang/String;)Z"⟩ : MethodName) prog_11_method_4_code 3 (some .boolean) ({ frames := 5, cells := 0, slots := 0, locals := 68 } : Room) #[(.ref a)] h [] (fun v h' => ∃ r : Int32, v = some (.int r) ∧ ((r = 1 ∧ (ctl c0 ∨ ctl c1 ∨ ctl c2)) ∨ (r = 0 ∧ ¬ (ctl c0 ∨ ctl c1 ∨ ctl c2))) ∧ h' = h) := by
  have hw := X.hw
  obtain ⟨z1, hz1, hz2⟩ := X.2.2.1
  refine Ctr.intro (a0 := a0) (plainFor_of_name pn5) hO X.ew ?_
  intro p e s m below meth c T0 V0 S0 hby hml hret hnm hsf
  rw [ef14]
  rcases Classical.em ((255 : Int32) < c0 ∨ (255 : Int32) < c1 ∨ (255 : Int32) < c2) with hwd | hnw
  · skip
    have f6 : ∀ c ∈ [c0, c1, c2], ¬ c < 0 ∧ ¬ (65535 : Int32) < c := by obtain ⟨t, kb, cd, N2, vs, -, -, -, -, -, q, -⟩ := F; exact q
    show Go p e below _ (T0.setTop (mkF m 0 #[.val (.ref a), .unset, .unset] []))
    refine s_iconst S0 (hb hby dHC3_0) (v := (0 : Int32)) rfl (pc' := 1) rfl ?_
    refine s_istoreN S0 (hb hby dHC3_1) (L' := #[.val (.ref a), .val (.int (0 : Int32)), .unset]) rfl (pc' := 2) rfl ?_
    refine s_iconst S0 (hb hby dHC3_2) (v := (0 : Int32)) rfl (pc' := 3) rfl ?_
    refine s_istoreN S0 (hb hby dHC3_3) (L' := #[.val (.ref a), .val (.int (0 : Int32)), .val (.int (0 : Int32))]) rfl (pc' := 4) rfl ?_
    refine s_iloadN S0 (hb hby dHC3_4) rfl (pc' := 5) rfl ?_
    refine s_aloadN S0 (hb hby dHC3_5) rfl rfl (pc' := 6) rfl ?_
    show Go p e below _ (T0.setTop (mkF m 6 #[.val (.ref a), .val (.int (0 : Int32)), .val (.int (0 : Int32))] [(.ref a), (.int (0 : Int32))]))
    refine g_strLen S0 X F (w31 hw) (hb hby dHC3_6) (by rw [hml]; rfl) (Nat.le_of_ble_eq_true rfl) (Nat.le_of_ble_eq_true rfl) (Nat.le_of_ble_eq_true rfl) (Nat.le_of_ble_eq_true rfl) ?_
    intro T440 S440
    show Go p e below _ (T440.setTop (mkF m 9 #[.val (.ref a), .val (.int (0 : Int32)), .val (.int (0 : Int32))] [(.int (3 : Int32)), (.int (0 : Int32))]))
    refine s_icmpN S440 (hb hby dHC3_9) (by decide) (pc' := 12) rfl ?_
    refine s_iloadN S440 (hb hby dHC3_12) rfl (pc' := 13) rfl ?_
    refine s_ifN S440 (hb hby dHC3_13) (by decide) (pc' := 16) rfl ?_
    refine s_aloadN S440 (hb hby dHC3_16) rfl rfl (pc' := 17) rfl ?_
    refine s_iloadN S440 (hb hby dHC3_17) rfl (pc' := 18) rfl ?_
    show Go p e below _ (T440.setTop (mkF m 18 #[.val (.ref a), .val (.int (0 : Int32)), .val (.int (0 : Int32))] [(.int (0 : Int32)), (.ref a)]))
    refine g_virtual S440 (rmCA30 X S440.old F hwd) (fun _ q => nomatch q) (w55 hw) (w56 hw) (w58 hw) (w57 hw) (w7 hw) (w59 hw) (by decide) (fun _ h => notFace_of_selects h) (hb hby dHC3_18) (by rw [hml]; rfl) a F.exa [(.int (0 : Int32))] (lenOf pd15 rfl) rfl rfl (Nat.le_of_ble_eq_true rfl) (Nat.le_of_ble_eq_true rfl) (Nat.le_of_ble_eq_true rfl) (Nat.le_of_ble_eq_true rfl) ?_
    intro v441 T441 V441 h441 S441 C441 q441
    obtain ⟨rfl, rfl⟩ := q441
    show Go p e below _ (T441.setTop (mkF m 21 #[.val (.ref a), .val (.int (0 : Int32)), .val (.int (0 : Int32))] [(.int c0)]))
    show Go p e below _ (T441.setTop (mkF m 21 #[.val (.ref a), .val (.int (0 : Int32)), .val (.int (0 : Int32))] [(.int c0)]))
    refine g_static S441 (rmID X S441.old (f6 c0 (by simp))) (fun _ q => nomatch q) (w77 hw) (w78 hw) (w79 hw) (w80 hw) (by decide) (hb hby dHC3_21) (by rw [hml]; rfl) [(.int c0)] (lenOf pd16 rfl) rfl rfl (Nat.le_of_ble_eq_true rfl) (Nat.le_of_ble_eq_true rfl) (Nat.le_of_ble_eq_true rfl) (Nat.le_of_ble_eq_true rfl) ?_
    intro v443 T443 V443 h443 S443 C443 q443
    obtain ⟨r442, rfl, hr442, rfl⟩ := q443
    rcases hr442 with ⟨rfl, hr442⟩ | ⟨rfl, hr442⟩
    · skip
      show Go p e below _ (T443.setTop (mkF m 24 #[.val (.ref a), .val (.int (0 : Int32)), .val (.int (0 : Int32))] [(.int (1 : Int32))]))
      refine s_istoreN S443 (hb hby dHC3_24) (L' := #[.val (.ref a), .val (.int (1 : Int32)), .val (.int (0 : Int32))]) rfl (pc' := 25) rfl ?_
      refine s_iinc S443 (hb hby dHC3_25) rfl (z := (1 : Int32)) rfl (L' := #[.val (.ref a), .val (.int (1 : Int32)), .val (.int (1 : Int32))]) rfl (pc' := 28) rfl ?_
      refine s_goto S443 (hb hby dHC3_28) (by decide) (pcT := 4) (by decide) ?_
      refine s_iloadN S443 (hb hby dHC3_4) rfl (pc' := 5) rfl ?_
      refine s_aloadN S443 (hb hby dHC3_5) rfl rfl (pc' := 6) rfl ?_
      show Go p e below _ (T443.setTop (mkF m 6 #[.val (.ref a), .val (.int (1 : Int32)), .val (.int (1 : Int32))] [(.ref a), (.int (1 : Int32))]))
      refine g_strLen S443 X F (w31 hw) (hb hby dHC3_6) (by rw [hml]; rfl) (Nat.le_of_ble_eq_true rfl) (Nat.le_of_ble_eq_true rfl) (Nat.le_of_ble_eq_true rfl) (Nat.le_of_ble_eq_true rfl) ?_
      intro T444 S444
      show Go p e below _ (T444.setTop (mkF m 9 #[.val (.ref a), .val (.int (1 : Int32)), .val (.int (1 : Int32))] [(.int (3 : Int32)), (.int (1 : Int32))]))
      refine s_icmpN S444 (hb hby dHC3_9) (by decide) (pc' := 12) rfl ?_
      refine s_iloadN S444 (hb hby dHC3_12) rfl (pc' := 13) rfl ?_
      refine s_ifY S444 (hb hby dHC3_13) (by decide) (by decide) (pcT := 31) (by decide) ?_
      refine s_iloadN S444 (hb hby dHC3_31) rfl (pc' := 32) rfl ?_
      show Go p e below _ (T444.setTop (mkF m 32 #[.val (.ref a), .val (.int (1 : Int32)), .val (.int (1 : Int32))] [(.int (1 : Int32))]))
      exact g_iretN S444 (hb hby dHC3_32) hret (by simp) ⟨_, rfl, Or.inl ⟨rfl, Or.inl hr442⟩, rfl⟩
    · skip
      show Go p e below _ (T443.setTop (mkF m 24 #[.val (.ref a), .val (.int (0 : Int32)), .val (.int (0 : Int32))] [(.int (0 : Int32))]))
      refine s_istoreN S443 (hb hby dHC3_24) (L' := #[.val (.ref a), .val (.int (0 : Int32)), .val (.int (0 : Int32))]) rfl (pc' := 25) rfl ?_
      refine s_iinc S443 (hb hby dHC3_25) rfl (z := (1 : Int32)) rfl (L' := #[.val (.ref a), .val (.int (0 : Int32)), .val (.int (1 : Int32))]) rfl (pc' := 28) rfl ?_
      refine s_goto S443 (hb hby dHC3_28) (by decide) (pcT := 4) (by decide) ?_
      refine s_iloadN S443 (hb hby dHC3_4) rfl (pc' := 5) rfl ?_
      refine s_aloadN S443 (hb hby dHC3_5) rfl rfl (pc' := 6) rfl ?_
      show Go p e below _ (T443.setTop (mkF m 6 #[.val (.ref a), .val (.int (0 : Int32)), .val (.int (1 : Int32))] [(.ref a), (.int (1 : Int32))]))
      refine g_strLen S443 X F (w31 hw) (hb hby dHC3_6) (by rw [hml]; rfl) (Nat.le_of_ble_eq_true rfl) (Nat.le_of_ble_eq_true rfl) (Nat.le_of_ble_eq_true rfl) (Nat.le_of_ble_eq_true rfl) ?_
      intro T445 S445
      show Go p e below _ (T445.setTop (mkF m 9 #[.val (.ref a), .val (.int (0 : Int32)), .val (.int (1 : Int32))] [(.int (3 : Int32)), (.int (1 : Int32))]))
      refine s_icmpN S445 (hb hby dHC3_9) (by decide) (pc' := 12) rfl ?_
      refine s_iloadN S445 (hb hby dHC3_12) rfl (pc' := 13) rfl ?_
      refine s_ifN S445 (hb hby dHC3_13) (by decide) (pc' := 16) rfl ?_
      refine s_aloadN S445 (hb hby dHC3_16) rfl rfl (pc' := 17) rfl ?_
      refine s_iloadN S445 (hb hby dHC3_17) rfl (pc' := 18) rfl ?_
      show Go p e below _ (T445.setTop (mkF m 18 #[.val (.ref a), .val (.int (0 : Int32)), .val (.int (1 : Int32))] [(.int (1 : Int32)), (.ref a)]))
      refine g_virtual S445 (rmCA31 X S445.old F hwd) (fun _ q => nomatch q) (w55 hw) (w56 hw) (w58 hw) (w57 hw) (w7 hw) (w59 hw) (by decide) (fun _ h => notFace_of_selects h) (hb hby dHC3_18) (by rw [hml]; rfl) a F.exa [(.int (1 : Int32))] (lenOf pd15 rfl) rfl rfl (Nat.le_of_ble_eq_true rfl) (Nat.le_of_ble_eq_true rfl) (Nat.le_of_ble_eq_true rfl) (Nat.le_of_ble_eq_true rfl) ?_
      intro v446 T446 V446 h446 S446 C446 q446
      obtain ⟨rfl, rfl⟩ := q446
      show Go p e below _ (T446.setTop (mkF m 21 #[.val (.ref a), .val (.int (0 : Int32)), .val (.int (1 : Int32))] [(.int c1)]))
      show Go p e below _ (T446.setTop (mkF m 21 #[.val (.ref a), .val (.int (0 : Int32)), .val (.int (1 : Int32))] [(.int c1)]))
      refine g_static S446 (rmID X S446.old (f6 c1 (by simp))) (fun _ q => nomatch q) (w77 hw) (w78 hw) (w79 hw) (w80 hw) (by decide) (hb hby dHC3_21) (by rw [hml]; rfl) [(.int c1)] (lenOf pd16 rfl) rfl rfl (Nat.le_of_ble_eq_true rfl) (Nat.le_of_ble_eq_true rfl) (Nat.le_of_ble_eq_true rfl) (Nat.le_of_ble_eq_true rfl) ?_
      intro v448 T448 V448 h448 S448 C448 q448
      obtain ⟨r447, rfl, hr447, rfl⟩ := q448
      rcases hr447 with ⟨rfl, hr447⟩ | ⟨rfl, hr447⟩
      · skip
        show Go p e below _ (T448.setTop (mkF m 24 #[.val (.ref a), .val (.int (0 : Int32)), .val (.int (1 : Int32))] [(.int (1 : Int32))]))
        refine s_istoreN S448 (hb hby dHC3_24) (L' := #[.val (.ref a), .val (.int (1 : Int32)), .val (.int (1 : Int32))]) rfl (pc' := 25) rfl ?_
        refine s_iinc S448 (hb hby dHC3_25) rfl (z := (2 : Int32)) rfl (L' := #[.val (.ref a), .val (.int (1 : Int32)), .val (.int (2 : Int32))]) rfl (pc' := 28) rfl ?_
        refine s_goto S448 (hb hby dHC3_28) (by decide) (pcT := 4) (by decide) ?_
        refine s_iloadN S448 (hb hby dHC3_4) rfl (pc' := 5) rfl ?_
        refine s_aloadN S448 (hb hby dHC3_5) rfl rfl (pc' := 6) rfl ?_
        show Go p e below _ (T448.setTop (mkF m 6 #[.val (.ref a), .val (.int (1 : Int32)), .val (.int (2 : Int32))] [(.ref a), (.int (2 : Int32))]))
        refine g_strLen S448 X F (w31 hw) (hb hby dHC3_6) (by rw [hml]; rfl) (Nat.le_of_ble_eq_true rfl) (Nat.le_of_ble_eq_true rfl) (Nat.le_of_ble_eq_true rfl) (Nat.le_of_ble_eq_true rfl) ?_
        intro T449 S449
        show Go p e below _ (T449.setTop (mkF m 9 #[.val (.ref a), .val (.int (1 : Int32)), .val (.int (2 : Int32))] [(.int (3 : Int32)), (.int (2 : Int32))]))
        refine s_icmpN S449 (hb hby dHC3_9) (by decide) (pc' := 12) rfl ?_
        refine s_iloadN S449 (hb hby dHC3_12) rfl (pc' := 13) rfl ?_
        refine s_ifY S449 (hb hby dHC3_13) (by decide) (by decide) (pcT := 31) (by decide) ?_
        refine s_iloadN S449 (hb hby dHC3_31) rfl (pc' := 32) rfl ?_
        show Go p e below _ (T449.setTop (mkF m 32 #[.val (.ref a), .val (.int (1 : Int32)), .val (.int (2 : Int32))] [(.int (1 : Int32))]))
        exact g_iretN S449 (hb hby dHC3_32) hret (by simp) ⟨_, rfl, Or.inl ⟨rfl, Or.inr (Or.inl hr447)⟩, rfl⟩
      · skip
        show Go p e below _ (T448.setTop (mkF m 24 #[.val (.ref a), .val (.int (0 : Int32)), .val (.int (1 : Int32))] [(.int (0 : Int32))]))
        refine s_istoreN S448 (hb hby dHC3_24) (L' := #[.val (.ref a), .val (.int (0 : Int32)), .val (.int (1 : Int32))]) rfl (pc' := 25) rfl ?_
        refine s_iinc S448 (hb hby dHC3_25) rfl (z := (2 : Int32)) rfl (L' := #[.val (.ref a), .val (.int (0 : Int32)), .val (.int (2 : Int32))]) rfl (pc' := 28) rfl ?_
        refine s_goto S448 (hb hby dHC3_28) (by decide) (pcT := 4) (by decide) ?_
        refine s_iloadN S448 (hb hby dHC3_4) rfl (pc' := 5) rfl ?_
        refine s_aloadN S448 (hb hby dHC3_5) rfl rfl (pc' := 6) rfl ?_
        show Go p e below _ (T448.setTop (mkF m 6 #[.val (.ref a), .val (.int (0 : Int32)), .val (.int (2 : Int32))] [(.ref a), (.int (2 : Int32))]))
        refine g_strLen S448 X F (w31 hw) (hb hby dHC3_6) (by rw [hml]; rfl) (Nat.le_of_ble_eq_true rfl) (Nat.le_of_ble_eq_true rfl) (Nat.le_of_ble_eq_true rfl) (Nat.le_of_ble_eq_true rfl) ?_
        intro T450 S450
        show Go p e below _ (T450.setTop (mkF m 9 #[.val (.ref a), .val (.int (0 : Int32)), .val (.int (2 : Int32))] [(.int (3 : Int32)), (.int (2 : Int32))]))
        refine s_icmpN S450 (hb hby dHC3_9) (by decide) (pc' := 12) rfl ?_
        refine s_iloadN S450 (hb hby dHC3_12) rfl (pc' := 13) rfl ?_
        refine s_ifN S450 (hb hby dHC3_13) (by decide) (pc' := 16) rfl ?_
        refine s_aloadN S450 (hb hby dHC3_16) rfl rfl (pc' := 17) rfl ?_
        refine s_iloadN S450 (hb hby dHC3_17) rfl (pc' := 18) rfl ?_
        show Go p e below _ (T450.setTop (mkF m 18 #[.val (.ref a), .val (.int (0 : Int32)), .val (.int (2 : Int32))] [(.int (2 : Int32)), (.ref a)]))
        refine g_virtual S450 (rmCA32 X S450.old F hwd) (fun _ q => nomatch q) (w55 hw) (w56 hw) (w58 hw) (w57 hw) (w7 hw) (w59 hw) (by decide) (fun _ h => notFace_of_selects h) (hb hby dHC3_18) (by rw [hml]; rfl) a F.exa [(.int (2 : Int32))] (lenOf pd15 rfl) rfl rfl (Nat.le_of_ble_eq_true rfl) (Nat.le_of_ble_eq_true rfl) (Nat.le_of_ble_eq_true rfl) (Nat.le_of_ble_eq_true rfl) ?_
        intro v451 T451 V451 h451 S451 C451 q451
        obtain ⟨rfl, rfl⟩ := q451
        show Go p e below _ (T451.setTop (mkF m 21 #[.val (.ref a), .val (.int (0 : Int32)), .val (.int (2 : Int32))] [(.int c2)]))
        show Go p e below _ (T451.setTop (mkF m 21 #[.val (.ref a), .val (.int (0 : Int32)), .val (.int (2 : Int32))] [(.int c2)]))
        refine g_static S451 (rmID X S451.old (f6 c2 (by simp))) (fun _ q => nomatch q) (w77 hw) (w78 hw) (w79 hw) (w80 hw) (by decide) (hb hby dHC3_21) (by rw [hml]; rfl) [(.int c2)] (lenOf pd16 rfl) rfl rfl (Nat.le_of_ble_eq_true rfl) (Nat.le_of_ble_eq_true rfl) (Nat.le_of_ble_eq_true rfl) (Nat.le_of_ble_eq_true rfl) ?_
        intro v453 T453 V453 h453 S453 C453 q453
        obtain ⟨r452, rfl, hr452, rfl⟩ := q453
        rcases hr452 with ⟨rfl, hr452⟩ | ⟨rfl, hr452⟩
        · skip
          show Go p e below _ (T453.setTop (mkF m 24 #[.val (.ref a), .val (.int (0 : Int32)), .val (.int (2 : Int32))] [(.int (1 : Int32))]))
          refine s_istoreN S453 (hb hby dHC3_24) (L' := #[.val (.ref a), .val (.int (1 : Int32)), .val (.int (2 : Int32))]) rfl (pc' := 25) rfl ?_
          refine s_iinc S453 (hb hby dHC3_25) rfl (z := (3 : Int32)) rfl (L' := #[.val (.ref a), .val (.int (1 : Int32)), .val (.int (3 : Int32))]) rfl (pc' := 28) rfl ?_
          refine s_goto S453 (hb hby dHC3_28) (by decide) (pcT := 4) (by decide) ?_
          refine s_iloadN S453 (hb hby dHC3_4) rfl (pc' := 5) rfl ?_
          refine s_aloadN S453 (hb hby dHC3_5) rfl rfl (pc' := 6) rfl ?_
          show Go p e below _ (T453.setTop (mkF m 6 #[.val (.ref a), .val (.int (1 : Int32)), .val (.int (3 : Int32))] [(.ref a), (.int (3 : Int32))]))
          refine g_strLen S453 X F (w31 hw) (hb hby dHC3_6) (by rw [hml]; rfl) (Nat.le_of_ble_eq_true rfl) (Nat.le_of_ble_eq_true rfl) (Nat.le_of_ble_eq_true rfl) (Nat.le_of_ble_eq_true rfl) ?_
          intro T454 S454
          show Go p e below _ (T454.setTop (mkF m 9 #[.val (.ref a), .val (.int (1 : Int32)), .val (.int (3 : Int32))] [(.int (3 : Int32)), (.int (3 : Int32))]))
          refine s_icmpY S454 (hb hby dHC3_9) (by decide) (by decide) (pcT := 31) (by decide) ?_
          refine s_iloadN S454 (hb hby dHC3_31) rfl (pc' := 32) rfl ?_
          show Go p e below _ (T454.setTop (mkF m 32 #[.val (.ref a), .val (.int (1 : Int32)), .val (.int (3 : Int32))] [(.int (1 : Int32))]))
          exact g_iretN S454 (hb hby dHC3_32) hret (by simp) ⟨_, rfl, Or.inl ⟨rfl, Or.inr (Or.inr (hr452))⟩, rfl⟩
        · skip
          show Go p e below _ (T453.setTop (mkF m 24 #[.val (.ref a), .val (.int (0 : Int32)), .val (.int (2 : Int32))] [(.int (0 : Int32))]))
          refine s_istoreN S453 (hb hby dHC3_24) (L' := #[.val (.ref a), .val (.int (0 : Int32)), .val (.int (2 : Int32))]) rfl (pc' := 25) rfl ?_
          refine s_iinc S453 (hb hby dHC3_25) rfl (z := (3 : Int32)) rfl (L' := #[.val (.ref a), .val (.int (0 : Int32)), .val (.int (3 : Int32))]) rfl (pc' := 28) rfl ?_
          refine s_goto S453 (hb hby dHC3_28) (by decide) (pcT := 4) (by decide) ?_
          refine s_iloadN S453 (hb hby dHC3_4) rfl (pc' := 5) rfl ?_
          refine s_aloadN S453 (hb hby dHC3_5) rfl rfl (pc' := 6) rfl ?_
          show Go p e below _ (T453.setTop (mkF m 6 #[.val (.ref a), .val (.int (0 : Int32)), .val (.int (3 : Int32))] [(.ref a), (.int (3 : Int32))]))
          refine g_strLen S453 X F (w31 hw) (hb hby dHC3_6) (by rw [hml]; rfl) (Nat.le_of_ble_eq_true rfl) (Nat.le_of_ble_eq_true rfl) (Nat.le_of_ble_eq_true rfl) (Nat.le_of_ble_eq_true rfl) ?_
          intro T455 S455
          show Go p e below _ (T455.setTop (mkF m 9 #[.val (.ref a), .val (.int (0 : Int32)), .val (.int (3 : Int32))] [(.int (3 : Int32)), (.int (3 : Int32))]))
          refine s_icmpY S455 (hb hby dHC3_9) (by decide) (by decide) (pcT := 31) (by decide) ?_
          refine s_iloadN S455 (hb hby dHC3_31) rfl (pc' := 32) rfl ?_
          show Go p e below _ (T455.setTop (mkF m 32 #[.val (.ref a), .val (.int (0 : Int32)), .val (.int (3 : Int32))] [(.int (0 : Int32))]))
          exact g_iretN S455 (hb hby dHC3_32) hret (by simp) ⟨_, rfl, Or.inr ⟨rfl, (fun q => q.elim hr442 (fun q => q.elim hr447 hr452))⟩, rfl⟩
  · skip
    have f6 : ∀ c ∈ [c0, c1, c2], ¬ c < 0 ∧ ¬ (65535 : Int32) < c := by obtain ⟨t, kb, cd, N2, vs, -, -, -, -, -, q, -⟩ := F; exact q
    have lat : ∀ c ∈ [c0, c1, c2], ¬ (255 : Int32) < c := by simpa [not_or] using hnw
    show Go p e below _ (T0.setTop (mkF m 0 #[.val (.ref a), .unset, .unset] []))
    refine s_iconst S0 (hb hby dHC3_0) (v := (0 : Int32)) rfl (pc' := 1) rfl ?_
    refine s_istoreN S0 (hb hby dHC3_1) (L' := #[.val (.ref a), .val (.int (0 : Int32)), .unset]) rfl (pc' := 2) rfl ?_
    refine s_iconst S0 (hb hby dHC3_2) (v := (0 : Int32)) rfl (pc' := 3) rfl ?_
    refine s_istoreN S0 (hb hby dHC3_3) (L' := #[.val (.ref a), .val (.int (0 : Int32)), .val (.int (0 : Int32))]) rfl (pc' := 4) rfl ?_
    refine s_iloadN S0 (hb hby dHC3_4) rfl (pc' := 5) rfl ?_
    refine s_aloadN S0 (hb hby dHC3_5) rfl rfl (pc' := 6) rfl ?_
    show Go p e below _ (T0.setTop (mkF m 6 #[.val (.ref a), .val (.int (0 : Int32)), .val (.int (0 : Int32))] [(.ref a), (.int (0 : Int32))]))
    refine g_strLen S0 X F (w31 hw) (hb hby dHC3_6) (by rw [hml]; rfl) (Nat.le_of_ble_eq_true rfl) (Nat.le_of_ble_eq_true rfl) (Nat.le_of_ble_eq_true rfl) (Nat.le_of_ble_eq_true rfl) ?_
    intro T456 S456
    show Go p e below _ (T456.setTop (mkF m 9 #[.val (.ref a), .val (.int (0 : Int32)), .val (.int (0 : Int32))] [(.int (3 : Int32)), (.int (0 : Int32))]))
    refine s_icmpN S456 (hb hby dHC3_9) (by decide) (pc' := 12) rfl ?_
    refine s_iloadN S456 (hb hby dHC3_12) rfl (pc' := 13) rfl ?_
    refine s_ifN S456 (hb hby dHC3_13) (by decide) (pc' := 16) rfl ?_
    refine s_aloadN S456 (hb hby dHC3_16) rfl rfl (pc' := 17) rfl ?_
    refine s_iloadN S456 (hb hby dHC3_17) rfl (pc' := 18) rfl ?_
    show Go p e below _ (T456.setTop (mkF m 18 #[.val (.ref a), .val (.int (0 : Int32)), .val (.int (0 : Int32))] [(.int (0 : Int32)), (.ref a)]))
    refine g_strChar S456 X (i := 0) F lat (Nat.le_of_ble_eq_true rfl) rfl (w55 hw) (hb hby dHC3_18) (by rw [hml]; rfl) (Nat.le_of_ble_eq_true rfl) (Nat.le_of_ble_eq_true rfl) (Nat.le_of_ble_eq_true rfl) (Nat.le_of_ble_eq_true rfl) ?_
    intro T457 S457
    show Go p e below _ (T457.setTop (mkF m 21 #[.val (.ref a), .val (.int (0 : Int32)), .val (.int (0 : Int32))] [(.int c0)]))
    show Go p e below _ (T457.setTop (mkF m 21 #[.val (.ref a), .val (.int (0 : Int32)), .val (.int (0 : Int32))] [(.int c0)]))
    refine g_static S457 (rmID X S457.old (f6 c0 (by simp))) (fun _ q => nomatch q) (w77 hw) (w78 hw) (w79 hw) (w80 hw) (by decide) (hb hby dHC3_21) (by rw [hml]; rfl) [(.int c0)] (lenOf pd16 rfl) rfl rfl (Nat.le_of_ble_eq_true rfl) (Nat.le_of_ble_eq_true rfl) (Nat.le_of_ble_eq_true rfl) (Nat.le_of_ble_eq_true rfl) ?_
    intro v459 T459 V459 h459 S459 C459 q459
    obtain ⟨r458, rfl, hr458, rfl⟩ := q459
    rcases hr458 with ⟨rfl, hr458⟩ | ⟨rfl, hr458⟩
    · skip
      show Go p e below _ (T459.setTop (mkF m 24 #[.val (.ref a), .val (.int (0 : Int32)), .val (.int (0 : Int32))] [(.int (1 : Int32))]))
      refine s_istoreN S459 (hb hby dHC3_24) (L' := #[.val (.ref a), .val (.int (1 : Int32)), .val (.int (0 : Int32))]) rfl (pc' := 25) rfl ?_
      refine s_iinc S459 (hb hby dHC3_25) rfl (z := (1 : Int32)) rfl (L' := #[.val (.ref a), .val (.int (1 : Int32)), .val (.int (1 : Int32))]) rfl (pc' := 28) rfl ?_
      refine s_goto S459 (hb hby dHC3_28) (by decide) (pcT := 4) (by decide) ?_
      refine s_iloadN S459 (hb hby dHC3_4) rfl (pc' := 5) rfl ?_
      refine s_aloadN S459 (hb hby dHC3_5) rfl rfl (pc' := 6) rfl ?_
      show Go p e below _ (T459.setTop (mkF m 6 #[.val (.ref a), .val (.int (1 : Int32)), .val (.int (1 : Int32))] [(.ref a), (.int (1 : Int32))]))
      refine g_strLen S459 X F (w31 hw) (hb hby dHC3_6) (by rw [hml]; rfl) (Nat.le_of_ble_eq_true rfl) (Nat.le_of_ble_eq_true rfl) (Nat.le_of_ble_eq_true rfl) (Nat.le_of_ble_eq_true rfl) ?_
      intro T460 S460
      show Go p e below _ (T460.setTop (mkF m 9 #[.val (.ref a), .val (.int (1 : Int32)), .val (.int (1 : Int32))] [(.int (3 : Int32)), (.int (1 : Int32))]))
      refine s_icmpN S460 (hb hby dHC3_9) (by decide) (pc' := 12) rfl ?_
      refine s_iloadN S460 (hb hby dHC3_12) rfl (pc' := 13) rfl ?_
      refine s_ifY S460 (hb hby dHC3_13) (by decide) (by decide) (pcT := 31) (by decide) ?_
      refine s_iloadN S460 (hb hby dHC3_31) rfl (pc' := 32) rfl ?_
      show Go p e below _ (T460.setTop (mkF m 32 #[.val (.ref a), .val (.int (1 : Int32)), .val (.int (1 : Int32))] [(.int (1 : Int32))]))
      exact g_iretN S460 (hb hby dHC3_32) hret (by simp) ⟨_, rfl, Or.inl ⟨rfl, Or.inl hr458⟩, rfl⟩
    · skip
      show Go p e below _ (T459.setTop (mkF m 24 #[.val (.ref a), .val (.int (0 : Int32)), .val (.int (0 : Int32))] [(.int (0 : Int32))]))
      refine s_istoreN S459 (hb hby dHC3_24) (L' := #[.val (.ref a), .val (.int (0 : Int32)), .val (.int (0 : Int32))]) rfl (pc' := 25) rfl ?_
      refine s_iinc S459 (hb hby dHC3_25) rfl (z := (1 : Int32)) rfl (L' := #[.val (.ref a), .val (.int (0 : Int32)), .val (.int (1 : Int32))]) rfl (pc' := 28) rfl ?_
      refine s_goto S459 (hb hby dHC3_28) (by decide) (pcT := 4) (by decide) ?_
      refine s_iloadN S459 (hb hby dHC3_4) rfl (pc' := 5) rfl ?_
      refine s_aloadN S459 (hb hby dHC3_5) rfl rfl (pc' := 6) rfl ?_
      show Go p e below _ (T459.setTop (mkF m 6 #[.val (.ref a), .val (.int (0 : Int32)), .val (.int (1 : Int32))] [(.ref a), (.int (1 : Int32))]))
      refine g_strLen S459 X F (w31 hw) (hb hby dHC3_6) (by rw [hml]; rfl) (Nat.le_of_ble_eq_true rfl) (Nat.le_of_ble_eq_true rfl) (Nat.le_of_ble_eq_true rfl) (Nat.le_of_ble_eq_true rfl) ?_
      intro T461 S461
      show Go p e below _ (T461.setTop (mkF m 9 #[.val (.ref a), .val (.int (0 : Int32)), .val (.int (1 : Int32))] [(.int (3 : Int32)), (.int (1 : Int32))]))
      refine s_icmpN S461 (hb hby dHC3_9) (by decide) (pc' := 12) rfl ?_
      refine s_iloadN S461 (hb hby dHC3_12) rfl (pc' := 13) rfl ?_
      refine s_ifN S461 (hb hby dHC3_13) (by decide) (pc' := 16) rfl ?_
      refine s_aloadN S461 (hb hby dHC3_16) rfl rfl (pc' := 17) rfl ?_
      refine s_iloadN S461 (hb hby dHC3_17) rfl (pc' := 18) rfl ?_
      show Go p e below _ (T461.setTop (mkF m 18 #[.val (.ref a), .val (.int (0 : Int32)), .val (.int (1 : Int32))] [(.int (1 : Int32)), (.ref a)]))
      refine g_strChar S461 X (i := 1) F lat (Nat.le_of_ble_eq_true rfl) rfl (w55 hw) (hb hby dHC3_18) (by rw [hml]; rfl) (Nat.le_of_ble_eq_true rfl) (Nat.le_of_ble_eq_true rfl) (Nat.le_of_ble_eq_true rfl) (Nat.le_of_ble_eq_true rfl) ?_
      intro T462 S462
      show Go p e below _ (T462.setTop (mkF m 21 #[.val (.ref a), .val (.int (0 : Int32)), .val (.int (1 : Int32))] [(.int c1)]))
      show Go p e below _ (T462.setTop (mkF m 21 #[.val (.ref a), .val (.int (0 : Int32)), .val (.int (1 : Int32))] [(.int c1)]))
      refine g_static S462 (rmID X S462.old (f6 c1 (by simp))) (fun _ q => nomatch q) (w77 hw) (w78 hw) (w79 hw) (w80 hw) (by decide) (hb hby dHC3_21) (by rw [hml]; rfl) [(.int c1)] (lenOf pd16 rfl) rfl rfl (Nat.le_of_ble_eq_true rfl) (Nat.le_of_ble_eq_true rfl) (Nat.le_of_ble_eq_true rfl) (Nat.le_of_ble_eq_true rfl) ?_
      intro v464 T464 V464 h464 S464 C464 q464
      obtain ⟨r463, rfl, hr463, rfl⟩ := q464
      rcases hr463 with ⟨rfl, hr463⟩ | ⟨rfl, hr463⟩
      · skip
        show Go p e below _ (T464.setTop (mkF m 24 #[.val (.ref a), .val (.int (0 : Int32)), .val (.int (1 : Int32))] [(.int (1 : Int32))]))
        refine s_istoreN S464 (hb hby dHC3_24) (L' := #[.val (.ref a), .val (.int (1 : Int32)), .val (.int (1 : Int32))]) rfl (pc' := 25) rfl ?_
        refine s_iinc S464 (hb hby dHC3_25) rfl (z := (2 : Int32)) rfl (L' := #[.val (.ref a), .val (.int (1 : Int32)), .val (.int (2 : Int32))]) rfl (pc' := 28) rfl ?_
        refine s_goto S464 (hb hby dHC3_28) (by decide) (pcT := 4) (by decide) ?_
        refine s_iloadN S464 (hb hby dHC3_4) rfl (pc' := 5) rfl ?_
        refine s_aloadN S464 (hb hby dHC3_5) rfl rfl (pc' := 6) rfl ?_
        show Go p e below _ (T464.setTop (mkF m 6 #[.val (.ref a), .val (.int (1 : Int32)), .val (.int (2 : Int32))] [(.ref a), (.int (2 : Int32))]))
        refine g_strLen S464 X F (w31 hw) (hb hby dHC3_6) (by rw [hml]; rfl) (Nat.le_of_ble_eq_true rfl) (Nat.le_of_ble_eq_true rfl) (Nat.le_of_ble_eq_true rfl) (Nat.le_of_ble_eq_true rfl) ?_
        intro T465 S465
        show Go p e below _ (T465.setTop (mkF m 9 #[.val (.ref a), .val (.int (1 : Int32)), .val (.int (2 : Int32))] [(.int (3 : Int32)), (.int (2 : Int32))]))
        refine s_icmpN S465 (hb hby dHC3_9) (by decide) (pc' := 12) rfl ?_
        refine s_iloadN S465 (hb hby dHC3_12) rfl (pc' := 13) rfl ?_
        refine s_ifY S465 (hb hby dHC3_13) (by decide) (by decide) (pcT := 31) (by decide) ?_
        refine s_iloadN S465 (hb hby dHC3_31) rfl (pc' := 32) rfl ?_
        show Go p e below _ (T465.setTop (mkF m 32 #[.val (.ref a), .val (.int (1 : Int32)), .val (.int (2 : Int32))] [(.int (1 : Int32))]))
        exact g_iretN S465 (hb hby dHC3_32) hret (by simp) ⟨_, rfl, Or.inl ⟨rfl, Or.inr (Or.inl hr463)⟩, rfl⟩
      · skip
        show Go p e below _ (T464.setTop (mkF m 24 #[.val (.ref a), .val (.int (0 : Int32)), .val (.int (1 : Int32))] [(.int (0 : Int32))]))
        refine s_istoreN S464 (hb hby dHC3_24) (L' := #[.val (.ref a), .val (.int (0 : Int32)), .val (.int (1 : Int32))]) rfl (pc' := 25) rfl ?_
        refine s_iinc S464 (hb hby dHC3_25) rfl (z := (2 : Int32)) rfl (L' := #[.val (.ref a), .val (.int (0 : Int32)), .val (.int (2 : Int32))]) rfl (pc' := 28) rfl ?_
        refine s_goto S464 (hb hby dHC3_28) (by decide) (pcT := 4) (by decide) ?_
        refine s_iloadN S464 (hb hby dHC3_4) rfl (pc' := 5) rfl ?_
        refine s_aloadN S464 (hb hby dHC3_5) rfl rfl (pc' := 6) rfl ?_
        show Go p e below _ (T464.setTop (mkF m 6 #[.val (.ref a), .val (.int (0 : Int32)), .val (.int (2 : Int32))] [(.ref a), (.int (2 : Int32))]))
        refine g_strLen S464 X F (w31 hw) (hb hby dHC3_6) (by rw [hml]; rfl) (Nat.le_of_ble_eq_true rfl) (Nat.le_of_ble_eq_true rfl) (Nat.le_of_ble_eq_true rfl) (Nat.le_of_ble_eq_true rfl) ?_
        intro T466 S466
        show Go p e below _ (T466.setTop (mkF m 9 #[.val (.ref a), .val (.int (0 : Int32)), .val (.int (2 : Int32))] [(.int (3 : Int32)), (.int (2 : Int32))]))
        refine s_icmpN S466 (hb hby dHC3_9) (by decide) (pc' := 12) rfl ?_
        refine s_iloadN S466 (hb hby dHC3_12) rfl (pc' := 13) rfl ?_
        refine s_ifN S466 (hb hby dHC3_13) (by decide) (pc' := 16) rfl ?_
        refine s_aloadN S466 (hb hby dHC3_16) rfl rfl (pc' := 17) rfl ?_
        refine s_iloadN S466 (hb hby dHC3_17) rfl (pc' := 18) rfl ?_
        show Go p e below _ (T466.setTop (mkF m 18 #[.val (.ref a), .val (.int (0 : Int32)), .val (.int (2 : Int32))] [(.int (2 : Int32)), (.ref a)]))
        refine g_strChar S466 X (i := 2) F lat (Nat.le_of_ble_eq_true rfl) rfl (w55 hw) (hb hby dHC3_18) (by rw [hml]; rfl) (Nat.le_of_ble_eq_true rfl) (Nat.le_of_ble_eq_true rfl) (Nat.le_of_ble_eq_true rfl) (Nat.le_of_ble_eq_true rfl) ?_
        intro T467 S467
        show Go p e below _ (T467.setTop (mkF m 21 #[.val (.ref a), .val (.int (0 : Int32)), .val (.int (2 : Int32))] [(.int c2)]))
        show Go p e below _ (T467.setTop (mkF m 21 #[.val (.ref a), .val (.int (0 : Int32)), .val (.int (2 : Int32))] [(.int c2)]))
        refine g_static S467 (rmID X S467.old (f6 c2 (by simp))) (fun _ q => nomatch q) (w77 hw) (w78 hw) (w79 hw) (w80 hw) (by decide) (hb hby dHC3_21) (by rw [hml]; rfl) [(.int c2)] (lenOf pd16 rfl) rfl rfl (Nat.le_of_ble_eq_true rfl) (Nat.le_of_ble_eq_true rfl) (Nat.le_of_ble_eq_true rfl) (Nat.le_of_ble_eq_true rfl) ?_
        intro v469 T469 V469 h469 S469 C469 q469
        obtain ⟨r468, rfl, hr468, rfl⟩ := q469
        rcases hr468 with ⟨rfl, hr468⟩ | ⟨rfl, hr468⟩
        · skip
          show Go p e below _ (T469.setTop (mkF m 24 #[.val (.ref a), .val (.int (0 : Int32)), .val (.int (2 : Int32))] [(.int (1 : Int32))]))
          refine s_istoreN S469 (hb hby dHC3_24) (L' := #[.val (.ref a), .val (.int (1 : Int32)), .val (.int (2 : Int32))]) rfl (pc' := 25) rfl ?_
          refine s_iinc S469 (hb hby dHC3_25) rfl (z := (3 : Int32)) rfl (L' := #[.val (.ref a), .val (.int (1 : Int32)), .val (.int (3 : Int32))]) rfl (pc' := 28) rfl ?_
          refine s_goto S469 (hb hby dHC3_28) (by decide) (pcT := 4) (by decide) ?_
          refine s_iloadN S469 (hb hby dHC3_4) rfl (pc' := 5) rfl ?_
          refine s_aloadN S469 (hb hby dHC3_5) rfl rfl (pc' := 6) rfl ?_
          show Go p e below _ (T469.setTop (mkF m 6 #[.val (.ref a), .val (.int (1 : Int32)), .val (.int (3 : Int32))] [(.ref a), (.int (3 : Int32))]))
          refine g_strLen S469 X F (w31 hw) (hb hby dHC3_6) (by rw [hml]; rfl) (Nat.le_of_ble_eq_true rfl) (Nat.le_of_ble_eq_true rfl) (Nat.le_of_ble_eq_true rfl) (Nat.le_of_ble_eq_true rfl) ?_
          intro T470 S470
          show Go p e below _ (T470.setTop (mkF m 9 #[.val (.ref a), .val (.int (1 : Int32)), .val (.int (3 : Int32))] [(.int (3 : Int32)), (.int (3 : Int32))]))
          refine s_icmpY S470 (hb hby dHC3_9) (by decide) (by decide) (pcT := 31) (by decide) ?_
          refine s_iloadN S470 (hb hby dHC3_31) rfl (pc' := 32) rfl ?_
          show Go p e below _ (T470.setTop (mkF m 32 #[.val (.ref a), .val (.int (1 : Int32)), .val (.int (3 : Int32))] [(.int (1 : Int32))]))
          exact g_iretN S470 (hb hby dHC3_32) hret (by simp) ⟨_, rfl, Or.inl ⟨rfl, Or.inr (Or.inr (hr468))⟩, rfl⟩
        · skip
          show Go p e below _ (T469.setTop (mkF m 24 #[.val (.ref a), .val (.int (0 : Int32)), .val (.int (2 : Int32))] [(.int (0 : Int32))]))
          refine s_istoreN S469 (hb hby dHC3_24) (L' := #[.val (.ref a), .val (.int (0 : Int32)), .val (.int (2 : Int32))]) rfl (pc' := 25) rfl ?_
          refine s_iinc S469 (hb hby dHC3_25) rfl (z := (3 : Int32)) rfl (L' := #[.val (.ref a), .val (.int (0 : Int32)), .val (.int (3 : Int32))]) rfl (pc' := 28) rfl ?_
          refine s_goto S469 (hb hby dHC3_28) (by decide) (pcT := 4) (by decide) ?_
          refine s_iloadN S469 (hb hby dHC3_4) rfl (pc' := 5) rfl ?_
          refine s_aloadN S469 (hb hby dHC3_5) rfl rfl (pc' := 6) rfl ?_
          show Go p e below _ (T469.setTop (mkF m 6 #[.val (.ref a), .val (.int (0 : Int32)), .val (.int (3 : Int32))] [(.ref a), (.int (3 : Int32))]))
          refine g_strLen S469 X F (w31 hw) (hb hby dHC3_6) (by rw [hml]; rfl) (Nat.le_of_ble_eq_true rfl) (Nat.le_of_ble_eq_true rfl) (Nat.le_of_ble_eq_true rfl) (Nat.le_of_ble_eq_true rfl) ?_
          intro T471 S471
          show Go p e below _ (T471.setTop (mkF m 9 #[.val (.ref a), .val (.int (0 : Int32)), .val (.int (3 : Int32))] [(.int (3 : Int32)), (.int (3 : Int32))]))
          refine s_icmpY S471 (hb hby dHC3_9) (by decide) (by decide) (pcT := 31) (by decide) ?_
          refine s_iloadN S471 (hb hby dHC3_31) rfl (pc' := 32) rfl ?_
          show Go p e below _ (T471.setTop (mkF m 32 #[.val (.ref a), .val (.int (0 : Int32)), .val (.int (3 : Int32))] [(.int (0 : Int32))]))
          exact g_iretN S471 (hb hby dHC3_32) hret (by simp) ⟨_, rfl, Or.inr ⟨rfl, (fun q => q.elim hr458 (fun q => q.elim hr463 hr468))⟩, rfl⟩
end Jvm.Pilot.@@N@@

namespace Jvm.Pilot.@@N@@
open Jvm Jvm.ClassFile Sem Op Lib Jvm.Free Jvm.Stand Jvm.LawKit Jvm.RoadKit Jvm.OwnKit Bundle Jvm.Pilot.@@N@@.Jvm.D
set_option maxRecDepth 65536 in
set_option maxHeartbeats 40000000 in
theorem rmL {l : Launch} {Z : State} {a0 : Array Value} {n0 : Nat} (X : Ctx Z a0) (len xa xb xc : Int32) {h : Heap} (hO : Old Z n0 h)  :
    Ctr l Z EL1 n0 x code maxLocals ret room_1 #[(.int len), (.int xa), (.int xb), (.int xc)] h [] (fun v h' => v = some (.int 1) ∧ True) := by
  have hw := X.hw
  obtain ⟨z1, hz1, hz2⟩ := X.2.2.1
  refine Ctr.intro (a0 := a0) (plainFor_of_name pn3) hO X.ew ?_
  intro p e s m below meth c T0 V0 S0 hby hml hret hnm hsf
  rw [ef15]
  refine s_iloadN S0 (hb hby at_0) rfl (pc' := 1) rfl ?_
  refine s_iconst S0 (hb hby at_1) (v := (3 : Int32)) rfl (pc' := 2) rfl ?_
  refine s_iand S0 (hb hby at_2) (z := (len &&& (3 : Int32))) rfl (pc' := 3) rfl ?_
  generalize enn472 : (len &&& (3 : Int32)) = nn472
  refine s_istore S0 (hb hby at_3) (L' := #[.val (.int len), .val (.int xa), .val (.int xb), .val (.int xc), .val (.int nn472), .unset, .unset, .unset, .unset, .unset]) rfl (pc' := 5) rfl ?_
  rcases own_and3 len nn472 enn472 with rfl | rfl | rfl | rfl
  · skip
    show Go p e below _ (T0.setTop (mkF m 5 #[.val (.int len), .val (.int xa), .val (.int xb), .val (.int xc), .val (.int (0 : Int32)), .unset, .unset, .unset, .unset, .unset] []))
    refine s_iload S0 (hb hby at_5) rfl (pc' := 7) rfl ?_
    refine s_iconst S0 (hb hby at_7) (v := (3 : Int32)) rfl (pc' := 8) rfl ?_
    refine s_icmpY S0 (hb hby at_8) (by decide) (by decide) (pcT := 14) (by decide) ?_
    refine s_iloadN S0 (hb hby at_14) rfl (pc' := 15) rfl ?_
    refine g_ldcI S0 (w0 hw) (hb hby at_15) ?_
    show Go p e below _ (T0.setTop (mkF m 17 #[.val (.int len), .val (.int xa), .val (.int xb), .val (.int xc), .val (.int (0 : Int32)), .unset, .unset, .unset, .unset, .unset] [(.int (65535 : Int32)), (.int xa)]))
    refine s_iand S0 (hb hby at_17) (z := (xa &&& (65535 : Int32))) rfl (pc' := 18) rfl ?_
    refine s_i2c S0 (hb hby at_18) (z := ((xa &&& (65535 : Int32)).toUInt32.toUInt16.toUInt32.toInt32)) rfl (pc' := 19) rfl ?_
    generalize ec473 : ((xa &&& (65535 : Int32)).toUInt32.toUInt16.toUInt32.toInt32) = c473
    refine s_istore S0 (hb hby at_19) (L' := #[.val (.int len), .val (.int xa), .val (.int xb), .val (.int xc), .val (.int (0 : Int32)), .val (.int c473), .unset, .unset, .unset, .unset]) rfl (pc' := 21) rfl ?_
    have rc473 : ¬ c473 < 0 ∧ ¬ (65535 : Int32) < c473 := by rw [← ec473]; exact own_i2c _
    refine s_iloadN S0 (hb hby at_21) rfl (pc' := 22) rfl ?_
    refine g_ldcI S0 (w0 hw) (hb hby at_22) ?_
    show Go p e below _ (T0.setTop (mkF m 24 #[.val (.int len), .val (.int xa), .val (.int xb), .val (.int xc), .val (.int (0 : Int32)), .val (.int c473), .unset, .unset, .unset, .unset] [(.int (65535 : Int32)), (.int xb)]))
    refine s_iand S0 (hb hby at_24) (z := (xb &&& (65535 : Int32))) rfl (pc' := 25) rfl ?_
    refine s_i2c S0 (hb hby at_25) (z := ((xb &&& (65535 : Int32)).toUInt32.toUInt16.toUInt32.toInt32)) rfl (pc' := 26) rfl ?_
    generalize ec474 : ((xb &&& (65535 : Int32)).toUInt32.toUInt16.toUInt32.toInt32) = c474
    refine s_istore S0 (hb hby at_26) (L' := #[.val (.int len), .val (.int xa), .val (.int xb), .val (.int xc), .val (.int (0 : Int32)), .val (.int c473), .val (.int c474), .unset, .unset, .unset]) rfl (pc' := 28) rfl ?_
    have rc474 : ¬ c474 < 0 ∧ ¬ (65535 : Int32) < c474 := by rw [← ec474]; exact own_i2c _
    refine s_iloadN S0 (hb hby at_28) rfl (pc' := 29) rfl ?_
    refine g_ldcI S0 (w0 hw) (hb hby at_29) ?_
    show Go p e below _ (T0.setTop (mkF m 31 #[.val (.int len), .val (.int xa), .val (.int xb), .val (.int xc), .val (.int (0 : Int32)), .val (.int c473), .val (.int c474), .unset, .unset, .unset] [(.int (65535 : Int32)), (.int xc)]))
    refine s_iand S0 (hb hby at_31) (z := (xc &&& (65535 : Int32))) rfl (pc' := 32) rfl ?_
    refine s_i2c S0 (hb hby at_32) (z := ((xc &&& (65535 : Int32)).toUInt32.toUInt16.toUInt32.toInt32)) rfl (pc' := 33) rfl ?_
    generalize ec475 : ((xc &&& (65535 : Int32)).toUInt32.toUInt16.toUInt32.toInt32) = c475
    refine s_istore S0 (hb hby at_33) (L' := #[.val (.int len), .val (.int xa), .val (.int xb), .val (.int xc), .val (.int (0 : Int32)), .val (.int c473), .val (.int c474), .val (.int c475), .unset, .unset]) rfl (pc' := 35) rfl ?_
    have rc475 : ¬ c475 < 0 ∧ ¬ (65535 : Int32) < c475 := by rw [← ec475]; exact own_i2c _
    refine s_iload S0 (hb hby at_35) rfl (pc' := 37) rfl ?_
    refine s_iload S0 (hb hby at_37) rfl (pc' := 39) rfl ?_
    refine s_iload S0 (hb hby at_39) rfl (pc' := 41) rfl ?_
    refine s_iload S0 (hb hby at_41) rfl (pc' := 43) rfl ?_
    show Go p e below _ (T0.setTop (mkF m 43 #[.val (.int len), .val (.int xa), .val (.int xb), .val (.int xc), .val (.int (0 : Int32)), .val (.int c473), .val (.int c474), .val (.int c475), .unset, .unset] [(.int c475), (.int c474), (.int c473), (.int (0 : Int32))]))
    refine g_static S0 (rmBD0 X S0.old rc473 rc474 rc475) (fun _ q => nomatch q) (w1 hw) (w2 hw) (w3 hw) (w4 hw) (by decide) (hb hby at_43) (by rw [hml]; rfl) [(.int (0 : Int32)), (.int c473), (.int c474), (.int c475)] (lenOf pd17 rfl) rfl rfl (Nat.le_of_ble_eq_true rfl) (Nat.le_of_ble_eq_true rfl) (Nat.le_of_ble_eq_true rfl) (Nat.le_of_ble_eq_true rfl) ?_
    intro v476 T476 V476 h476 S476 C476 q476
    obtain ⟨a1, rfl, F1, E1⟩ := q476
    show Go p e below _ (T476.setTop (mkF m 46 #[.val (.int len), .val (.int xa), .val (.int xb), .val (.int xc), .val (.int (0 : Int32)), .val (.int c473), .val (.int c474), .val (.int c475), .unset, .unset] [(.ref a1)]))
    refine s_astore S476 (hb hby at_46) rfl (L' := #[.val (.int len), .val (.int xa), .val (.int xb), .val (.int xc), .val (.int (0 : Int32)), .val (.int c473), .val (.int c474), .val (.int c475), .val (.ref a1), .unset]) rfl (pc' := 48) rfl ?_
    refine s_iload S476 (hb hby at_48) rfl (pc' := 50) rfl ?_
    refine s_ifY S476 (hb hby at_50) (by decide) (by decide) (pcT := 61) (by decide) ?_
    refine s_iload S476 (hb hby at_61) rfl (pc' := 63) rfl ?_
    refine s_iconst S476 (hb hby at_63) (v := (1 : Int32)) rfl (pc' := 64) rfl ?_
    refine s_icmpY S476 (hb hby at_64) (by decide) (by decide) (pcT := 75) (by decide) ?_
    refine s_iload S476 (hb hby at_75) rfl (pc' := 77) rfl ?_
    refine s_iconst S476 (hb hby at_77) (v := (2 : Int32)) rfl (pc' := 78) rfl ?_
    refine s_icmpY S476 (hb hby at_78) (by decide) (by decide) (pcT := 93) (by decide) ?_
    refine s_iconst S476 (hb hby at_93) (v := (0 : Int32)) rfl (pc' := 94) rfl ?_
    refine s_istore S476 (hb hby at_94) (L' := #[.val (.int len), .val (.int xa), .val (.int xb), .val (.int xc), .val (.int (0 : Int32)), .val (.int c473), .val (.int c474), .val (.int c475), .val (.ref a1), .val (.int (0 : Int32))]) rfl (pc' := 96) rfl ?_
    refine s_aload S476 (hb hby at_96) rfl rfl (pc' := 98) rfl ?_
    show Go p e below _ (T476.setTop (mkF m 98 #[.val (.int len), .val (.int xa), .val (.int xb), .val (.int xc), .val (.int (0 : Int32)), .val (.int c473), .val (.int c474), .val (.int c475), .val (.ref a1), .val (.int (0 : Int32))] [(.ref a1)]))
    refine g_static S476 (rmHC0 X S476.old F1) (fun _ q => nomatch q) (w27 hw) (w28 hw) (w29 hw) (w30 hw) (by decide) (hb hby at_98) (by rw [hml]; rfl) [(.ref a1)] (lenOf pd18 rfl) rfl rfl (Nat.le_of_ble_eq_true rfl) (Nat.le_of_ble_eq_true rfl) (Nat.le_of_ble_eq_true rfl) (Nat.le_of_ble_eq_true rfl) ?_
    intro v478 T478 V478 h478 S478 C478 q478
    obtain ⟨g477, rfl, hg477, rfl⟩ := q478
    obtain rfl : g477 = 0 := hg477.elim (fun q => absurd q.2 (fun q => q)) (fun q => q.1)
    show Go p e below _ (T478.setTop (mkF m 101 #[.val (.int len), .val (.int xa), .val (.int xb), .val (.int xc), .val (.int (0 : Int32)), .val (.int c473), .val (.int c474), .val (.int c475), .val (.ref a1), .val (.int (0 : Int32))] [(.int (0 : Int32))]))
    refine s_iload S478 (hb hby at_101) rfl (pc' := 103) rfl ?_
    refine s_icmpN S478 (hb hby at_103) (by decide) (pc' := 106) rfl ?_
    refine s_iconst S478 (hb hby at_106) (v := (1 : Int32)) rfl (pc' := 107) rfl ?_
    refine s_goto S478 (hb hby at_107) (by decide) (pcT := 111) (by decide) ?_
    exact g_iretN S478 (hb hby at_111) hret (by simp) ⟨rfl, trivial⟩
  · skip
    show Go p e below _ (T0.setTop (mkF m 5 #[.val (.int len), .val (.int xa), .val (.int xb), .val (.int xc), .val (.int (1 : Int32)), .unset, .unset, .unset, .unset, .unset] []))
    refine s_iload S0 (hb hby at_5) rfl (pc' := 7) rfl ?_
    refine s_iconst S0 (hb hby at_7) (v := (3 : Int32)) rfl (pc' := 8) rfl ?_
    refine s_icmpY S0 (hb hby at_8) (by decide) (by decide) (pcT := 14) (by decide) ?_
    refine s_iloadN S0 (hb hby at_14) rfl (pc' := 15) rfl ?_
    refine g_ldcI S0 (w0 hw) (hb hby at_15) ?_
    show Go p e below _ (T0.setTop (mkF m 17 #[.val (.int len), .val (.int xa), .val (.int xb), .val (.int xc), .val (.int (1 : Int32)), .unset, .unset, .unset, .unset, .unset] [(.int (65535 : Int32)), (.int xa)]))
    refine s_iand S0 (hb hby at_17) (z := (xa &&& (65535 : Int32))) rfl (pc' := 18) rfl ?_
    refine s_i2c S0 (hb hby at_18) (z := ((xa &&& (65535 : Int32)).toUInt32.toUInt16.toUInt32.toInt32)) rfl (pc' := 19) rfl ?_
    generalize ec479 : ((xa &&& (65535 : Int32)).toUInt32.toUInt16.toUInt32.toInt32) = c479
    refine s_istore S0 (hb hby at_19) (L' := #[.val (.int len), .val (.int xa), .val (.int xb), .val (.int xc), .val (.int (1 : Int32)), .val (.int c479), .unset, .unset, .unset, .unset]) rfl (pc' := 21) rfl ?_
    have rc479 : ¬ c479 < 0 ∧ ¬ (65535 : Int32) < c479 := by rw [← ec479]; exact own_i2c _
    refine s_iloadN S0 (hb hby at_21) rfl (pc' := 22) rfl ?_
    refine g_ldcI S0 (w0 hw) (hb hby at_22) ?_
    show Go p e below _ (T0.setTop (mkF m 24 #[.val (.int len), .val (.int xa), .val (.int xb), .val (.int xc), .val (.int (1 : Int32)), .val (.int c479), .unset, .unset, .unset, .unset] [(.int (65535 : Int32)), (.int xb)]))
    refine s_iand S0 (hb hby at_24) (z := (xb &&& (65535 : Int32))) rfl (pc' := 25) rfl ?_
    refine s_i2c S0 (hb hby at_25) (z := ((xb &&& (65535 : Int32)).toUInt32.toUInt16.toUInt32.toInt32)) rfl (pc' := 26) rfl ?_
    generalize ec480 : ((xb &&& (65535 : Int32)).toUInt32.toUInt16.toUInt32.toInt32) = c480
    refine s_istore S0 (hb hby at_26) (L' := #[.val (.int len), .val (.int xa), .val (.int xb), .val (.int xc), .val (.int (1 : Int32)), .val (.int c479), .val (.int c480), .unset, .unset, .unset]) rfl (pc' := 28) rfl ?_
    have rc480 : ¬ c480 < 0 ∧ ¬ (65535 : Int32) < c480 := by rw [← ec480]; exact own_i2c _
    refine s_iloadN S0 (hb hby at_28) rfl (pc' := 29) rfl ?_
    refine g_ldcI S0 (w0 hw) (hb hby at_29) ?_
    show Go p e below _ (T0.setTop (mkF m 31 #[.val (.int len), .val (.int xa), .val (.int xb), .val (.int xc), .val (.int (1 : Int32)), .val (.int c479), .val (.int c480), .unset, .unset, .unset] [(.int (65535 : Int32)), (.int xc)]))
    refine s_iand S0 (hb hby at_31) (z := (xc &&& (65535 : Int32))) rfl (pc' := 32) rfl ?_
    refine s_i2c S0 (hb hby at_32) (z := ((xc &&& (65535 : Int32)).toUInt32.toUInt16.toUInt32.toInt32)) rfl (pc' := 33) rfl ?_
    generalize ec481 : ((xc &&& (65535 : Int32)).toUInt32.toUInt16.toUInt32.toInt32) = c481
    refine s_istore S0 (hb hby at_33) (L' := #[.val (.int len), .val (.int xa), .val (.int xb), .val (.int xc), .val (.int (1 : Int32)), .val (.int c479), .val (.int c480), .val (.int c481), .unset, .unset]) rfl (pc' := 35) rfl ?_
    have rc481 : ¬ c481 < 0 ∧ ¬ (65535 : Int32) < c481 := by rw [← ec481]; exact own_i2c _
    refine s_iload S0 (hb hby at_35) rfl (pc' := 37) rfl ?_
    refine s_iload S0 (hb hby at_37) rfl (pc' := 39) rfl ?_
    refine s_iload S0 (hb hby at_39) rfl (pc' := 41) rfl ?_
    refine s_iload S0 (hb hby at_41) rfl (pc' := 43) rfl ?_
    show Go p e below _ (T0.setTop (mkF m 43 #[.val (.int len), .val (.int xa), .val (.int xb), .val (.int xc), .val (.int (1 : Int32)), .val (.int c479), .val (.int c480), .val (.int c481), .unset, .unset] [(.int c481), (.int c480), (.int c479), (.int (1 : Int32))]))
    refine g_static S0 (rmBD1 X S0.old rc479 rc480 rc481) (fun _ q => nomatch q) (w1 hw) (w2 hw) (w3 hw) (w4 hw) (by decide) (hb hby at_43) (by rw [hml]; rfl) [(.int (1 : Int32)), (.int c479), (.int c480), (.int c481)] (lenOf pd17 rfl) rfl rfl (Nat.le_of_ble_eq_true rfl) (Nat.le_of_ble_eq_true rfl) (Nat.le_of_ble_eq_true rfl) (Nat.le_of_ble_eq_true rfl) ?_
    intro v482 T482 V482 h482 S482 C482 q482
    obtain ⟨a1, rfl, F1, E1⟩ := q482
    show Go p e below _ (T482.setTop (mkF m 46 #[.val (.int len), .val (.int xa), .val (.int xb), .val (.int xc), .val (.int (1 : Int32)), .val (.int c479), .val (.int c480), .val (.int c481), .unset, .unset] [(.ref a1)]))
    refine s_astore S482 (hb hby at_46) rfl (L' := #[.val (.int len), .val (.int xa), .val (.int xb), .val (.int xc), .val (.int (1 : Int32)), .val (.int c479), .val (.int c480), .val (.int c481), .val (.ref a1), .unset]) rfl (pc' := 48) rfl ?_
    refine s_iload S482 (hb hby at_48) rfl (pc' := 50) rfl ?_
    refine s_ifN S482 (hb hby at_50) (by decide) (pc' := 53) rfl ?_
    refine s_iload S482 (hb hby at_53) rfl (pc' := 55) rfl ?_
    show Go p e below _ (T482.setTop (mkF m 55 #[.val (.int len), .val (.int xa), .val (.int xb), .val (.int xc), .val (.int (1 : Int32)), .val (.int c479), .val (.int c480), .val (.int c481), .val (.ref a1), .unset] [(.int c479)]))
    refine g_static S482 (rmCT X c479 S482.old) (fun _ q => nomatch q) (w52 hw) (w53 hw) (w3 hw) (w54 hw) (by decide) (hb hby at_55) (by rw [hml]; rfl) [(.int c479)] (lenOf pd16 rfl) rfl rfl (Nat.le_of_ble_eq_true rfl) (Nat.le_of_ble_eq_true rfl) (Nat.le_of_ble_eq_true rfl) (Nat.le_of_ble_eq_true rfl) ?_
    intro v484 T484 V484 h484 S484 C484 q484
    obtain ⟨r483, rfl, hr483, rfl⟩ := q484
    rcases hr483 with ⟨rfl, hr483⟩ | ⟨rfl, hr483⟩
    · skip
      show Go p e below _ (T484.setTop (mkF m 58 #[.val (.int len), .val (.int xa), .val (.int xb), .val (.int xc), .val (.int (1 : Int32)), .val (.int c479), .val (.int c480), .val (.int c481), .val (.ref a1), .unset] [(.int (1 : Int32))]))
      refine s_ifY S484 (hb hby at_58) (by decide) (by decide) (pcT := 89) (by decide) ?_
      refine s_iconst S484 (hb hby at_89) (v := (1 : Int32)) rfl (pc' := 90) rfl ?_
      refine s_goto S484 (hb hby at_90) (by decide) (pcT := 94) (by decide) ?_
      refine s_istore S484 (hb hby at_94) (L' := #[.val (.int len), .val (.int xa), .val (.int xb), .val (.int xc), .val (.int (1 : Int32)), .val (.int c479), .val (.int c480), .val (.int c481), .val (.ref a1), .val (.int (1 : Int32))]) rfl (pc' := 96) rfl ?_
      refine s_aload S484 (hb hby at_96) rfl rfl (pc' := 98) rfl ?_
      show Go p e below _ (T484.setTop (mkF m 98 #[.val (.int len), .val (.int xa), .val (.int xb), .val (.int xc), .val (.int (1 : Int32)), .val (.int c479), .val (.int c480), .val (.int c481), .val (.ref a1), .val (.int (1 : Int32))] [(.ref a1)]))
      refine g_static S484 (rmHC1 X S484.old F1) (fun _ q => nomatch q) (w27 hw) (w28 hw) (w29 hw) (w30 hw) (by decide) (hb hby at_98) (by rw [hml]; rfl) [(.ref a1)] (lenOf pd18 rfl) rfl rfl (Nat.le_of_ble_eq_true rfl) (Nat.le_of_ble_eq_true rfl) (Nat.le_of_ble_eq_true rfl) (Nat.le_of_ble_eq_true rfl) ?_
      intro v486 T486 V486 h486 S486 C486 q486
      obtain ⟨g485, rfl, hg485, rfl⟩ := q486
      obtain rfl : g485 = 1 := hg485.elim (fun q => q.1) (fun q => absurd (hr483) q.2)
      show Go p e below _ (T486.setTop (mkF m 101 #[.val (.int len), .val (.int xa), .val (.int xb), .val (.int xc), .val (.int (1 : Int32)), .val (.int c479), .val (.int c480), .val (.int c481), .val (.ref a1), .val (.int (1 : Int32))] [(.int (1 : Int32))]))
      refine s_iload S486 (hb hby at_101) rfl (pc' := 103) rfl ?_
      refine s_icmpN S486 (hb hby at_103) (by decide) (pc' := 106) rfl ?_
      refine s_iconst S486 (hb hby at_106) (v := (1 : Int32)) rfl (pc' := 107) rfl ?_
      refine s_goto S486 (hb hby at_107) (by decide) (pcT := 111) (by decide) ?_
      exact g_iretN S486 (hb hby at_111) hret (by simp) ⟨rfl, trivial⟩
    · skip
      show Go p e below _ (T484.setTop (mkF m 58 #[.val (.int len), .val (.int xa), .val (.int xb), .val (.int xc), .val (.int (1 : Int32)), .val (.int c479), .val (.int c480), .val (.int c481), .val (.ref a1), .unset] [(.int (0 : Int32))]))
      refine s_ifN S484 (hb hby at_58) (by decide) (pc' := 61) rfl ?_
      refine s_iload S484 (hb hby at_61) rfl (pc' := 63) rfl ?_
      refine s_iconst S484 (hb hby at_63) (v := (1 : Int32)) rfl (pc' := 64) rfl ?_
      refine s_icmpY S484 (hb hby at_64) (by decide) (by decide) (pcT := 75) (by decide) ?_
      refine s_iload S484 (hb hby at_75) rfl (pc' := 77) rfl ?_
      refine s_iconst S484 (hb hby at_77) (v := (2 : Int32)) rfl (pc' := 78) rfl ?_
      refine s_icmpY S484 (hb hby at_78) (by decide) (by decide) (pcT := 93) (by decide) ?_
      refine s_iconst S484 (hb hby at_93) (v := (0 : Int32)) rfl (pc' := 94) rfl ?_
      refine s_istore S484 (hb hby at_94) (L' := #[.val (.int len), .val (.int xa), .val (.int xb), .val (.int xc), .val (.int (1 : Int32)), .val (.int c479), .val (.int c480), .val (.int c481), .val (.ref a1), .val (.int (0 : Int32))]) rfl (pc' := 96) rfl ?_
      refine s_aload S484 (hb hby at_96) rfl rfl (pc' := 98) rfl ?_
      show Go p e below _ (T484.setTop (mkF m 98 #[.val (.int len), .val (.int xa), .val (.int xb), .val (.int xc), .val (.int (1 : Int32)), .val (.int c479), .val (.int c480), .val (.int c481), .val (.ref a1), .val (.int (0 : Int32))] [(.ref a1)]))
      refine g_static S484 (rmHC1 X S484.old F1) (fun _ q => nomatch q) (w27 hw) (w28 hw) (w29 hw) (w30 hw) (by decide) (hb hby at_98) (by rw [hml]; rfl) [(.ref a1)] (lenOf pd18 rfl) rfl rfl (Nat.le_of_ble_eq_true rfl) (Nat.le_of_ble_eq_true rfl) (Nat.le_of_ble_eq_true rfl) (Nat.le_of_ble_eq_true rfl) ?_
      intro v488 T488 V488 h488 S488 C488 q488
      obtain ⟨g487, rfl, hg487, rfl⟩ := q488
      obtain rfl : g487 = 0 := hg487.elim (fun q => absurd q.2 (hr483)) (fun q => q.1)
      show Go p e below _ (T488.setTop (mkF m 101 #[.val (.int len), .val (.int xa), .val (.int xb), .val (.int xc), .val (.int (1 : Int32)), .val (.int c479), .val (.int c480), .val (.int c481), .val (.ref a1), .val (.int (0 : Int32))] [(.int (0 : Int32))]))
      refine s_iload S488 (hb hby at_101) rfl (pc' := 103) rfl ?_
      refine s_icmpN S488 (hb hby at_103) (by decide) (pc' := 106) rfl ?_
      refine s_iconst S488 (hb hby at_106) (v := (1 : Int32)) rfl (pc' := 107) rfl ?_
      refine s_goto S488 (hb hby at_107) (by decide) (pcT := 111) (by decide) ?_
      exact g_iretN S488 (hb hby at_111) hret (by simp) ⟨rfl, trivial⟩
  · skip
    show Go p e below _ (T0.setTop (mkF m 5 #[.val (.int len), .val (.int xa), .val (.int xb), .val (.int xc), .val (.int (2 : Int32)), .unset, .unset, .unset, .unset, .unset] []))
    refine s_iload S0 (hb hby at_5) rfl (pc' := 7) rfl ?_
    refine s_iconst S0 (hb hby at_7) (v := (3 : Int32)) rfl (pc' := 8) rfl ?_
    refine s_icmpY S0 (hb hby at_8) (by decide) (by decide) (pcT := 14) (by decide) ?_
    refine s_iloadN S0 (hb hby at_14) rfl (pc' := 15) rfl ?_
    refine g_ldcI S0 (w0 hw) (hb hby at_15) ?_
    show Go p e below _ (T0.setTop (mkF m 17 #[.val (.int len), .val (.int xa), .val (.int xb), .val (.int xc), .val (.int (2 : Int32)), .unset, .unset, .unset, .unset, .unset] [(.int (65535 : Int32)), (.int xa)]))
    refine s_iand S0 (hb hby at_17) (z := (xa &&& (65535 : Int32))) rfl (pc' := 18) rfl ?_
    refine s_i2c S0 (hb hby at_18) (z := ((xa &&& (65535 : Int32)).toUInt32.toUInt16.toUInt32.toInt32)) rfl (pc' := 19) rfl ?_
    generalize ec489 : ((xa &&& (65535 : Int32)).toUInt32.toUInt16.toUInt32.toInt32) = c489
    refine s_istore S0 (hb hby at_19) (L' := #[.val (.int len), .val (.int xa), .val (.int xb), .val (.int xc), .val (.int (2 : Int32)), .val (.int c489), .unset, .unset, .unset, .unset]) rfl (pc' := 21) rfl ?_
    have rc489 : ¬ c489 < 0 ∧ ¬ (65535 : Int32) < c489 := by rw [← ec489]; exact own_i2c _
    refine s_iloadN S0 (hb hby at_21) rfl (pc' := 22) rfl ?_
    refine g_ldcI S0 (w0 hw) (hb hby at_22) ?_
    show Go p e below _ (T0.setTop (mkF m 24 #[.val (.int len), .val (.int xa), .val (.int xb), .val (.int xc), .val (.int (2 : Int32)), .val (.int c489), .unset, .unset, .unset, .unset] [(.int (65535 : Int32)), (.int xb)]))
    refine s_iand S0 (hb hby at_24) (z := (xb &&& (65535 : Int32))) rfl (pc' := 25) rfl ?_
    refine s_i2c S0 (hb hby at_25) (z := ((xb &&& (65535 : Int32)).toUInt32.toUInt16.toUInt32.toInt32)) rfl (pc' := 26) rfl ?_
    generalize ec490 : ((xb &&& (65535 : Int32)).toUInt32.toUInt16.toUInt32.toInt32) = c490
    refine s_istore S0 (hb hby at_26) (L' := #[.val (.int len), .val (.int xa), .val (.int xb), .val (.int xc), .val (.int (2 : Int32)), .val (.int c489), .val (.int c490), .unset, .unset, .unset]) rfl (pc' := 28) rfl ?_
    have rc490 : ¬ c490 < 0 ∧ ¬ (65535 : Int32) < c490 := by rw [← ec490]; exact own_i2c _
    refine s_iloadN S0 (hb hby at_28) rfl (pc' := 29) rfl ?_
    refine g_ldcI S0 (w0 hw) (hb hby at_29) ?_
    show Go p e below _ (T0.setTop (mkF m 31 #[.val (.int len), .val (.int xa), .val (.int xb), .val (.int xc), .val (.int (2 : Int32)), .val (.int c489), .val (.int c490), .unset, .unset, .unset] [(.int (65535 : Int32)), (.int xc)]))
    refine s_iand S0 (hb hby at_31) (z := (xc &&& (65535 : Int32))) rfl (pc' := 32) rfl ?_
    refine s_i2c S0 (hb hby at_32) (z := ((xc &&& (65535 : Int32)).toUInt32.toUInt16.toUInt32.toInt32)) rfl (pc' := 33) rfl ?_
    generalize ec491 : ((xc &&& (65535 : Int32)).toUInt32.toUInt16.toUInt32.toInt32) = c491
    refine s_istore S0 (hb hby at_33) (L' := #[.val (.int len), .val (.int xa), .val (.int xb), .val (.int xc), .val (.int (2 : Int32)), .val (.int c489), .val (.int c490), .val (.int c491), .unset, .unset]) rfl (pc' := 35) rfl ?_
    have rc491 : ¬ c491 < 0 ∧ ¬ (65535 : Int32) < c491 := by rw [← ec491]; exact own_i2c _
    refine s_iload S0 (hb hby at_35) rfl (pc' := 37) rfl ?_
    refine s_iload S0 (hb hby at_37) rfl (pc' := 39) rfl ?_
    refine s_iload S0 (hb hby at_39) rfl (pc' := 41) rfl ?_
    refine s_iload S0 (hb hby at_41) rfl (pc' := 43) rfl ?_
    show Go p e below _ (T0.setTop (mkF m 43 #[.val (.int len), .val (.int xa), .val (.int xb), .val (.int xc), .val (.int (2 : Int32)), .val (.int c489), .val (.int c490), .val (.int c491), .unset, .unset] [(.int c491), (.int c490), (.int c489), (.int (2 : Int32))]))
    refine g_static S0 (rmBD2 X S0.old rc489 rc490 rc491) (fun _ q => nomatch q) (w1 hw) (w2 hw) (w3 hw) (w4 hw) (by decide) (hb hby at_43) (by rw [hml]; rfl) [(.int (2 : Int32)), (.int c489), (.int c490), (.int c491)] (lenOf pd17 rfl) rfl rfl (Nat.le_of_ble_eq_true rfl) (Nat.le_of_ble_eq_true rfl) (Nat.le_of_ble_eq_true rfl) (Nat.le_of_ble_eq_true rfl) ?_
    intro v492 T492 V492 h492 S492 C492 q492
    obtain ⟨a1, rfl, F1, E1⟩ := q492
    show Go p e below _ (T492.setTop (mkF m 46 #[.val (.int len), .val (.int xa), .val (.int xb), .val (.int xc), .val (.int (2 : Int32)), .val (.int c489), .val (.int c490), .val (.int c491), .unset, .unset] [(.ref a1)]))
    refine s_astore S492 (hb hby at_46) rfl (L' := #[.val (.int len), .val (.int xa), .val (.int xb), .val (.int xc), .val (.int (2 : Int32)), .val (.int c489), .val (.int c490), .val (.int c491), .val (.ref a1), .unset]) rfl (pc' := 48) rfl ?_
    refine s_iload S492 (hb hby at_48) rfl (pc' := 50) rfl ?_
    refine s_ifN S492 (hb hby at_50) (by decide) (pc' := 53) rfl ?_
    refine s_iload S492 (hb hby at_53) rfl (pc' := 55) rfl ?_
    show Go p e below _ (T492.setTop (mkF m 55 #[.val (.int len), .val (.int xa), .val (.int xb), .val (.int xc), .val (.int (2 : Int32)), .val (.int c489), .val (.int c490), .val (.int c491), .val (.ref a1), .unset] [(.int c489)]))
    refine g_static S492 (rmCT X c489 S492.old) (fun _ q => nomatch q) (w52 hw) (w53 hw) (w3 hw) (w54 hw) (by decide) (hb hby at_55) (by rw [hml]; rfl) [(.int c489)] (lenOf pd16 rfl) rfl rfl (Nat.le_of_ble_eq_true rfl) (Nat.le_of_ble_eq_true rfl) (Nat.le_of_ble_eq_true rfl) (Nat.le_of_ble_eq_true rfl) ?_
    intro v494 T494 V494 h494 S494 C494 q494
    obtain ⟨r493, rfl, hr493, rfl⟩ := q494
    rcases hr493 with ⟨rfl, hr493⟩ | ⟨rfl, hr493⟩
    · skip
      show Go p e below _ (T494.setTop (mkF m 58 #[.val (.int len), .val (.int xa), .val (.int xb), .val (.int xc), .val (.int (2 : Int32)), .val (.int c489), .val (.int c490), .val (.int c491), .val (.ref a1), .unset] [(.int (1 : Int32))]))
      refine s_ifY S494 (hb hby at_58) (by decide) (by decide) (pcT := 89) (by decide) ?_
      refine s_iconst S494 (hb hby at_89) (v := (1 : Int32)) rfl (pc' := 90) rfl ?_
      refine s_goto S494 (hb hby at_90) (by decide) (pcT := 94) (by decide) ?_
      refine s_istore S494 (hb hby at_94) (L' := #[.val (.int len), .val (.int xa), .val (.int xb), .val (.int xc), .val (.int (2 : Int32)), .val (.int c489), .val (.int c490), .val (.int c491), .val (.ref a1), .val (.int (1 : Int32))]) rfl (pc' := 96) rfl ?_
      refine s_aload S494 (hb hby at_96) rfl rfl (pc' := 98) rfl ?_
      show Go p e below _ (T494.setTop (mkF m 98 #[.val (.int len), .val (.int xa), .val (.int xb), .val (.int xc), .val (.int (2 : Int32)), .val (.int c489), .val (.int c490), .val (.int c491), .val (.ref a1), .val (.int (1 : Int32))] [(.ref a1)]))
      refine g_static S494 (rmHC2 X S494.old F1) (fun _ q => nomatch q) (w27 hw) (w28 hw) (w29 hw) (w30 hw) (by decide) (hb hby at_98) (by rw [hml]; rfl) [(.ref a1)] (lenOf pd18 rfl) rfl rfl (Nat.le_of_ble_eq_true rfl) (Nat.le_of_ble_eq_true rfl) (Nat.le_of_ble_eq_true rfl) (Nat.le_of_ble_eq_true rfl) ?_
      intro v496 T496 V496 h496 S496 C496 q496
      obtain ⟨g495, rfl, hg495, rfl⟩ := q496
      obtain rfl : g495 = 1 := hg495.elim (fun q => q.1) (fun q => absurd (Or.inl hr493) q.2)
      show Go p e below _ (T496.setTop (mkF m 101 #[.val (.int len), .val (.int xa), .val (.int xb), .val (.int xc), .val (.int (2 : Int32)), .val (.int c489), .val (.int c490), .val (.int c491), .val (.ref a1), .val (.int (1 : Int32))] [(.int (1 : Int32))]))
      refine s_iload S496 (hb hby at_101) rfl (pc' := 103) rfl ?_
      refine s_icmpN S496 (hb hby at_103) (by decide) (pc' := 106) rfl ?_
      refine s_iconst S496 (hb hby at_106) (v := (1 : Int32)) rfl (pc' := 107) rfl ?_
      refine s_goto S496 (hb hby at_107) (by decide) (pcT := 111) (by decide) ?_
      exact g_iretN S496 (hb hby at_111) hret (by simp) ⟨rfl, trivial⟩
    · skip
      show Go p e below _ (T494.setTop (mkF m 58 #[.val (.int len), .val (.int xa), .val (.int xb), .val (.int xc), .val (.int (2 : Int32)), .val (.int c489), .val (.int c490), .val (.int c491), .val (.ref a1), .unset] [(.int (0 : Int32))]))
      refine s_ifN S494 (hb hby at_58) (by decide) (pc' := 61) rfl ?_
      refine s_iload S494 (hb hby at_61) rfl (pc' := 63) rfl ?_
      refine s_iconst S494 (hb hby at_63) (v := (1 : Int32)) rfl (pc' := 64) rfl ?_
      refine s_icmpN S494 (hb hby at_64) (by decide) (pc' := 67) rfl ?_
      refine s_iload S494 (hb hby at_67) rfl (pc' := 69) rfl ?_
      show Go p e below _ (T494.setTop (mkF m 69 #[.val (.int len), .val (.int xa), .val (.int xb), .val (.int xc), .val (.int (2 : Int32)), .val (.int c489), .val (.int c490), .val (.int c491), .val (.ref a1), .unset] [(.int c490)]))
      refine g_static S494 (rmCT X c490 S494.old) (fun _ q => nomatch q) (w52 hw) (w53 hw) (w3 hw) (w54 hw) (by decide) (hb hby at_69) (by rw [hml]; rfl) [(.int c490)] (lenOf pd16 rfl) rfl rfl (Nat.le_of_ble_eq_true rfl) (Nat.le_of_ble_eq_true rfl) (Nat.le_of_ble_eq_true rfl) (Nat.le_of_ble_eq_true rfl) ?_
      intro v498 T498 V498 h498 S498 C498 q498
      obtain ⟨r497, rfl, hr497, rfl⟩ := q498
      rcases hr497 with ⟨rfl, hr497⟩ | ⟨rfl, hr497⟩
      · skip
        show Go p e below _ (T498.setTop (mkF m 72 #[.val (.int len), .val (.int xa), .val (.int xb), .val (.int xc), .val (.int (2 : Int32)), .val (.int c489), .val (.int c490), .val (.int c491), .val (.ref a1), .unset] [(.int (1 : Int32))]))
        refine s_ifY S498 (hb hby at_72) (by decide) (by decide) (pcT := 89) (by decide) ?_
        refine s_iconst S498 (hb hby at_89) (v := (1 : Int32)) rfl (pc' := 90) rfl ?_
        refine s_goto S498 (hb hby at_90) (by decide) (pcT := 94) (by decide) ?_
        refine s_istore S498 (hb hby at_94) (L' := #[.val (.int len), .val (.int xa), .val (.int xb), .val (.int xc), .val (.int (2 : Int32)), .val (.int c489), .val (.int c490), .val (.int c491), .val (.ref a1), .val (.int (1 : Int32))]) rfl (pc' := 96) rfl ?_
        refine s_aload S498 (hb hby at_96) rfl rfl (pc' := 98) rfl ?_
        show Go p e below _ (T498.setTop (mkF m 98 #[.val (.int len), .val (.int xa), .val (.int xb), .val (.int xc), .val (.int (2 : Int32)), .val (.int c489), .val (.int c490), .val (.int c491), .val (.ref a1), .val (.int (1 : Int32))] [(.ref a1)]))
        refine g_static S498 (rmHC2 X S498.old F1) (fun _ q => nomatch q) (w27 hw) (w28 hw) (w29 hw) (w30 hw) (by decide) (hb hby at_98) (by rw [hml]; rfl) [(.ref a1)] (lenOf pd18 rfl) rfl rfl (Nat.le_of_ble_eq_true rfl) (Nat.le_of_ble_eq_true rfl) (Nat.le_of_ble_eq_true rfl) (Nat.le_of_ble_eq_true rfl) ?_
        intro v500 T500 V500 h500 S500 C500 q500
        obtain ⟨g499, rfl, hg499, rfl⟩ := q500
        obtain rfl : g499 = 1 := hg499.elim (fun q => q.1) (fun q => absurd (Or.inr (hr497)) q.2)
        show Go p e below _ (T500.setTop (mkF m 101 #[.val (.int len), .val (.int xa), .val (.int xb), .val (.int xc), .val (.int (2 : Int32)), .val (.int c489), .val (.int c490), .val (.int c491), .val (.ref a1), .val (.int (1 : Int32))] [(.int (1 : Int32))]))
        refine s_iload S500 (hb hby at_101) rfl (pc' := 103) rfl ?_
        refine s_icmpN S500 (hb hby at_103) (by decide) (pc' := 106) rfl ?_
        refine s_iconst S500 (hb hby at_106) (v := (1 : Int32)) rfl (pc' := 107) rfl ?_
        refine s_goto S500 (hb hby at_107) (by decide) (pcT := 111) (by decide) ?_
        exact g_iretN S500 (hb hby at_111) hret (by simp) ⟨rfl, trivial⟩
      · skip
        show Go p e below _ (T498.setTop (mkF m 72 #[.val (.int len), .val (.int xa), .val (.int xb), .val (.int xc), .val (.int (2 : Int32)), .val (.int c489), .val (.int c490), .val (.int c491), .val (.ref a1), .unset] [(.int (0 : Int32))]))
        refine s_ifN S498 (hb hby at_72) (by decide) (pc' := 75) rfl ?_
        refine s_iload S498 (hb hby at_75) rfl (pc' := 77) rfl ?_
        refine s_iconst S498 (hb hby at_77) (v := (2 : Int32)) rfl (pc' := 78) rfl ?_
        refine s_icmpY S498 (hb hby at_78) (by decide) (by decide) (pcT := 93) (by decide) ?_
        refine s_iconst S498 (hb hby at_93) (v := (0 : Int32)) rfl (pc' := 94) rfl ?_
        refine s_istore S498 (hb hby at_94) (L' := #[.val (.int len), .val (.int xa), .val (.int xb), .val (.int xc), .val (.int (2 : Int32)), .val (.int c489), .val (.int c490), .val (.int c491), .val (.ref a1), .val (.int (0 : Int32))]) rfl (pc' := 96) rfl ?_
        refine s_aload S498 (hb hby at_96) rfl rfl (pc' := 98) rfl ?_
        show Go p e below _ (T498.setTop (mkF m 98 #[.val (.int len), .val (.int xa), .val (.int xb), .val (.int xc), .val (.int (2 : Int32)), .val (.int c489), .val (.int c490), .val (.int c491), .val (.ref a1), .val (.int (0 : Int32))] [(.ref a1)]))
        refine g_static S498 (rmHC2 X S498.old F1) (fun _ q => nomatch q) (w27 hw) (w28 hw) (w29 hw) (w30 hw) (by decide) (hb hby at_98) (by rw [hml]; rfl) [(.ref a1)] (lenOf pd18 rfl) rfl rfl (Nat.le_of_ble_eq_true rfl) (Nat.le_of_ble_eq_true rfl) (Nat.le_of_ble_eq_true rfl) (Nat.le_of_ble_eq_true rfl) ?_
        intro v502 T502 V502 h502 S502 C502 q502
        obtain ⟨g501, rfl, hg501, rfl⟩ := q502
        obtain rfl : g501 = 0 := hg501.elim (fun q => absurd q.2 ((fun q => q.elim hr493 hr497))) (fun q => q.1)
        show Go p e below _ (T502.setTop (mkF m 101 #[.val (.int len), .val (.int xa), .val (.int xb), .val (.int xc), .val (.int (2 : Int32)), .val (.int c489), .val (.int c490), .val (.int c491), .val (.ref a1), .val (.int (0 : Int32))] [(.int (0 : Int32))]))
        refine s_iload S502 (hb hby at_101) rfl (pc' := 103) rfl ?_
        refine s_icmpN S502 (hb hby at_103) (by decide) (pc' := 106) rfl ?_
        refine s_iconst S502 (hb hby at_106) (v := (1 : Int32)) rfl (pc' := 107) rfl ?_
        refine s_goto S502 (hb hby at_107) (by decide) (pcT := 111) (by decide) ?_
        exact g_iretN S502 (hb hby at_111) hret (by simp) ⟨rfl, trivial⟩
  · skip
    show Go p e below _ (T0.setTop (mkF m 5 #[.val (.int len), .val (.int xa), .val (.int xb), .val (.int xc), .val (.int (3 : Int32)), .unset, .unset, .unset, .unset, .unset] []))
    refine s_iload S0 (hb hby at_5) rfl (pc' := 7) rfl ?_
    refine s_iconst S0 (hb hby at_7) (v := (3 : Int32)) rfl (pc' := 8) rfl ?_
    refine s_icmpN S0 (hb hby at_8) (by decide) (pc' := 11) rfl ?_
    refine s_iconst S0 (hb hby at_11) (v := (3 : Int32)) rfl (pc' := 12) rfl ?_
    refine s_istore S0 (hb hby at_12) (L' := #[.val (.int len), .val (.int xa), .val (.int xb), .val (.int xc), .val (.int (3 : Int32)), .unset, .unset, .unset, .unset, .unset]) rfl (pc' := 14) rfl ?_
    refine s_iloadN S0 (hb hby at_14) rfl (pc' := 15) rfl ?_
    refine g_ldcI S0 (w0 hw) (hb hby at_15) ?_
    show Go p e below _ (T0.setTop (mkF m 17 #[.val (.int len), .val (.int xa), .val (.int xb), .val (.int xc), .val (.int (3 : Int32)), .unset, .unset, .unset, .unset, .unset] [(.int (65535 : Int32)), (.int xa)]))
    refine s_iand S0 (hb hby at_17) (z := (xa &&& (65535 : Int32))) rfl (pc' := 18) rfl ?_
    refine s_i2c S0 (hb hby at_18) (z := ((xa &&& (65535 : Int32)).toUInt32.toUInt16.toUInt32.toInt32)) rfl (pc' := 19) rfl ?_
    generalize ec503 : ((xa &&& (65535 : Int32)).toUInt32.toUInt16.toUInt32.toInt32) = c503
    refine s_istore S0 (hb hby at_19) (L' := #[.val (.int len), .val (.int xa), .val (.int xb), .val (.int xc), .val (.int (3 : Int32)), .val (.int c503), .unset, .unset, .unset, .unset]) rfl (pc' := 21) rfl ?_
    have rc503 : ¬ c503 < 0 ∧ ¬ (65535 : Int32) < c503 := by rw [← ec503]; exact own_i2c _
    refine s_iloadN S0 (hb hby at_21) rfl (pc' := 22) rfl ?_
    refine g_ldcI S0 (w0 hw) (hb hby at_22) ?_
    show Go p e below _ (T0.setTop (mkF m 24 #[.val (.int len), .val (.int xa), .val (.int xb), .val (.int xc), .val (.int (3 : Int32)), .val (.int c503), .unset, .unset, .unset, .unset] [(.int (65535 : Int32)), (.int xb)]))
    refine s_iand S0 (hb hby at_24) (z := (xb &&& (65535 : Int32))) rfl (pc' := 25) rfl ?_
    refine s_i2c S0 (hb hby at_25) (z := ((xb &&& (65535 : Int32)).toUInt32.toUInt16.toUInt32.toInt32)) rfl (pc' := 26) rfl ?_
    generalize ec504 : ((xb &&& (65535 : Int32)).toUInt32.toUInt16.toUInt32.toInt32) = c504
    refine s_istore S0 (hb hby at_26) (L' := #[.val (.int len), .val (.int xa), .val (.int xb), .val (.int xc), .val (.int (3 : Int32)), .val (.int c503), .val (.int c504), .unset, .unset, .unset]) rfl (pc' := 28) rfl ?_
    have rc504 : ¬ c504 < 0 ∧ ¬ (65535 : Int32) < c504 := by rw [← ec504]; exact own_i2c _
    refine s_iloadN S0 (hb hby at_28) rfl (pc' := 29) rfl ?_
    refine g_ldcI S0 (w0 hw) (hb hby at_29) ?_
    show Go p e below _ (T0.setTop (mkF m 31 #[.val (.int len), .val (.int xa), .val (.int xb), .val (.int xc), .val (.int (3 : Int32)), .val (.int c503), .val (.int c504), .unset, .unset, .unset] [(.int (65535 : Int32)), (.int xc)]))
    refine s_iand S0 (hb hby at_31) (z := (xc &&& (65535 : Int32))) rfl (pc' := 32) rfl ?_
    refine s_i2c S0 (hb hby at_32) (z := ((xc &&& (65535 : Int32)).toUInt32.toUInt16.toUInt32.toInt32)) rfl (pc' := 33) rfl ?_
    generalize ec505 : ((xc &&& (65535 : Int32)).toUInt32.toUInt16.toUInt32.toInt32) = c505
    refine s_istore S0 (hb hby at_33) (L' := #[.val (.int len), .val (.int xa), .val (.int xb), .val (.int xc), .val (.int (3 : Int32)), .val (.int c503), .val (.int c504), .val (.int c505), .unset, .unset]) rfl (pc' := 35) rfl ?_
    have rc505 : ¬ c505 < 0 ∧ ¬ (65535 : Int32) < c505 := by rw [← ec505]; exact own_i2c _
    refine s_iload S0 (hb hby at_35) rfl (pc' := 37) rfl ?_
    refine s_iload S0 (hb hby at_37) rfl (pc' := 39) rfl ?_
    refine s_iload S0 (hb hby at_39) rfl (pc' := 41) rfl ?_
    refine s_iload S0 (hb hby at_41) rfl (pc' := 43) rfl ?_
    show Go p e below _ (T0.setTop (mkF m 43 #[.val (.int len), .val (.int xa), .val (.int xb), .val (.int xc), .val (.int (3 : Int32)), .val (.int c503), .val (.int c504), .val (.int c505), .unset, .unset] [(.int c505), (.int c504), (.int c503), (.int (3 : Int32))]))
    refine g_static S0 (rmBD3 X S0.old rc503 rc504 rc505) (fun _ q => nomatch q) (w1 hw) (w2 hw) (w3 hw) (w4 hw) (by decide) (hb hby at_43) (by rw [hml]; rfl) [(.int (3 : Int32)), (.int c503), (.int c504), (.int c505)] (lenOf pd17 rfl) rfl rfl (Nat.le_of_ble_eq_true rfl) (Nat.le_of_ble_eq_true rfl) (Nat.le_of_ble_eq_true rfl) (Nat.le_of_ble_eq_true rfl) ?_
    intro v506 T506 V506 h506 S506 C506 q506
    obtain ⟨a1, rfl, F1, E1⟩ := q506
    show Go p e below _ (T506.setTop (mkF m 46 #[.val (.int len), .val (.int xa), .val (.int xb), .val (.int xc), .val (.int (3 : Int32)), .val (.int c503), .val (.int c504), .val (.int c505), .unset, .unset] [(.ref a1)]))
    refine s_astore S506 (hb hby at_46) rfl (L' := #[.val (.int len), .val (.int xa), .val (.int xb), .val (.int xc), .val (.int (3 : Int32)), .val (.int c503), .val (.int c504), .val (.int c505), .val (.ref a1), .unset]) rfl (pc' := 48) rfl ?_
    refine s_iload S506 (hb hby at_48) rfl (pc' := 50) rfl ?_
    refine s_ifN S506 (hb hby at_50) (by decide) (pc' := 53) rfl ?_
    refine s_iload S506 (hb hby at_53) rfl (pc' := 55) rfl ?_
    show Go p e below _ (T506.setTop (mkF m 55 #[.val (.int len), .val (.int xa), .val (.int xb), .val (.int xc), .val (.int (3 : Int32)), .val (.int c503), .val (.int c504), .val (.int c505), .val (.ref a1), .unset] [(.int c503)]))
    refine g_static S506 (rmCT X c503 S506.old) (fun _ q => nomatch q) (w52 hw) (w53 hw) (w3 hw) (w54 hw) (by decide) (hb hby at_55) (by rw [hml]; rfl) [(.int c503)] (lenOf pd16 rfl) rfl rfl (Nat.le_of_ble_eq_true rfl) (Nat.le_of_ble_eq_true rfl) (Nat.le_of_ble_eq_true rfl) (Nat.le_of_ble_eq_true rfl) ?_
    intro v508 T508 V508 h508 S508 C508 q508
    obtain ⟨r507, rfl, hr507, rfl⟩ := q508
    rcases hr507 with ⟨rfl, hr507⟩ | ⟨rfl, hr507⟩
    · skip
      show Go p e below _ (T508.setTop (mkF m 58 #[.val (.int len), .val (.int xa), .val (.int xb), .val (.int xc), .val (.int (3 : Int32)), .val (.int c503), .val (.int c504), .val (.int c505), .val (.ref a1), .unset] [(.int (1 : Int32))]))
      refine s_ifY S508 (hb hby at_58) (by decide) (by decide) (pcT := 89) (by decide) ?_
      refine s_iconst S508 (hb hby at_89) (v := (1 : Int32)) rfl (pc' := 90) rfl ?_
      refine s_goto S508 (hb hby at_90) (by decide) (pcT := 94) (by decide) ?_
      refine s_istore S508 (hb hby at_94) (L' := #[.val (.int len), .val (.int xa), .val (.int xb), .val (.int xc), .val (.int (3 : Int32)), .val (.int c503), .val (.int c504), .val (.int c505), .val (.ref a1), .val (.int (1 : Int32))]) rfl (pc' := 96) rfl ?_
      refine s_aload S508 (hb hby at_96) rfl rfl (pc' := 98) rfl ?_
      show Go p e below _ (T508.setTop (mkF m 98 #[.val (.int len), .val (.int xa), .val (.int xb), .val (.int xc), .val (.int (3 : Int32)), .val (.int c503), .val (.int c504), .val (.int c505), .val (.ref a1), .val (.int (1 : Int32))] [(.ref a1)]))
      refine g_static S508 (rmHC3 X S508.old F1) (fun _ q => nomatch q) (w27 hw) (w28 hw) (w29 hw) (w30 hw) (by decide) (hb hby at_98) (by rw [hml]; rfl) [(.ref a1)] (lenOf pd18 rfl) rfl rfl (Nat.le_of_ble_eq_true rfl) (Nat.le_of_ble_eq_true rfl) (Nat.le_of_ble_eq_true rfl) (Nat.le_of_ble_eq_true rfl) ?_
      intro v510 T510 V510 h510 S510 C510 q510
      obtain ⟨g509, rfl, hg509, rfl⟩ := q510
      obtain rfl : g509 = 1 := hg509.elim (fun q => q.1) (fun q => absurd (Or.inl hr507) q.2)
      show Go p e below _ (T510.setTop (mkF m 101 #[.val (.int len), .val (.int xa), .val (.int xb), .val (.int xc), .val (.int (3 : Int32)), .val (.int c503), .val (.int c504), .val (.int c505), .val (.ref a1), .val (.int (1 : Int32))] [(.int (1 : Int32))]))
      refine s_iload S510 (hb hby at_101) rfl (pc' := 103) rfl ?_
      refine s_icmpN S510 (hb hby at_103) (by decide) (pc' := 106) rfl ?_
      refine s_iconst S510 (hb hby at_106) (v := (1 : Int32)) rfl (pc' := 107) rfl ?_
      refine s_goto S510 (hb hby at_107) (by decide) (pcT := 111) (by decide) ?_
      exact g_iretN S510 (hb hby at_111) hret (by simp) ⟨rfl, trivial⟩
    · skip
      show Go p e below _ (T508.setTop (mkF m 58 #[.val (.int len), .val (.int xa), .val (.int xb), .val (.int xc), .val (.int (3 : Int32)), .val (.int c503), .val (.int c504), .val (.int c505), .val (.ref a1), .unset] [(.int (0 : Int32))]))
      refine s_ifN S508 (hb hby at_58) (by decide) (pc' := 61) rfl ?_
      refine s_iload S508 (hb hby at_61) rfl (pc' := 63) rfl ?_
      refine s_iconst S508 (hb hby at_63) (v := (1 : Int32)) rfl (pc' := 64) rfl ?_
      refine s_icmpN S508 (hb hby at_64) (by decide) (pc' := 67) rfl ?_
      refine s_iload S508 (hb hby at_67) rfl (pc' := 69) rfl ?_
      show Go p e below _ (T508.setTop (mkF m 69 #[.val (.int len), .val (.int xa), .val (.int xb), .val (.int xc), .val (.int (3 : Int32)), .val (.int c503), .val (.int c504), .val (.int c505), .val (.ref a1), .unset] [(.int c504)]))
      refine g_static S508 (rmCT X c504 S508.old) (fun _ q => nomatch q) (w52 hw) (w53 hw) (w3 hw) (w54 hw) (by decide) (hb hby at_69) (by rw [hml]; rfl) [(.int c504)] (lenOf pd16 rfl) rfl rfl (Nat.le_of_ble_eq_true rfl) (Nat.le_of_ble_eq_true rfl) (Nat.le_of_ble_eq_true rfl) (Nat.le_of_ble_eq_true rfl) ?_
      intro v512 T512 V512 h512 S512 C512 q512
      obtain ⟨r511, rfl, hr511, rfl⟩ := q512
      rcases hr511 with ⟨rfl, hr511⟩ | ⟨rfl, hr511⟩
      · skip
        show Go p e below _ (T512.setTop (mkF m 72 #[.val (.int len), .val (.int xa), .val (.int xb), .val (.int xc), .val (.int (3 : Int32)), .val (.int c503), .val (.int c504), .val (.int c505), .val (.ref a1), .unset] [(.int (1 : Int32))]))
        refine s_ifY S512 (hb hby at_72) (by decide) (by decide) (pcT := 89) (by decide) ?_
        refine s_iconst S512 (hb hby at_89) (v := (1 : Int32)) rfl (pc' := 90) rfl ?_
        refine s_goto S512 (hb hby at_90) (by decide) (pcT := 94) (by decide) ?_
        refine s_istore S512 (hb hby at_94) (L' := #[.val (.int len), .val (.int xa), .val (.int xb), .val (.int xc), .val (.int (3 : Int32)), .val (.int c503), .val (.int c504), .val (.int c505), .val (.ref a1), .val (.int (1 : Int32))]) rfl (pc' := 96) rfl ?_
        refine s_aload S512 (hb hby at_96) rfl rfl (pc' := 98) rfl ?_
        show Go p e below _ (T512.setTop (mkF m 98 #[.val (.int len), .val (.int xa), .val (.int xb), .val (.int xc), .val (.int (3 : Int32)), .val (.int c503), .val (.int c504), .val (.int c505), .val (.ref a1), .val (.int (1 : Int32))] [(.ref a1)]))
        refine g_static S512 (rmHC3 X S512.old F1) (fun _ q => nomatch q) (w27 hw) (w28 hw) (w29 hw) (w30 hw) (by decide) (hb hby at_98) (by rw [hml]; rfl) [(.ref a1)] (lenOf pd18 rfl) rfl rfl (Nat.le_of_ble_eq_true rfl) (Nat.le_of_ble_eq_true rfl) (Nat.le_of_ble_eq_true rfl) (Nat.le_of_ble_eq_true rfl) ?_
        intro v514 T514 V514 h514 S514 C514 q514
        obtain ⟨g513, rfl, hg513, rfl⟩ := q514
        obtain rfl : g513 = 1 := hg513.elim (fun q => q.1) (fun q => absurd (Or.inr (Or.inl hr511)) q.2)
        show Go p e below _ (T514.setTop (mkF m 101 #[.val (.int len), .val (.int xa), .val (.int xb), .val (.int xc), .val (.int (3 : Int32)), .val (.int c503), .val (.int c504), .val (.int c505), .val (.ref a1), .val (.int (1 : Int32))] [(.int (1 : Int32))]))
        refine s_iload S514 (hb hby at_101) rfl (pc' := 103) rfl ?_
        refine s_icmpN S514 (hb hby at_103) (by decide) (pc' := 106) rfl ?_
        refine s_iconst S514 (hb hby at_106) (v := (1 : Int32)) rfl (pc' := 107) rfl ?_
        refine s_goto S514 (hb hby at_107) (by decide) (pcT := 111) (by decide) ?_
        exact g_iretN S514 (hb hby at_111) hret (by simp) ⟨rfl, trivial⟩
      · skip
        show Go p e below _ (T512.setTop (mkF m 72 #[.val (.int len), .val (.int xa), .val (.int xb), .val (.int xc), .val (.int (3 : Int32)), .val (.int c503), .val (.int c504), .val (.int c505), .val (.ref a1), .unset] [(.int (0 : Int32))]))
        refine s_ifN S512 (hb hby at_72) (by decide) (pc' := 75) rfl ?_
        refine s_iload S512 (hb hby at_75) rfl (pc' := 77) rfl ?_
        refine s_iconst S512 (hb hby at_77) (v := (2 : Int32)) rfl (pc' := 78) rfl ?_
        refine s_icmpN S512 (hb hby at_78) (by decide) (pc' := 81) rfl ?_
        refine s_iload S512 (hb hby at_81) rfl (pc' := 83) rfl ?_
        show Go p e below _ (T512.setTop (mkF m 83 #[.val (.int len), .val (.int xa), .val (.int xb), .val (.int xc), .val (.int (3 : Int32)), .val (.int c503), .val (.int c504), .val (.int c505), .val (.ref a1), .unset] [(.int c505)]))
        refine g_static S512 (rmCT X c505 S512.old) (fun _ q => nomatch q) (w52 hw) (w53 hw) (w3 hw) (w54 hw) (by decide) (hb hby at_83) (by rw [hml]; rfl) [(.int c505)] (lenOf pd16 rfl) rfl rfl (Nat.le_of_ble_eq_true rfl) (Nat.le_of_ble_eq_true rfl) (Nat.le_of_ble_eq_true rfl) (Nat.le_of_ble_eq_true rfl) ?_
        intro v516 T516 V516 h516 S516 C516 q516
        obtain ⟨r515, rfl, hr515, rfl⟩ := q516
        rcases hr515 with ⟨rfl, hr515⟩ | ⟨rfl, hr515⟩
        · skip
          show Go p e below _ (T516.setTop (mkF m 86 #[.val (.int len), .val (.int xa), .val (.int xb), .val (.int xc), .val (.int (3 : Int32)), .val (.int c503), .val (.int c504), .val (.int c505), .val (.ref a1), .unset] [(.int (1 : Int32))]))
          refine s_ifN S516 (hb hby at_86) (by decide) (pc' := 89) rfl ?_
          refine s_iconst S516 (hb hby at_89) (v := (1 : Int32)) rfl (pc' := 90) rfl ?_
          refine s_goto S516 (hb hby at_90) (by decide) (pcT := 94) (by decide) ?_
          refine s_istore S516 (hb hby at_94) (L' := #[.val (.int len), .val (.int xa), .val (.int xb), .val (.int xc), .val (.int (3 : Int32)), .val (.int c503), .val (.int c504), .val (.int c505), .val (.ref a1), .val (.int (1 : Int32))]) rfl (pc' := 96) rfl ?_
          refine s_aload S516 (hb hby at_96) rfl rfl (pc' := 98) rfl ?_
          show Go p e below _ (T516.setTop (mkF m 98 #[.val (.int len), .val (.int xa), .val (.int xb), .val (.int xc), .val (.int (3 : Int32)), .val (.int c503), .val (.int c504), .val (.int c505), .val (.ref a1), .val (.int (1 : Int32))] [(.ref a1)]))
          refine g_static S516 (rmHC3 X S516.old F1) (fun _ q => nomatch q) (w27 hw) (w28 hw) (w29 hw) (w30 hw) (by decide) (hb hby at_98) (by rw [hml]; rfl) [(.ref a1)] (lenOf pd18 rfl) rfl rfl (Nat.le_of_ble_eq_true rfl) (Nat.le_of_ble_eq_true rfl) (Nat.le_of_ble_eq_true rfl) (Nat.le_of_ble_eq_true rfl) ?_
          intro v518 T518 V518 h518 S518 C518 q518
          obtain ⟨g517, rfl, hg517, rfl⟩ := q518
          obtain rfl : g517 = 1 := hg517.elim (fun q => q.1) (fun q => absurd (Or.inr (Or.inr (hr515))) q.2)
          show Go p e below _ (T518.setTop (mkF m 101 #[.val (.int len), .val (.int xa), .val (.int xb), .val (.int xc), .val (.int (3 : Int32)), .val (.int c503), .val (.int c504), .val (.int c505), .val (.ref a1), .val (.int (1 : Int32))] [(.int (1 : Int32))]))
          refine s_iload S518 (hb hby at_101) rfl (pc' := 103) rfl ?_
          refine s_icmpN S518 (hb hby at_103) (by decide) (pc' := 106) rfl ?_
          refine s_iconst S518 (hb hby at_106) (v := (1 : Int32)) rfl (pc' := 107) rfl ?_
          refine s_goto S518 (hb hby at_107) (by decide) (pcT := 111) (by decide) ?_
          exact g_iretN S518 (hb hby at_111) hret (by simp) ⟨rfl, trivial⟩
        · skip
          show Go p e below _ (T516.setTop (mkF m 86 #[.val (.int len), .val (.int xa), .val (.int xb), .val (.int xc), .val (.int (3 : Int32)), .val (.int c503), .val (.int c504), .val (.int c505), .val (.ref a1), .unset] [(.int (0 : Int32))]))
          refine s_ifY S516 (hb hby at_86) (by decide) (by decide) (pcT := 93) (by decide) ?_
          refine s_iconst S516 (hb hby at_93) (v := (0 : Int32)) rfl (pc' := 94) rfl ?_
          refine s_istore S516 (hb hby at_94) (L' := #[.val (.int len), .val (.int xa), .val (.int xb), .val (.int xc), .val (.int (3 : Int32)), .val (.int c503), .val (.int c504), .val (.int c505), .val (.ref a1), .val (.int (0 : Int32))]) rfl (pc' := 96) rfl ?_
          refine s_aload S516 (hb hby at_96) rfl rfl (pc' := 98) rfl ?_
          show Go p e below _ (T516.setTop (mkF m 98 #[.val (.int len), .val (.int xa), .val (.int xb), .val (.int xc), .val (.int (3 : Int32)), .val (.int c503), .val (.int c504), .val (.int c505), .val (.ref a1), .val (.int (0 : Int32))] [(.ref a1)]))
          refine g_static S516 (rmHC3 X S516.old F1) (fun _ q => nomatch q) (w27 hw) (w28 hw) (w29 hw) (w30 hw) (by decide) (hb hby at_98) (by rw [hml]; rfl) [(.ref a1)] (lenOf pd18 rfl) rfl rfl (Nat.le_of_ble_eq_true rfl) (Nat.le_of_ble_eq_true rfl) (Nat.le_of_ble_eq_true rfl) (Nat.le_of_ble_eq_true rfl) ?_
          intro v520 T520 V520 h520 S520 C520 q520
          obtain ⟨g519, rfl, hg519, rfl⟩ := q520
          obtain rfl : g519 = 0 := hg519.elim (fun q => absurd q.2 ((fun q => q.elim hr507 (fun q => q.elim hr511 hr515)))) (fun q => q.1)
          show Go p e below _ (T520.setTop (mkF m 101 #[.val (.int len), .val (.int xa), .val (.int xb), .val (.int xc), .val (.int (3 : Int32)), .val (.int c503), .val (.int c504), .val (.int c505), .val (.ref a1), .val (.int (0 : Int32))] [(.int (0 : Int32))]))
          refine s_iload S520 (hb hby at_101) rfl (pc' := 103) rfl ?_
          refine s_icmpN S520 (hb hby at_103) (by decide) (pc' := 106) rfl ?_
          refine s_iconst S520 (hb hby at_106) (v := (1 : Int32)) rfl (pc' := 107) rfl ?_
          refine s_goto S520 (hb hby at_107) (by decide) (pcT := 111) (by decide) ?_
          exact g_iretN S520 (hb hby at_111) hret (by simp) ⟨rfl, trivial⟩
set_option maxRecDepth 65536 in
set_option maxHeartbeats 40000000 in
theorem comes_1 {Post : Tables → Env → Array Value → State → Outcome → State → Prop} (hpost : ∀ tb e args s v u, (limb_1_1.after args s (.returned v) u = true ∧ limb_1_2.after args s (.returned v) u = true) → FramedW s (.returned v) u (Jvm.fieldLocs frame_1_writes args s ++ Jvm.arrayLocs frame_1_arrays args s ++ Jvm.staticLocs frame_1_statics s) 24 1152 → Post tb e args s (.returned v) u) :
    ArmFor flags0 classFile x code maxLocals ret World_1 tables_1 room_1 Calls_1 rest_1 Pre_1 Post := by
  intro l hfl _ _ p e ha hc hk s m args below hf hA hF happ hP
  obtain ⟨hcalls, hrest, hpre⟩ := hP
  obtain ⟨-, -, -, hnamed, -, -, -, hat⟩ := (Spec.applies_iff hf).mp happ
  obtain ⟨hg, hn⟩ := and_e (Cond.before_iff.mp (show (Jvm.Cond.and given_1 narrow_1).before args s = true from hpre))
  obtain ⟨hcount, hgiven⟩ := and_e hg
  obtain ⟨hg0, hr0⟩ := and_e hgiven
  obtain ⟨hg1, hr1⟩ := and_e hr0
  obtain ⟨hg2, hr2⟩ := and_e hr1
  obtain ⟨wa, wb, wc, wd, rfl⟩ : ∃ wa wb wc wd : Value, args = #[wa, wb, wc, wd] := by
    have hs : args.size = 4 := by simpa [Cond.value, given_1] using hcount
    obtain ⟨L⟩ := args
    match L, hs with
    | [wa, wb, wc, wd], _ => exact ⟨wa, wb, wc, wd, rfl⟩
  have hw : HW _ s := fun d (hd : d ∈ tables_1) => atoms_spec (ws := Jvm.Cond.code x code maxLocals ret :: tables_1) hat d (List.mem_cons_of_mem _ hd)
  obtain ⟨hsets, hown0⟩ := atoms_of _ (rest_1_c_eq ▸ (show rest_1_c.before _ s = true from hrest))
  obtain ⟨i0, ei0⟩ := is_v hg0
  obtain rfl : wa = (.int i0) := Option.some.inj ei0
  obtain ⟨i1, ei1⟩ := is_v hg1
  obtain rfl : wb = (.int i1) := Option.some.inj ei1
  obtain ⟨i2, ei2⟩ := is_v hg2
  obtain rfl : wc = (.int i2) := Option.some.inj ei2
  obtain ⟨i3, ei3⟩ := is_v hr2
  obtain rfl : wd = (.int i3) := Option.some.inj ei3
  obtain ⟨z1, ez1⟩ := is_v (Cond.before_iff.mp (hsets _ (List.mem_of_getElem? (i := 1) rfl)))
  have Sz1 : Sta s s.heap "java/lang/String" "COMPACT_STRINGS" "Z" (.int z1) := Sta.start ez1 (Or.inl (hsets _ (List.mem_of_getElem? (i := 0) rfl)))
  obtain ⟨v2, ev2, rv2⟩ := isR_v (Cond.before_iff.mp (hsets _ (List.mem_of_getElem? (i := 8) rfl)))
  have Sv2 : Sta s s.heap "jdk/internal/util/Preconditions" "SIOOBE_FORMATTER" "Ljava/util/function/BiFunction;" v2 := Sta.start ev2 (Or.inl (hsets _ (List.mem_of_getElem? (i := 7) rfl)))
  have cz1 : ¬ (z1 = (0 : Int32)) := gotF (Cond.eq_ints ez1 (Term.int_eval (0))) (not_v (Cond.before_iff.mp (hsets _ (List.mem_of_getElem? (i := 2) rfl))))
  have hEW : EW s _ EL1 := (EW.cons (hw _ (List.mem_of_getElem? (i := 19) rfl)) (by decide +kernel) EW.nil)
  have hCH : CHv s EL1 s.vm s.heap := CHv.start hEW (fun q hq => hcalls.1 q ((by decide : ∀ q ∈ EL1, q ∈ consts_1) q hq)) (hsets _ (List.mem_of_getElem? (i := 2) rfl)) (w20 hw) (w6 hw)
  have Sx0 : Sta s s.heap "java/lang/StringUTF16" "$assertionsDisabled" "Z" (.int (1 : Int32)) := Sta.start (eqv_i (Term.int_eval (1)) (Cond.before_iff.mp (hsets _ (List.mem_of_getElem? (i := 12) rfl)))) (Or.inl (hsets _ (List.mem_of_getElem? (i := 11) rfl)))
  have Sx1 : Sta s s.heap "java/lang/StringUTF16" "HI_BYTE_SHIFT" "I" (.int (0 : Int32)) := Sta.start (eqv_i (Term.int_eval (0)) (Cond.before_iff.mp (hsets _ (List.mem_of_getElem? (i := 15) rfl)))) (Or.inl (hsets _ (List.mem_of_getElem? (i := 14) rfl)))
  have Sx2 : Sta s s.heap "java/lang/StringUTF16" "LO_BYTE_SHIFT" "I" (.int (8 : Int32)) := Sta.start (eqv_i (Term.int_eval (8)) (Cond.before_iff.mp (hsets _ (List.mem_of_getElem? (i := 18) rfl)))) (Or.inl (hsets _ (List.mem_of_getElem? (i := 17) rfl)))
  have X : Ctx s _ := ⟨hw, hEW, ⟨z1, Sz1, cz1⟩, ⟨v2, Sv2, rv2⟩, Sx0, Sx1, Sx2⟩
  obtain ⟨n, o, h1, h2, h3, v, L, rfl, ⟨⟨rfl, -⟩, N, -⟩, -, hq⟩ := rmL (l := l) X i0 i1 i2 i3 (Old.start s) tables_1 p e ha hc hk s m _ below hf ((Spec.applies_iff_loose hf).mp happ).1 ⟨rfl, State.Warmed39.refl s, rfl, hCH, fun _ q => nomatch q⟩ trivial
  refine ⟨n, _, h1, h2, h3, hpost _ _ _ _ _ _ ⟨Cond.after_iff.mpr rfl, Cond.after_iff.mpr (eq_i res_at (Term.int_eval (1)) rfl)⟩ ⟨hq.1, hq.2.1, hq.2.2.1, (hq.2.2.2.sift fun y hy => Or.inr (N y hy)).mono (by decide) (by decide)⟩⟩
theorem main_1_1 : Claimed_1_1 := comes_1 fun _ _ _ _ _ _ h hF => ⟨h.1, hF⟩
theorem main_1_2 : Claimed_1_2 := comes_1 fun _ _ _ _ _ _ h hF => ⟨h.2, hF⟩
end Jvm.Pilot.@@N@@
namespace Jvm.Pilot.@@N@@
open Jvm Jvm.ClassFile Sem Op Lib Jvm.Free Jvm.Stand Jvm.Pilot.@@N@@.Jvm.D
/-! MADE BY PROGRAM (witnessworld.py) out of the Statement's table words and the real class files: 22 classes; the members and pool entries that the words name. The judged class is class 1, her method 3. -/
namespace start1
open Jvm.ClassFile
def u (s : String) : CpInfo := .utf8 (stringToUtf16 s)
/-- a pool by its gaps: so many unusable entries, then the entry; so many at the end -/
def gap : Nat → List CpInfo → List CpInfo
  | 0, r => r
  | n + 1, r => .unusable :: gap n r
def poolList (es : List (Nat × CpInfo)) (last : Nat) : List CpInfo := es.foldr (fun e r => gap e.1 (e.2 :: r)) (gap last [])
def pool (es : List (Nat × CpInfo)) (last : Nat) : Array CpInfo := ⟨poolList es last⟩
def fileOf (pool : Array CpInfo) (this : Nat) (attrs : Array Attribute := #[]) (ms : Array MethodInfo := #[]) (fl : Nat := 33) (sup : Nat := 0) (ifs : Array Nat := #[]) (fds : Array FieldInfo := #[]) : ClassFile where
  minorVersion := 0
  majorVersion := 65
  constantPool := pool
  accessFlags := fl
  thisClass := this
  superClass := sup
  interfaces := ifs
  fields := fds
  methods := ms
  attributes := attrs
def plain (name : String) (sup : Option ClassId) : Class where
  name := name
  kind := .ordinary
  loader := none
  accessFlags := 33
  super := sup
  interfaces := #[]
  cf := none
  fields := #[]
  methods := #[]
  instanceTypes := #[]
  staticTypes := #[]
  resolved := #[]
  callSites := []
  init := .initialized
  statics := none
  mirror := none

def pool0 : Array CpInfo := pool [(5, u "<init>"), (0, u "()V"), (1, .class_ 10), (1, u "java/lang/Object")] 113

def k0c0 : Code := { maxStack := 0, maxLocals := 1, code := object_method_1_code, exceptionTable := #[], attributes := #[] }
def k0m0 : Method := { name := "<init>", desc := "()V", sig := { parameters := [], returnType := none }, accessFlags := 1, code := some k0c0 }
/-- java/lang/Object -/
def k0 : Class := { plain "java/lang/Object" none with
  accessFlags := 33
  interfaces := #[]
  cf := some (fileOf pool0 8 #[] #[{ accessFlags := 1, nameIndex := 5, descriptorIndex := 6, attributes := #[] }] 33 0 #[] #[])
  fields := #[]
  methods := #[k0m0]
  instanceTypes := #[]
  staticTypes := #[]
  resolved := Array.replicate 124 none
  statics := none }

def pool1 : Array CpInfo := pool [(2, .class_ 4), (1, u "java/lang/Object"), (0, u "<init>"), (0, u "()V"), (0, .class_ 8), (0, u "java/lang/String"), (0, .methodref 7 10), (0, .nameAndType 5 11), (0, u "([C)V"), (0, .integer 65535), (0, .methodref 14 15), (0, .class_ 16), (0, .nameAndType 17 18), (0, u "com/example/remora/remora/RequestPathHoldsControlCharacterPinLaw"), (0, u "build"), (0, u "(ICCC)Ljava/lang/String;"), (0, .methodref 14 20), (0, .nameAndType 21 22), (0, u "control"), (0, u "(C)Z"), (0, .methodref 24 25), (0, .class_ 26), (0, .nameAndType 27 28), (0, u "com/example/remora/remora/RequestPath"), (0, u "holdsControlCharacter"), (0, u "(Ljava/lang/String;)Z"), (3, u "law"), (0, u "(IIII)Z")] 2

def k1m0 : Method := { name := "<init>", desc := "()V", sig := { parameters := [], returnType := none }, accessFlags := 2, code := none }
def k1c1 : Code := { maxStack := 2, maxLocals := 1, code := method_2_code, exceptionTable := #[], attributes := #[] }
def k1m1 : Method := { name := "control", desc := "(C)Z", sig := { parameters := [.char], returnType := some .boolean }, accessFlags := 10, code := some k1c1 }
def k1c2 : Code := { maxStack := 6, maxLocals := 4, code := method_3_code, exceptionTable := #[], attributes := #[] }
def k1m2 : Method := { name := "build", desc := "(ICCC)Ljava/lang/String;", sig := { parameters := [.int, .char, .char, .char], returnType := some (.object "java/lang/String") }, accessFlags := 10, code := some k1c2 }
def k1c3 : Code := { maxStack := 4, maxLocals := 10, code := code, exceptionTable := #[], attributes := #[] }
def k1m3 : Method := { name := "law", desc := "(IIII)Z", sig := { parameters := [.int, .int, .int, .int], returnType := some .boolean }, accessFlags := 9, code := some k1c3 }
/-- com/example/remora/remora/RequestPathHoldsControlCharacterPinLaw -/
def k1 : Class := { plain "com/example/remora/remora/RequestPathHoldsControlCharacterPinLaw" (some 0) with
  accessFlags := 49
  interfaces := #[]
  cf := some (fileOf pool1 14 #[] #[{ accessFlags := 2, nameIndex := 5, descriptorIndex := 6, attributes := #[] }, { accessFlags := 10, nameIndex := 21, descriptorIndex := 22, attributes := #[] }, { accessFlags := 10, nameIndex := 17, descriptorIndex := 18, attributes := #[] }, { accessFlags := 9, nameIndex := 32, descriptorIndex := 33, attributes := #[] }] 49 2 #[] #[])
  fields := #[]
  methods := #[k1m0, k1m1, k1m2, k1m3]
  instanceTypes := #[]
  staticTypes := #[]
  resolved := Array.replicate 36 none
  statics := none }

def pool2 : Array CpInfo := pool [(1, .class_ 2), (0, u "java/io/Serializable"), (0, .class_ 4), (0, u "java/lang/Object")] 2

/-- java/io/Serializable -/
def k2 : Class := { plain "java/io/Serializable" (some 0) with
  accessFlags := 1537
  interfaces := #[]
  cf := some (fileOf pool2 1 #[] #[] 1537 3 #[] #[])
  fields := #[]
  methods := #[]
  instanceTypes := #[]
  staticTypes := #[]
  resolved := Array.replicate 7 none
  statics := none }

def pool3 : Array CpInfo := pool [(1, .class_ 2), (0, u "java/lang/Comparable"), (0, .class_ 4), (0, u "java/lang/Object")] 7

/-- java/lang/Comparable -/
def k3 : Class := { plain "java/lang/Comparable" (some 0) with
  accessFlags := 1537
  interfaces := #[]
  cf := some (fileOf pool3 1 #[] #[] 1537 3 #[] #[])
  fields := #[]
  methods := #[]
  instanceTypes := #[]
  staticTypes := #[]
  resolved := Array.replicate 12 none
  statics := none }

def pool4 : Array CpInfo := pool [(2, .class_ 4), (1, u "java/lang/CharSequence"), (42, .class_ 48), (0, u "java/lang/CharSequence$1CodePointIterator"), (10, .class_ 60), (0, u "java/lang/CharSequence$1CharIterator"), (5, .class_ 67), (0, u "java/lang/Object")] 63

/-- java/lang/CharSequence -/
def k4 : Class := { plain "java/lang/CharSequence" (some 0) with
  accessFlags := 1537
  interfaces := #[]
  cf := some (fileOf pool4 2 #[.nestMembers #[47, 59]] #[] 1537 66 #[] #[])
  fields := #[]
  methods := #[]
  instanceTypes := #[]
  staticTypes := #[]
  resolved := Array.replicate 131 none
  statics := none }

def pool5 : Array CpInfo := pool [(1, .class_ 2), (0, u "java/lang/constant/Constable"), (0, .class_ 4), (0, u "java/lang/Object")] 6

/-- java/lang/constant/Constable -/
def k5 : Class := { plain "java/lang/constant/Constable" (some 0) with
  accessFlags := 1537
  interfaces := #[]
  cf := some (fileOf pool5 1 #[] #[] 1537 3 #[] #[])
  fields := #[]
  methods := #[]
  instanceTypes := #[]
  staticTypes := #[]
  resolved := Array.replicate 11 none
  statics := none }

def pool6 : Array CpInfo := pool [(1, .class_ 2), (0, u "java/lang/constant/ConstantDesc"), (0, .class_ 4), (0, u "java/lang/Object")] 32

/-- java/lang/constant/ConstantDesc -/
def k6 : Class := { plain "java/lang/constant/ConstantDesc" (some 0) with
  accessFlags := 1537
  interfaces := #[]
  cf := some (fileOf pool6 1 #[] #[] 1537 3 #[] #[])
  fields := #[]
  methods := #[]
  instanceTypes := #[]
  staticTypes := #[]
  resolved := Array.replicate 37 none
  statics := none }

def pool7 : Array CpInfo := pool [(1, .methodref 2 3), (0, .class_ 4), (0, .nameAndType 5 6), (0, u "java/lang/Object"), (0, u "<init>"), (0, u "()V"), (0, .string 8), (0, u ""), (0, .fieldref 10 11), (0, .class_ 12), (0, .nameAndType 13 14), (0, u "java/lang/String"), (0, u "value"), (0, u "[B"), (0, .fieldref 10 16), (0, .nameAndType 17 18), (0, u "coder"), (0, u "B"), (2, u "hash"), (0, u "I"), (2, u "hashIsZero"), (0, u "Z"), (0, .methodref 10 28), (0, .nameAndType 5 29), (0, u "([CIILjava/lang/Void;)V"), (8, .fieldref 10 39), (0, .nameAndType 40 26), (0, u "COMPACT_STRINGS"), (1, .class_ 44), (1, u "java/lang/StringUTF16"), (0, u "compress"), (1, .methodref 42 48), (0, .nameAndType 49 50), (0, u "coderFromArrayLen"), (0, u "([BI)B"), (56, .class_ 109), (1, u "java/lang/StringLatin1"), (32, u "()Z"), (34, .methodref 42 178), (0, .nameAndType 45 179), (0, u "([CII)[B"), (154, u "()I"), (0, .methodref 10 336), (0, .nameAndType 17 337), (0, u "()B"), (25, u "([BI)C"), (27, u "(II)V"), (35, u "(I)C"), (64, .methodref 10 493), (0, .nameAndType 494 142), (0, u "isLatin1"), (0, .methodref 107 496), (0, .nameAndType 497 363), (0, u "charAt"), (0, .methodref 42 496), (2, u "checkIndex"), (5, u "length"), (67, .class_ 576), (0, u "java/lang/CharSequence"), (22, u "CASE_INSENSITIVE_ORDER"), (0, u "Ljava/util/Comparator;"), (409, u "([C)V"), (42, .fieldref 1054 1055), (0, .class_ 1056), (0, .nameAndType 1057 1058), (0, u "jdk/internal/util/Preconditions"), (0, u "SIOOBE_FORMATTER"), (0, u "Ljava/util/function/BiFunction;"), (0, .methodref 1054 1060), (0, .nameAndType 501 1061), (0, u "(IILjava/util/function/BiFunction;)I"), (39, u "serialPersistentFields"), (0, u "[Ljava/io/ObjectStreamField;"), (0, .class_ 1104), (0, u "java/lang/String$CaseInsensitiveComparator"), (1, .class_ 1107), (0, u "java/io/Serializable"), (0, .class_ 1109), (0, u "java/lang/Comparable"), (0, .class_ 1111), (0, u "java/lang/constant/Constable"), (0, .class_ 1113), (0, u "java/lang/constant/ConstantDesc"), (2, u "serialVersionUID"), (0, u "J"), (3, u "REPL"), (0, u "C"), (2, u "LATIN1"), (1, u "UTF16")] 323

def k7m0 : Method := { name := "<init>", desc := "()V", sig := { parameters := [], returnType := none }, accessFlags := 1, code := none }
def k7c1 : Code := { maxStack := 5, maxLocals := 2, code := jdk_42_method_3_code, exceptionTable := #[], attributes := #[] }
def k7m1 : Method := { name := "<init>", desc := "([C)V", sig := { parameters := [(.array .char)], returnType := none }, accessFlags := 1, code := some k7c1 }
def k7c2 : Code := { maxStack := 2, maxLocals := 1, code := jdk_42_method_54_code, exceptionTable := #[], attributes := #[] }
def k7m2 : Method := { name := "length", desc := "()I", sig := { parameters := [], returnType := some .int }, accessFlags := 1, code := some k7c2 }
def k7c3 : Code := { maxStack := 2, maxLocals := 2, code := jdk_42_method_56_code, exceptionTable := #[], attributes := #[] }
def k7m3 : Method := { name := "charAt", desc := "(I)C", sig := { parameters := [.int], returnType := some .char }, accessFlags := 1, code := some k7c3 }
def k7c4 : Code := { maxStack := 4, maxLocals := 6, code := jdk_42_method_149_code, exceptionTable := #[], attributes := #[] }
def k7m4 : Method := { name := "<init>", desc := "([CIILjava/lang/Void;)V", sig := { parameters := [(.array .char), .int, .int, (.object "java/lang/Void")], returnType := none }, accessFlags := 2, code := some k7c4 }
def k7c5 : Code := { maxStack := 1, maxLocals := 1, code := jdk_42_method_152_code, exceptionTable := #[], attributes := #[] }
def k7m5 : Method := { name := "coder", desc := "()B", sig := { parameters := [], returnType := some .byte }, accessFlags := 0, code := some k7c5 }
def k7c6 : Code := { maxStack := 1, maxLocals := 1, code := jdk_42_method_154_code, exceptionTable := #[], attributes := #[] }
def k7m6 : Method := { name := "isLatin1", desc := "()Z", sig := { parameters := [], returnType := some .boolean }, accessFlags := 0, code := some k7c6 }
def k7c7 : Code := { maxStack := 3, maxLocals := 2, code := jdk_42_method_155_code, exceptionTable := #[], attributes := #[] }
def k7m7 : Method := { name := "checkIndex", desc := "(II)V", sig := { parameters := [.int, .int], returnType := none }, accessFlags := 8, code := some k7c7 }
/-- java/lang/String -/
def k7 : Class := { plain "java/lang/String" (some 0) with
  accessFlags := 49
  interfaces := #[2, 3, 4, 5, 6]
  cf := some (fileOf pool7 10 #[.nestMembers #[1103]] #[{ accessFlags := 1, nameIndex := 5, descriptorIndex := 6, attributes := #[] }, { accessFlags := 1, nameIndex := 5, descriptorIndex := 1010, attributes := #[] }, { accessFlags := 1, nameIndex := 507, descriptorIndex := 334, attributes := #[] }, { accessFlags := 1, nameIndex := 497, descriptorIndex := 427, attributes := #[] }, { accessFlags := 2, nameIndex := 5, descriptorIndex := 29, attributes := #[] }, { accessFlags := 0, nameIndex := 17, descriptorIndex := 337, attributes := #[] }, { accessFlags := 0, nameIndex := 494, descriptorIndex := 142, attributes := #[] }, { accessFlags := 8, nameIndex := 501, descriptorIndex := 391, attributes := #[] }] 49 2 #[1106, 1108, 575, 1110, 1112] #[{ accessFlags := 18, nameIndex := 13, descriptorIndex := 14, attributes := #[] }, { accessFlags := 18, nameIndex := 17, descriptorIndex := 18, attributes := #[] }, { accessFlags := 2, nameIndex := 21, descriptorIndex := 22, attributes := #[] }, { accessFlags := 2, nameIndex := 25, descriptorIndex := 26, attributes := #[] }, { accessFlags := 26, nameIndex := 1116, descriptorIndex := 1117, attributes := #[] }, { accessFlags := 24, nameIndex := 40, descriptorIndex := 26, attributes := #[] }, { accessFlags := 26, nameIndex := 1101, descriptorIndex := 1102, attributes := #[] }, { accessFlags := 26, nameIndex := 1121, descriptorIndex := 1122, attributes := #[] }, { accessFlags := 25, nameIndex := 599, descriptorIndex := 600, attributes := #[] }, { accessFlags := 24, nameIndex := 1125, descriptorIndex := 18, attributes := #[] }, { accessFlags := 24, nameIndex := 1127, descriptorIndex := 18, attributes := #[] }])
  fields := #[{ name := "value", type := (.array .byte), accessFlags := 18, slot := 0, constantValue := 0 }, { name := "coder", type := .byte, accessFlags := 18, slot := 1, constantValue := 0 }, { name := "hash", type := .int, accessFlags := 2, slot := 2, constantValue := 0 }, { name := "hashIsZero", type := .boolean, accessFlags := 2, slot := 3, constantValue := 0 }, { name := "serialVersionUID", type := .long, accessFlags := 26, slot := 0, constantValue := 0 }, { name := "COMPACT_STRINGS", type := .boolean, accessFlags := 24, slot := 1, constantValue := 0 }, { name := "serialPersistentFields", type := (.array (.object "java/io/ObjectStreamField")), accessFlags := 26, slot := 2, constantValue := 0 }, { name := "REPL", type := .char, accessFlags := 26, slot := 3, constantValue := 0 }, { name := "CASE_INSENSITIVE_ORDER", type := (.object "java/util/Comparator"), accessFlags := 25, slot := 4, constantValue := 0 }, { name := "LATIN1", type := .byte, accessFlags := 24, slot := 5, constantValue := 0 }, { name := "UTF16", type := .byte, accessFlags := 24, slot := 6, constantValue := 0 }]
  methods := #[k7m0, k7m1, k7m2, k7m3, k7m4, k7m5, k7m6, k7m7]
  instanceTypes := #[(.array .byte), .byte, .int, .boolean]
  staticTypes := #[.long, .boolean, (.array (.object "java/io/ObjectStreamField")), .char, (.object "java/util/Comparator"), .byte, .byte]
  resolved := Array.replicate 1451 none
  statics := some 0 }

def pool8 : Array CpInfo := pool [(2, .class_ 4), (1, u "java/lang/Object"), (0, u "<init>"), (0, u "()V"), (0, .class_ 8), (0, u "java/lang/Record")] 13

def k8m0 : Method := { name := "<init>", desc := "()V", sig := { parameters := [], returnType := none }, accessFlags := 4, code := none }
/-- java/lang/Record -/
def k8 : Class := { plain "java/lang/Record" (some 0) with
  accessFlags := 1057
  interfaces := #[]
  cf := some (fileOf pool8 7 #[] #[{ accessFlags := 4, nameIndex := 5, descriptorIndex := 6, attributes := #[] }] 1057 2 #[] #[])
  fields := #[]
  methods := #[k8m0]
  instanceTypes := #[]
  staticTypes := #[]
  resolved := Array.replicate 22 none
  statics := none }

def pool9 : Array CpInfo := pool [(2, .class_ 4), (1, u "java/lang/Record"), (3, .class_ 10), (1, u "com/example/remora/remora/RequestPath"), (0, u "resource"), (0, u "Lcom/example/remora/remora/Resource;"), (2, u "selectors"), (0, u "Ljava/lang/String;"), (2, u "extension"), (2, u "suffix"), (2, u "forcedType"), (3, .class_ 31), (1, u "java/lang/String"), (1, u "(Ljava/lang/String;)Z"), (15, u "holdsControlCharacter"), (0, .methodref 29 51), (0, .nameAndType 52 53), (0, u "length"), (0, u "()I"), (0, .methodref 29 55), (0, .nameAndType 56 57), (0, u "charAt"), (0, u "(I)C"), (0, .methodref 59 60), (0, .class_ 61), (0, .nameAndType 62 63), (0, u "java/lang/Character"), (0, u "isISOControl"), (0, u "(C)Z"), (138, u "INVALID")] 37

def k9c0 : Code := { maxStack := 2, maxLocals := 3, code := prog_11_method_4_code, exceptionTable := #[], attributes := #[] }
def k9m0 : Method := { name := "holdsControlCharacter", desc := "(Ljava/lang/String;)Z", sig := { parameters := [(.object "java/lang/String")], returnType := some .boolean }, accessFlags := 8, code := some k9c0 }
/-- com/example/remora/remora/RequestPath -/
def k9 : Class := { plain "com/example/remora/remora/RequestPath" (some 8) with
  accessFlags := 48
  interfaces := #[]
  cf := some (fileOf pool9 8 #[] #[{ accessFlags := 8, nameIndex := 49, descriptorIndex := 33, attributes := #[] }] 48 2 #[] #[{ accessFlags := 18, nameIndex := 11, descriptorIndex := 12, attributes := #[] }, { accessFlags := 18, nameIndex := 15, descriptorIndex := 16, attributes := #[] }, { accessFlags := 18, nameIndex := 19, descriptorIndex := 16, attributes := #[] }, { accessFlags := 18, nameIndex := 22, descriptorIndex := 16, attributes := #[] }, { accessFlags := 18, nameIndex := 25, descriptorIndex := 16, attributes := #[] }, { accessFlags := 24, nameIndex := 202, descriptorIndex := 16, attributes := #[] }])
  fields := #[{ name := "resource", type := (.object "com/example/remora/remora/Resource"), accessFlags := 18, slot := 0, constantValue := 0 }, { name := "selectors", type := (.object "java/lang/String"), accessFlags := 18, slot := 1, constantValue := 0 }, { name := "extension", type := (.object "java/lang/String"), accessFlags := 18, slot := 2, constantValue := 0 }, { name := "suffix", type := (.object "java/lang/String"), accessFlags := 18, slot := 3, constantValue := 0 }, { name := "forcedType", type := (.object "java/lang/String"), accessFlags := 18, slot := 4, constantValue := 0 }, { name := "INVALID", type := (.object "java/lang/String"), accessFlags := 24, slot := 0, constantValue := 0 }]
  methods := #[k9m0]
  instanceTypes := #[(.object "com/example/remora/remora/Resource"), (.object "java/lang/String"), (.object "java/lang/String"), (.object "java/lang/String"), (.object "java/lang/String")]
  staticTypes := #[(.object "java/lang/String")]
  resolved := Array.replicate 240 none
  statics := none }

def pool10 : Array CpInfo := pool [(3, .class_ 4), (0, u "java/lang/String"), (1, .class_ 8), (1, u "java/lang/Object"), (0, u "<init>"), (0, u "()V"), (0, .methodref 12 13), (0, .class_ 14), (0, .nameAndType 15 16), (0, u "java/lang/StringUTF16"), (0, u "newBytesLength"), (0, u "(I)I"), (3, .integer 1073741823), (23, .fieldref 12 45), (0, .nameAndType 46 47), (0, u "$assertionsDisabled"), (0, u "Z"), (0, .methodref 12 49), (0, .nameAndType 50 51), (0, u "length"), (0, u "([B)I"), (7, .fieldref 12 60), (0, .nameAndType 61 62), (0, u "HI_BYTE_SHIFT"), (0, u "I"), (0, .fieldref 12 64), (0, .nameAndType 65 62), (0, u "LO_BYTE_SHIFT"), (1, .methodref 12 68), (0, .nameAndType 69 70), (0, u "checkIndex"), (0, u "(I[B)V"), (0, .methodref 12 72), (0, .nameAndType 73 74), (0, u "getChar"), (0, u "([BI)C"), (32, .methodref 12 108), (0, .nameAndType 109 110), (0, u "newBytesFor"), (0, u "(I)[B"), (0, .methodref 12 112), (0, .nameAndType 113 114), (0, u "putChar"), (0, u "([BII)V"), (0, .methodref 12 116), (0, .nameAndType 117 118), (0, u "compress"), (0, u "([CI[BII)I"), (0, .methodref 12 120), (0, .nameAndType 121 122), (0, u "toBytes"), (0, u "([CII)[B"), (138, u "coderFromArrayLen"), (0, u "([BI)B"), (106, .class_ 371), (1, u "java/lang/StringUTF16$LinesSpliterator"), (20, u "charAt"), (21, .methodref 3 415), (0, .nameAndType 69 416), (0, u "(II)V"), (13, u "MAX_LENGTH"), (196, .class_ 628), (0, u "java/lang/StringUTF16$CodePointsSpliterator"), (0, .class_ 630), (0, u "java/lang/StringUTF16$CharsSpliterator")] 4

def k10m0 : Method := { name := "<init>", desc := "()V", sig := { parameters := [], returnType := none }, accessFlags := 0, code := none }
def k10c1 : Code := { maxStack := 1, maxLocals := 1, code := jdk_52_method_2_code, exceptionTable := #[], attributes := #[] }
def k10m1 : Method := { name := "newBytesFor", desc := "(I)[B", sig := { parameters := [.int], returnType := some (.array .byte) }, accessFlags := 9, code := some k10c1 }
def k10c2 : Code := { maxStack := 4, maxLocals := 1, code := jdk_52_method_3_code, exceptionTable := #[], attributes := #[] }
def k10m2 : Method := { name := "newBytesLength", desc := "(I)I", sig := { parameters := [.int], returnType := some .int }, accessFlags := 9, code := some k10c2 }
def k10c3 : Code := { maxStack := 4, maxLocals := 3, code := jdk_52_method_4_code, exceptionTable := #[], attributes := #[] }
def k10m3 : Method := { name := "putChar", desc := "([BII)V", sig := { parameters := [(.array .byte), .int, .int], returnType := none }, accessFlags := 8, code := some k10c3 }
def k10c4 : Code := { maxStack := 3, maxLocals := 2, code := jdk_52_method_5_code, exceptionTable := #[], attributes := #[] }
def k10m4 : Method := { name := "getChar", desc := "([BI)C", sig := { parameters := [(.array .byte), .int], returnType := some .char }, accessFlags := 8, code := some k10c4 }
def k10c5 : Code := { maxStack := 2, maxLocals := 1, code := jdk_52_method_6_code, exceptionTable := #[], attributes := #[] }
def k10m5 : Method := { name := "length", desc := "([B)I", sig := { parameters := [(.array .byte)], returnType := some .int }, accessFlags := 9, code := some k10c5 }
def k10c6 : Code := { maxStack := 4, maxLocals := 5, code := jdk_52_method_14_code, exceptionTable := #[], attributes := #[] }
def k10m6 : Method := { name := "toBytes", desc := "([CII)[B", sig := { parameters := [(.array .char), .int, .int], returnType := some (.array .byte) }, accessFlags := 9, code := some k10c6 }
def k10c7 : Code := { maxStack := 2, maxLocals := 2, code := jdk_52_method_15_code, exceptionTable := #[], attributes := #[] }
def k10m7 : Method := { name := "coderFromArrayLen", desc := "([BI)B", sig := { parameters := [(.array .byte), .int], returnType := some .byte }, accessFlags := 8, code := some k10c7 }
def k10c8 : Code := { maxStack := 5, maxLocals := 6, code := jdk_52_method_16_code, exceptionTable := #[], attributes := #[] }
def k10m8 : Method := { name := "compress", desc := "([CII)[B", sig := { parameters := [(.array .char), .int, .int], returnType := some (.array .byte) }, accessFlags := 9, code := some k10c8 }
def k10c9 : Code := { maxStack := 3, maxLocals := 7, code := jdk_52_method_21_code, exceptionTable := #[], attributes := #[] }
def k10m9 : Method := { name := "compress", desc := "([CI[BII)I", sig := { parameters := [(.array .char), .int, (.array .byte), .int, .int], returnType := some .int }, accessFlags := 9, code := some k10c9 }
def k10c10 : Code := { maxStack := 2, maxLocals := 2, code := jdk_52_method_83_code, exceptionTable := #[], attributes := #[] }
def k10m10 : Method := { name := "charAt", desc := "([BI)C", sig := { parameters := [(.array .byte), .int], returnType := some .char }, accessFlags := 9, code := some k10c10 }
def k10c11 : Code := { maxStack := 2, maxLocals := 2, code := jdk_52_method_91_code, exceptionTable := #[], attributes := #[] }
def k10m11 : Method := { name := "checkIndex", desc := "(I[B)V", sig := { parameters := [.int, (.array .byte)], returnType := none }, accessFlags := 9, code := some k10c11 }
/-- java/lang/StringUTF16 -/
def k10 : Class := { plain "java/lang/StringUTF16" (some 0) with
  accessFlags := 48
  interfaces := #[]
  cf := some (fileOf pool10 12 #[.nestMembers #[627, 629, 369]] #[{ accessFlags := 0, nameIndex := 9, descriptorIndex := 10, attributes := #[] }, { accessFlags := 9, nameIndex := 109, descriptorIndex := 110, attributes := #[] }, { accessFlags := 9, nameIndex := 15, descriptorIndex := 16, attributes := #[] }, { accessFlags := 8, nameIndex := 113, descriptorIndex := 114, attributes := #[] }, { accessFlags := 8, nameIndex := 73, descriptorIndex := 74, attributes := #[] }, { accessFlags := 9, nameIndex := 50, descriptorIndex := 51, attributes := #[] }, { accessFlags := 9, nameIndex := 121, descriptorIndex := 122, attributes := #[] }, { accessFlags := 8, nameIndex := 261, descriptorIndex := 262, attributes := #[] }, { accessFlags := 9, nameIndex := 117, descriptorIndex := 122, attributes := #[] }, { accessFlags := 9, nameIndex := 117, descriptorIndex := 118, attributes := #[] }, { accessFlags := 9, nameIndex := 392, descriptorIndex := 74, attributes := #[] }, { accessFlags := 9, nameIndex := 69, descriptorIndex := 70, attributes := #[] }] 48 6 #[] #[{ accessFlags := 26, nameIndex := 61, descriptorIndex := 62, attributes := #[] }, { accessFlags := 26, nameIndex := 65, descriptorIndex := 62, attributes := #[] }, { accessFlags := 24, nameIndex := 430, descriptorIndex := 62, attributes := #[] }, { accessFlags := 4120, nameIndex := 46, descriptorIndex := 47, attributes := #[] }])
  fields := #[{ name := "HI_BYTE_SHIFT", type := .int, accessFlags := 26, slot := 0, constantValue := 0 }, { name := "LO_BYTE_SHIFT", type := .int, accessFlags := 26, slot := 1, constantValue := 0 }, { name := "MAX_LENGTH", type := .int, accessFlags := 24, slot := 2, constantValue := 0 }, { name := "$assertionsDisabled", type := .boolean, accessFlags := 4120, slot := 3, constantValue := 0 }]
  methods := #[k10m0, k10m1, k10m2, k10m3, k10m4, k10m5, k10m6, k10m7, k10m8, k10m9, k10m10, k10m11]
  instanceTypes := #[]
  staticTypes := #[.int, .int, .int, .boolean]
  resolved := Array.replicate 635 none
  statics := some 1 }

def pool11 : Array CpInfo := pool [(1, .class_ 2), (0, u "java/lang/String"), (1, .class_ 6), (1, u "java/lang/Object"), (0, u "<init>"), (0, u "()V"), (0, .methodref 1 10), (0, .nameAndType 11 12), (0, u "checkIndex"), (0, u "(II)V"), (1, .class_ 16), (1, u "java/lang/StringLatin1"), (36, u "([BI)C"), (67, u "$assertionsDisabled"), (0, u "Z"), (98, .class_ 223), (1, u "java/lang/StringLatin1$LinesSpliterator"), (28, u "charAt"), (137, .class_ 391), (0, u "java/lang/StringLatin1$CharsSpliterator")] 3

def k11m0 : Method := { name := "<init>", desc := "()V", sig := { parameters := [], returnType := none }, accessFlags := 0, code := none }
def k11c1 : Code := { maxStack := 2, maxLocals := 2, code := jdk_43_method_2_code, exceptionTable := #[], attributes := #[] }
def k11m1 : Method := { name := "charAt", desc := "([BI)C", sig := { parameters := [(.array .byte), .int], returnType := some .char }, accessFlags := 9, code := some k11c1 }
/-- java/lang/StringLatin1 -/
def k11 : Class := { plain "java/lang/StringLatin1" (some 0) with
  accessFlags := 48
  interfaces := #[]
  cf := some (fileOf pool11 14 #[.nestMembers #[390, 221]] #[{ accessFlags := 0, nameIndex := 7, descriptorIndex := 8, attributes := #[] }, { accessFlags := 9, nameIndex := 252, descriptorIndex := 53, attributes := #[] }] 48 4 #[] #[{ accessFlags := 4120, nameIndex := 121, descriptorIndex := 122, attributes := #[] }])
  fields := #[{ name := "$assertionsDisabled", type := .boolean, accessFlags := 4120, slot := 0, constantValue := 0 }]
  methods := #[k11m0, k11m1]
  instanceTypes := #[]
  staticTypes := #[.boolean]
  resolved := Array.replicate 395 none
  statics := none }

def pool12 : Array CpInfo := pool [(2, .class_ 4), (1, u "java/lang/Object"), (0, u "<init>"), (0, u "()V"), (17, .class_ 26), (1, u "jdk/internal/util/Preconditions"), (6, u "checkIndex"), (21, .class_ 56), (0, u "jdk/internal/util/Preconditions$4"), (57, .class_ 115), (0, u "jdk/internal/util/Preconditions$1"), (7, u "SIOOBE_FORMATTER"), (0, u "Ljava/util/function/BiFunction;"), (0, .class_ 126), (0, u "jdk/internal/util/Preconditions$2"), (3, u "AIOOBE_FORMATTER"), (0, .class_ 132), (0, u "jdk/internal/util/Preconditions$3"), (3, u "IOOBE_FORMATTER"), (41, u "(IILjava/util/function/BiFunction;)I")] 15

def k12m0 : Method := { name := "<init>", desc := "()V", sig := { parameters := [], returnType := none }, accessFlags := 1, code := none }
def k12c1 : Code := { maxStack := 3, maxLocals := 3, code := jdk_41_method_11_code, exceptionTable := #[], attributes := #[] }
def k12m1 : Method := { name := "checkIndex", desc := "(IILjava/util/function/BiFunction;)I", sig := { parameters := [.int, .int, (.object "java/util/function/BiFunction")], returnType := some .int }, accessFlags := 9, code := some k12c1 }
/-- jdk/internal/util/Preconditions -/
def k12 : Class := { plain "jdk/internal/util/Preconditions" (some 0) with
  accessFlags := 33
  interfaces := #[]
  cf := some (fileOf pool12 24 #[.nestMembers #[55, 131, 125, 114]] #[{ accessFlags := 1, nameIndex := 5, descriptorIndex := 6, attributes := #[] }, { accessFlags := 9, nameIndex := 33, descriptorIndex := 178, attributes := #[] }] 33 2 #[] #[{ accessFlags := 25, nameIndex := 123, descriptorIndex := 124, attributes := #[] }, { accessFlags := 25, nameIndex := 130, descriptorIndex := 124, attributes := #[] }, { accessFlags := 25, nameIndex := 136, descriptorIndex := 124, attributes := #[] }])
  fields := #[{ name := "SIOOBE_FORMATTER", type := (.object "java/util/function/BiFunction"), accessFlags := 25, slot := 0, constantValue := 0 }, { name := "AIOOBE_FORMATTER", type := (.object "java/util/function/BiFunction"), accessFlags := 25, slot := 1, constantValue := 0 }, { name := "IOOBE_FORMATTER", type := (.object "java/util/function/BiFunction"), accessFlags := 25, slot := 2, constantValue := 0 }]
  methods := #[k12m0, k12m1]
  instanceTypes := #[]
  staticTypes := #[(.object "java/util/function/BiFunction"), (.object "java/util/function/BiFunction"), (.object "java/util/function/BiFunction")]
  resolved := Array.replicate 194 none
  statics := some 2 }

def pool13 : Array CpInfo := pool [(1, .class_ 2), (0, u "java/lang/Character"), (18, u "value"), (0, u "C"), (19, .class_ 44), (1, u "java/lang/Object"), (3, .class_ 50), (1, u "java/lang/Character$CharacterCache"), (30, u "(C)Z"), (32, u "(I)Z"), (151, .methodref 1 267), (0, .nameAndType 268 114), (0, u "isISOControl"), (15, u "$assertionsDisabled"), (0, u "Z"), (21, .class_ 309), (1, u "java/lang/Character$UnicodeBlock"), (73, u "TYPE"), (0, u "Ljava/lang/Class;"), (0, .class_ 386), (0, u "java/io/Serializable"), (0, .class_ 388), (0, u "java/lang/Comparable"), (0, .class_ 390), (0, u "java/lang/constant/Constable"), (0, u "MIN_RADIX"), (0, u "I"), (2, u "MAX_RADIX"), (1, u "MIN_VALUE"), (1, u "MAX_VALUE"), (3, u "UNASSIGNED"), (0, u "B"), (0, u "UPPERCASE_LETTER"), (1, u "LOWERCASE_LETTER"), (0, u "TITLECASE_LETTER"), (1, u "MODIFIER_LETTER"), (1, u "OTHER_LETTER"), (1, u "NON_SPACING_MARK"), (1, u "ENCLOSING_MARK"), (1, u "COMBINING_SPACING_MARK"), (1, u "DECIMAL_DIGIT_NUMBER"), (1, u "LETTER_NUMBER"), (1, u "OTHER_NUMBER"), (1, u "SPACE_SEPARATOR"), (1, u "LINE_SEPARATOR"), (1, u "PARAGRAPH_SEPARATOR"), (1, u "CONTROL"), (1, u "FORMAT"), (1, u "PRIVATE_USE"), (1, u "SURROGATE"), (1, u "DASH_PUNCTUATION"), (1, u "START_PUNCTUATION"), (1, u "END_PUNCTUATION"), (1, u "CONNECTOR_PUNCTUATION"), (1, u "OTHER_PUNCTUATION"), (1, u "MATH_SYMBOL"), (1, u "CURRENCY_SYMBOL"), (1, u "MODIFIER_SYMBOL"), (1, u "OTHER_SYMBOL"), (1, u "INITIAL_QUOTE_PUNCTUATION"), (1, u "FINAL_QUOTE_PUNCTUATION"), (1, u "ERROR"), (1, u "DIRECTIONALITY_UNDEFINED"), (0, u "DIRECTIONALITY_LEFT_TO_RIGHT"), (0, u "DIRECTIONALITY_RIGHT_TO_LEFT"), (0, u "DIRECTIONALITY_RIGHT_TO_LEFT_ARABIC"), (0, u "DIRECTIONALITY_EUROPEAN_NUMBER"), (0, u "DIRECTIONALITY_EUROPEAN_NUMBER_SEPARATOR"), (0, u "DIRECTIONALITY_EUROPEAN_NUMBER_TERMINATOR"), (0, u "DIRECTIONALITY_ARABIC_NUMBER"), (0, u "DIRECTIONALITY_COMMON_NUMBER_SEPARATOR"), (0, u "DIRECTIONALITY_NONSPACING_MARK"), (0, u "DIRECTIONALITY_BOUNDARY_NEUTRAL"), (0, u "DIRECTIONALITY_PARAGRAPH_SEPARATOR"), (0, u "DIRECTIONALITY_SEGMENT_SEPARATOR"), (0, u "DIRECTIONALITY_WHITESPACE"), (0, u "DIRECTIONALITY_OTHER_NEUTRALS"), (0, u "DIRECTIONALITY_LEFT_TO_RIGHT_EMBEDDING"), (0, u "DIRECTIONALITY_LEFT_TO_RIGHT_OVERRIDE"), (0, u "DIRECTIONALITY_RIGHT_TO_LEFT_EMBEDDING"), (0, u "DIRECTIONALITY_RIGHT_TO_LEFT_OVERRIDE"), (1, u "DIRECTIONALITY_POP_DIRECTIONAL_FORMAT"), (0, u "DIRECTIONALITY_LEFT_TO_RIGHT_ISOLATE"), (0, u "DIRECTIONALITY_RIGHT_TO_LEFT_ISOLATE"), (0, u "DIRECTIONALITY_FIRST_STRONG_ISOLATE"), (0, u "DIRECTIONALITY_POP_DIRECTIONAL_ISOLATE"), (0, u "MIN_HIGH_SURROGATE"), (0, u "MAX_HIGH_SURROGATE"), (1, u "MIN_LOW_SURROGATE"), (0, u "MAX_LOW_SURROGATE"), (1, u "MIN_SURROGATE"), (0, u "MAX_SURROGATE"), (0, u "MIN_SUPPLEMENTARY_CODE_POINT"), (0, u "MIN_CODE_POINT"), (0, u "MAX_CODE_POINT"), (1, u "serialVersionUID"), (0, u "J"), (2, u "SIZE"), (0, u "BYTES"), (88, .class_ 596), (0, u "java/lang/Character$UnicodeScript"), (0, .class_ 598), (0, u "java/lang/Character$Subset")] 5

def k13c0 : Code := { maxStack := 1, maxLocals := 1, code := jdk_89_method_88_code, exceptionTable := #[], attributes := #[] }
def k13m0 : Method := { name := "isISOControl", desc := "(C)Z", sig := { parameters := [.char], returnType := some .boolean }, accessFlags := 9, code := some k13c0 }
def k13c1 : Code := { maxStack := 2, maxLocals := 1, code := jdk_89_method_89_code, exceptionTable := #[], attributes := #[] }
def k13m1 : Method := { name := "isISOControl", desc := "(I)Z", sig := { parameters := [.int], returnType := some .boolean }, accessFlags := 9, code := some k13c1 }
/-- java/lang/Character -/
def k13 : Class := { plain "java/lang/Character" (some 0) with
  accessFlags := 49
  interfaces := #[2, 3, 5]
  cf := some (fileOf pool13 1 #[.nestMembers #[48, 595, 307, 597]] #[{ accessFlags := 9, nameIndex := 268, descriptorIndex := 81, attributes := #[] }, { accessFlags := 9, nameIndex := 268, descriptorIndex := 114, attributes := #[] }] 49 42 #[385, 387, 389] #[{ accessFlags := 25, nameIndex := 391, descriptorIndex := 392, attributes := #[] }, { accessFlags := 25, nameIndex := 395, descriptorIndex := 392, attributes := #[] }, { accessFlags := 25, nameIndex := 397, descriptorIndex := 22, attributes := #[] }, { accessFlags := 25, nameIndex := 399, descriptorIndex := 22, attributes := #[] }, { accessFlags := 25, nameIndex := 383, descriptorIndex := 384, attributes := #[] }, { accessFlags := 25, nameIndex := 403, descriptorIndex := 404, attributes := #[] }, { accessFlags := 25, nameIndex := 405, descriptorIndex := 404, attributes := #[] }, { accessFlags := 25, nameIndex := 407, descriptorIndex := 404, attributes := #[] }, { accessFlags := 25, nameIndex := 408, descriptorIndex := 404, attributes := #[] }, { accessFlags := 25, nameIndex := 410, descriptorIndex := 404, attributes := #[] }, { accessFlags := 25, nameIndex := 412, descriptorIndex := 404, attributes := #[] }, { accessFlags := 25, nameIndex := 414, descriptorIndex := 404, attributes := #[] }, { accessFlags := 25, nameIndex := 416, descriptorIndex := 404, attributes := #[] }, { accessFlags := 25, nameIndex := 418, descriptorIndex := 404, attributes := #[] }, { accessFlags := 25, nameIndex := 420, descriptorIndex := 404, attributes := #[] }, { accessFlags := 25, nameIndex := 422, descriptorIndex := 404, attributes := #[] }, { accessFlags := 25, nameIndex := 424, descriptorIndex := 404, attributes := #[] }, { accessFlags := 25, nameIndex := 426, descriptorIndex := 404, attributes := #[] }, { accessFlags := 25, nameIndex := 428, descriptorIndex := 404, attributes := #[] }, { accessFlags := 25, nameIndex := 430, descriptorIndex := 404, attributes := #[] }, { accessFlags := 25, nameIndex := 432, descriptorIndex := 404, attributes := #[] }, { accessFlags := 25, nameIndex := 434, descriptorIndex := 404, attributes := #[] }, { accessFlags := 25, nameIndex := 436, descriptorIndex := 404, attributes := #[] }, { accessFlags := 25, nameIndex := 438, descriptorIndex := 404, attributes := #[] }, { accessFlags := 25, nameIndex := 440, descriptorIndex := 404, attributes := #[] }, { accessFlags := 25, nameIndex := 442, descriptorIndex := 404, attributes := #[] }, { accessFlags := 25, nameIndex := 444, descriptorIndex := 404, attributes := #[] }, { accessFlags := 25, nameIndex := 446, descriptorIndex := 404, attributes := #[] }, { accessFlags := 25, nameIndex := 448, descriptorIndex := 404, attributes := #[] }, { accessFlags := 25, nameIndex := 450, descriptorIndex := 404, attributes := #[] }, { accessFlags := 25, nameIndex := 452, descriptorIndex := 404, attributes := #[] }, { accessFlags := 25, nameIndex := 454, descriptorIndex := 404, attributes := #[] }, { accessFlags := 25, nameIndex := 456, descriptorIndex := 404, attributes := #[] }, { accessFlags := 25, nameIndex := 458, descriptorIndex := 404, attributes := #[] }, { accessFlags := 25, nameIndex := 460, descriptorIndex := 404, attributes := #[] }, { accessFlags := 24, nameIndex := 462, descriptorIndex := 392, attributes := #[] }, { accessFlags := 25, nameIndex := 464, descriptorIndex := 404, attributes := #[] }, { accessFlags := 25, nameIndex := 465, descriptorIndex := 404, attributes := #[] }, { accessFlags := 25, nameIndex := 466, descriptorIndex := 404, attributes := #[] }, { accessFlags := 25, nameIndex := 467, descriptorIndex := 404, attributes := #[] }, { accessFlags := 25, nameIndex := 468, descriptorIndex := 404, attributes := #[] }, { accessFlags := 25, nameIndex := 469, descriptorIndex := 404, attributes := #[] }, { accessFlags := 25, nameIndex := 470, descriptorIndex := 404, attributes := #[] }, { accessFlags := 25, nameIndex := 471, descriptorIndex := 404, attributes := #[] }, { accessFlags := 25, nameIndex := 472, descriptorIndex := 404, attributes := #[] }, { accessFlags := 25, nameIndex := 473, descriptorIndex := 404, attributes := #[] }, { accessFlags := 25, nameIndex := 474, descriptorIndex := 404, attributes := #[] }, { accessFlags := 25, nameIndex := 475, descriptorIndex := 404, attributes := #[] }, { accessFlags := 25, nameIndex := 476, descriptorIndex := 404, attributes := #[] }, { accessFlags := 25, nameIndex := 477, descriptorIndex := 404, attributes := #[] }, { accessFlags := 25, nameIndex := 478, descriptorIndex := 404, attributes := #[] }, { accessFlags := 25, nameIndex := 479, descriptorIndex := 404, attributes := #[] }, { accessFlags := 25, nameIndex := 480, descriptorIndex := 404, attributes := #[] }, { accessFlags := 25, nameIndex := 481, descriptorIndex := 404, attributes := #[] }, { accessFlags := 25, nameIndex := 482, descriptorIndex := 404, attributes := #[] }, { accessFlags := 25, nameIndex := 484, descriptorIndex := 404, attributes := #[] }, { accessFlags := 25, nameIndex := 485, descriptorIndex := 404, attributes := #[] }, { accessFlags := 25, nameIndex := 486, descriptorIndex := 404, attributes := #[] }, { accessFlags := 25, nameIndex := 487, descriptorIndex := 404, attributes := #[] }, { accessFlags := 25, nameIndex := 488, descriptorIndex := 404, attributes := #[] }, { accessFlags := 25, nameIndex := 489, descriptorIndex := 22, attributes := #[] }, { accessFlags := 25, nameIndex := 490, descriptorIndex := 22, attributes := #[] }, { accessFlags := 25, nameIndex := 492, descriptorIndex := 22, attributes := #[] }, { accessFlags := 25, nameIndex := 493, descriptorIndex := 22, attributes := #[] }, { accessFlags := 25, nameIndex := 495, descriptorIndex := 22, attributes := #[] }, { accessFlags := 25, nameIndex := 496, descriptorIndex := 22, attributes := #[] }, { accessFlags := 25, nameIndex := 497, descriptorIndex := 392, attributes := #[] }, { accessFlags := 25, nameIndex := 498, descriptorIndex := 392, attributes := #[] }, { accessFlags := 25, nameIndex := 499, descriptorIndex := 392, attributes := #[] }, { accessFlags := 18, nameIndex := 21, descriptorIndex := 22, attributes := #[] }, { accessFlags := 26, nameIndex := 501, descriptorIndex := 502, attributes := #[] }, { accessFlags := 25, nameIndex := 505, descriptorIndex := 392, attributes := #[] }, { accessFlags := 25, nameIndex := 506, descriptorIndex := 392, attributes := #[] }, { accessFlags := 4120, nameIndex := 284, descriptorIndex := 285, attributes := #[] }])
  fields := #[{ name := "MIN_RADIX", type := .int, accessFlags := 25, slot := 0, constantValue := 0 }, { name := "MAX_RADIX", type := .int, accessFlags := 25, slot := 1, constantValue := 0 }, { name := "MIN_VALUE", type := .char, accessFlags := 25, slot := 2, constantValue := 0 }, { name := "MAX_VALUE", type := .char, accessFlags := 25, slot := 3, constantValue := 0 }, { name := "TYPE", type := (.object "java/lang/Class"), accessFlags := 25, slot := 4, constantValue := 0 }, { name := "UNASSIGNED", type := .byte, accessFlags := 25, slot := 5, constantValue := 0 }, { name := "UPPERCASE_LETTER", type := .byte, accessFlags := 25, slot := 6, constantValue := 0 }, { name := "LOWERCASE_LETTER", type := .byte, accessFlags := 25, slot := 7, constantValue := 0 }, { name := "TITLECASE_LETTER", type := .byte, accessFlags := 25, slot := 8, constantValue := 0 }, { name := "MODIFIER_LETTER", type := .byte, accessFlags := 25, slot := 9, constantValue := 0 }, { name := "OTHER_LETTER", type := .byte, accessFlags := 25, slot := 10, constantValue := 0 }, { name := "NON_SPACING_MARK", type := .byte, accessFlags := 25, slot := 11, constantValue := 0 }, { name := "ENCLOSING_MARK", type := .byte, accessFlags := 25, slot := 12, constantValue := 0 }, { name := "COMBINING_SPACING_MARK", type := .byte, accessFlags := 25, slot := 13, constantValue := 0 }, { name := "DECIMAL_DIGIT_NUMBER", type := .byte, accessFlags := 25, slot := 14, constantValue := 0 }, { name := "LETTER_NUMBER", type := .byte, accessFlags := 25, slot := 15, constantValue := 0 }, { name := "OTHER_NUMBER", type := .byte, accessFlags := 25, slot := 16, constantValue := 0 }, { name := "SPACE_SEPARATOR", type := .byte, accessFlags := 25, slot := 17, constantValue := 0 }, { name := "LINE_SEPARATOR", type := .byte, accessFlags := 25, slot := 18, constantValue := 0 }, { name := "PARAGRAPH_SEPARATOR", type := .byte, accessFlags := 25, slot := 19, constantValue := 0 }, { name := "CONTROL", type := .byte, accessFlags := 25, slot := 20, constantValue := 0 }, { name := "FORMAT", type := .byte, accessFlags := 25, slot := 21, constantValue := 0 }, { name := "PRIVATE_USE", type := .byte, accessFlags := 25, slot := 22, constantValue := 0 }, { name := "SURROGATE", type := .byte, accessFlags := 25, slot := 23, constantValue := 0 }, { name := "DASH_PUNCTUATION", type := .byte, accessFlags := 25, slot := 24, constantValue := 0 }, { name := "START_PUNCTUATION", type := .byte, accessFlags := 25, slot := 25, constantValue := 0 }, { name := "END_PUNCTUATION", type := .byte, accessFlags := 25, slot := 26, constantValue := 0 }, { name := "CONNECTOR_PUNCTUATION", type := .byte, accessFlags := 25, slot := 27, constantValue := 0 }, { name := "OTHER_PUNCTUATION", type := .byte, accessFlags := 25, slot := 28, constantValue := 0 }, { name := "MATH_SYMBOL", type := .byte, accessFlags := 25, slot := 29, constantValue := 0 }, { name := "CURRENCY_SYMBOL", type := .byte, accessFlags := 25, slot := 30, constantValue := 0 }, { name := "MODIFIER_SYMBOL", type := .byte, accessFlags := 25, slot := 31, constantValue := 0 }, { name := "OTHER_SYMBOL", type := .byte, accessFlags := 25, slot := 32, constantValue := 0 }, { name := "INITIAL_QUOTE_PUNCTUATION", type := .byte, accessFlags := 25, slot := 33, constantValue := 0 }, { name := "FINAL_QUOTE_PUNCTUATION", type := .byte, accessFlags := 25, slot := 34, constantValue := 0 }, { name := "ERROR", type := .int, accessFlags := 24, slot := 35, constantValue := 0 }, { name := "DIRECTIONALITY_UNDEFINED", type := .byte, accessFlags := 25, slot := 36, constantValue := 0 }, { name := "DIRECTIONALITY_LEFT_TO_RIGHT", type := .byte, accessFlags := 25, slot := 37, constantValue := 0 }, { name := "DIRECTIONALITY_RIGHT_TO_LEFT", type := .byte, accessFlags := 25, slot := 38, constantValue := 0 }, { name := "DIRECTIONALITY_RIGHT_TO_LEFT_ARABIC", type := .byte, accessFlags := 25, slot := 39, constantValue := 0 }, { name := "DIRECTIONALITY_EUROPEAN_NUMBER", type := .byte, accessFlags := 25, slot := 40, constantValue := 0 }, { name := "DIRECTIONALITY_EUROPEAN_NUMBER_SEPARATOR", type := .byte, accessFlags := 25, slot := 41, constantValue := 0 }, { name := "DIRECTIONALITY_EUROPEAN_NUMBER_TERMINATOR", type := .byte, accessFlags := 25, slot := 42, constantValue := 0 }, { name := "DIRECTIONALITY_ARABIC_NUMBER", type := .byte, accessFlags := 25, slot := 43, constantValue := 0 }, { name := "DIRECTIONALITY_COMMON_NUMBER_SEPARATOR", type := .byte, accessFlags := 25, slot := 44, constantValue := 0 }, { name := "DIRECTIONALITY_NONSPACING_MARK", type := .byte, accessFlags := 25, slot := 45, constantValue := 0 }, { name := "DIRECTIONALITY_BOUNDARY_NEUTRAL", type := .byte, accessFlags := 25, slot := 46, constantValue := 0 }, { name := "DIRECTIONALITY_PARAGRAPH_SEPARATOR", type := .byte, accessFlags := 25, slot := 47, constantValue := 0 }, { name := "DIRECTIONALITY_SEGMENT_SEPARATOR", type := .byte, accessFlags := 25, slot := 48, constantValue := 0 }, { name := "DIRECTIONALITY_WHITESPACE", type := .byte, accessFlags := 25, slot := 49, constantValue := 0 }, { name := "DIRECTIONALITY_OTHER_NEUTRALS", type := .byte, accessFlags := 25, slot := 50, constantValue := 0 }, { name := "DIRECTIONALITY_LEFT_TO_RIGHT_EMBEDDING", type := .byte, accessFlags := 25, slot := 51, constantValue := 0 }, { name := "DIRECTIONALITY_LEFT_TO_RIGHT_OVERRIDE", type := .byte, accessFlags := 25, slot := 52, constantValue := 0 }, { name := "DIRECTIONALITY_RIGHT_TO_LEFT_EMBEDDING", type := .byte, accessFlags := 25, slot := 53, constantValue := 0 }, { name := "DIRECTIONALITY_RIGHT_TO_LEFT_OVERRIDE", type := .byte, accessFlags := 25, slot := 54, constantValue := 0 }, { name := "DIRECTIONALITY_POP_DIRECTIONAL_FORMAT", type := .byte, accessFlags := 25, slot := 55, constantValue := 0 }, { name := "DIRECTIONALITY_LEFT_TO_RIGHT_ISOLATE", type := .byte, accessFlags := 25, slot := 56, constantValue := 0 }, { name := "DIRECTIONALITY_RIGHT_TO_LEFT_ISOLATE", type := .byte, accessFlags := 25, slot := 57, constantValue := 0 }, { name := "DIRECTIONALITY_FIRST_STRONG_ISOLATE", type := .byte, accessFlags := 25, slot := 58, constantValue := 0 }, { name := "DIRECTIONALITY_POP_DIRECTIONAL_ISOLATE", type := .byte, accessFlags := 25, slot := 59, constantValue := 0 }, { name := "MIN_HIGH_SURROGATE", type := .char, accessFlags := 25, slot := 60, constantValue := 0 }, { name := "MAX_HIGH_SURROGATE", type := .char, accessFlags := 25, slot := 61, constantValue := 0 }, { name := "MIN_LOW_SURROGATE", type := .char, accessFlags := 25, slot := 62, constantValue := 0 }, { name := "MAX_LOW_SURROGATE", type := .char, accessFlags := 25, slot := 63, constantValue := 0 }, { name := "MIN_SURROGATE", type := .char, accessFlags := 25, slot := 64, constantValue := 0 }, { name := "MAX_SURROGATE", type := .char, accessFlags := 25, slot := 65, constantValue := 0 }, { name := "MIN_SUPPLEMENTARY_CODE_POINT", type := .int, accessFlags := 25, slot := 66, constantValue := 0 }, { name := "MIN_CODE_POINT", type := .int, accessFlags := 25, slot := 67, constantValue := 0 }, { name := "MAX_CODE_POINT", type := .int, accessFlags := 25, slot := 68, constantValue := 0 }, { name := "value", type := .char, accessFlags := 18, slot := 0, constantValue := 0 }, { name := "serialVersionUID", type := .long, accessFlags := 26, slot := 69, constantValue := 0 }, { name := "SIZE", type := .int, accessFlags := 25, slot := 70, constantValue := 0 }, { name := "BYTES", type := .int, accessFlags := 25, slot := 71, constantValue := 0 }, { name := "$assertionsDisabled", type := .boolean, accessFlags := 4120, slot := 72, constantValue := 0 }]
  methods := #[k13m0, k13m1]
  instanceTypes := #[.char]
  staticTypes := #[.int, .int, .char, .char, (.object "java/lang/Class"), .byte, .byte, .byte, .byte, .byte, .byte, .byte, .byte, .byte, .byte, .byte, .byte, .byte, .byte, .byte, .byte, .byte, .byte, .byte, .byte, .byte, .byte, .byte, .byte, .byte, .byte, .byte, .byte, .byte, .byte, .int, .byte, .byte, .byte, .byte, .byte, .byte, .byte, .byte, .byte, .byte, .byte, .byte, .byte, .byte, .byte, .byte, .byte, .byte, .byte, .byte, .byte, .byte, .byte, .byte, .char, .char, .char, .char, .char, .char, .int, .int, .int, .long, .int, .int, .boolean]
  resolved := Array.replicate 604 none
  statics := none }

def pool14 : Array CpInfo := pool [(9, u "<init>"), (6, .class_ 18), (1, u "java/lang/Object"), (0, u "()V"), (1, .class_ 23), (1, u "jdk/internal/util/ArraysSupport"), (0, u "LOG2_ARRAY_LONG_INDEX_SCALE"), (0, u "I"), (2, u "U"), (0, u "Ljdk/internal/misc/Unsafe;"), (8, u "BIG_ENDIAN"), (0, u "Z"), (8, u "LOG2_BYTE_BIT_SIZE"), (4, u "LOG2_ARRAY_INT_INDEX_SCALE"), (54, u "JLA"), (0, u "Ljdk/internal/access/JavaLangAccess;"), (11, u "LOG2_ARRAY_BOOLEAN_INDEX_SCALE"), (9, u "LOG2_ARRAY_BYTE_INDEX_SCALE"), (5, u "LOG2_ARRAY_CHAR_INDEX_SCALE"), (5, u "LOG2_ARRAY_SHORT_INDEX_SCALE"), (18, u "LOG2_ARRAY_FLOAT_INDEX_SCALE"), (24, u "LOG2_ARRAY_DOUBLE_INDEX_SCALE"), (89, u "T_BOOLEAN"), (2, u "T_CHAR"), (1, u "T_FLOAT"), (1, u "T_DOUBLE"), (1, u "T_BYTE"), (1, u "T_SHORT"), (1, u "T_INT"), (1, u "T_LONG"), (1, u "SOFT_MAX_ARRAY_LENGTH")] 83

def k14m0 : Method := { name := "<init>", desc := "()V", sig := { parameters := [], returnType := none }, accessFlags := 2, code := none }
/-- jdk/internal/util/ArraysSupport -/
def k14 : Class := { plain "jdk/internal/util/ArraysSupport" (some 0) with
  accessFlags := 33
  interfaces := #[]
  cf := some (fileOf pool14 21 #[] #[{ accessFlags := 2, nameIndex := 9, descriptorIndex := 19, attributes := #[] }] 33 16 #[] #[{ accessFlags := 24, nameIndex := 28, descriptorIndex := 29, attributes := #[] }, { accessFlags := 26, nameIndex := 38, descriptorIndex := 39, attributes := #[] }, { accessFlags := 25, nameIndex := 121, descriptorIndex := 25, attributes := #[] }, { accessFlags := 25, nameIndex := 131, descriptorIndex := 25, attributes := #[] }, { accessFlags := 25, nameIndex := 137, descriptorIndex := 25, attributes := #[] }, { accessFlags := 25, nameIndex := 143, descriptorIndex := 25, attributes := #[] }, { accessFlags := 25, nameIndex := 53, descriptorIndex := 25, attributes := #[] }, { accessFlags := 25, nameIndex := 24, descriptorIndex := 25, attributes := #[] }, { accessFlags := 25, nameIndex := 162, descriptorIndex := 25, attributes := #[] }, { accessFlags := 25, nameIndex := 187, descriptorIndex := 25, attributes := #[] }, { accessFlags := 26, nameIndex := 48, descriptorIndex := 25, attributes := #[] }, { accessFlags := 25, nameIndex := 277, descriptorIndex := 25, attributes := #[] }, { accessFlags := 25, nameIndex := 280, descriptorIndex := 25, attributes := #[] }, { accessFlags := 25, nameIndex := 282, descriptorIndex := 25, attributes := #[] }, { accessFlags := 25, nameIndex := 284, descriptorIndex := 25, attributes := #[] }, { accessFlags := 25, nameIndex := 286, descriptorIndex := 25, attributes := #[] }, { accessFlags := 25, nameIndex := 288, descriptorIndex := 25, attributes := #[] }, { accessFlags := 25, nameIndex := 290, descriptorIndex := 25, attributes := #[] }, { accessFlags := 25, nameIndex := 292, descriptorIndex := 25, attributes := #[] }, { accessFlags := 26, nameIndex := 108, descriptorIndex := 109, attributes := #[] }, { accessFlags := 25, nameIndex := 294, descriptorIndex := 25, attributes := #[] }])
  fields := #[{ name := "U", type := (.object "jdk/internal/misc/Unsafe"), accessFlags := 24, slot := 0, constantValue := 0 }, { name := "BIG_ENDIAN", type := .boolean, accessFlags := 26, slot := 1, constantValue := 0 }, { name := "LOG2_ARRAY_BOOLEAN_INDEX_SCALE", type := .int, accessFlags := 25, slot := 2, constantValue := 0 }, { name := "LOG2_ARRAY_BYTE_INDEX_SCALE", type := .int, accessFlags := 25, slot := 3, constantValue := 0 }, { name := "LOG2_ARRAY_CHAR_INDEX_SCALE", type := .int, accessFlags := 25, slot := 4, constantValue := 0 }, { name := "LOG2_ARRAY_SHORT_INDEX_SCALE", type := .int, accessFlags := 25, slot := 5, constantValue := 0 }, { name := "LOG2_ARRAY_INT_INDEX_SCALE", type := .int, accessFlags := 25, slot := 6, constantValue := 0 }, { name := "LOG2_ARRAY_LONG_INDEX_SCALE", type := .int, accessFlags := 25, slot := 7, constantValue := 0 }, { name := "LOG2_ARRAY_FLOAT_INDEX_SCALE", type := .int, accessFlags := 25, slot := 8, constantValue := 0 }, { name := "LOG2_ARRAY_DOUBLE_INDEX_SCALE", type := .int, accessFlags := 25, slot := 9, constantValue := 0 }, { name := "LOG2_BYTE_BIT_SIZE", type := .int, accessFlags := 26, slot := 10, constantValue := 0 }, { name := "T_BOOLEAN", type := .int, accessFlags := 25, slot := 11, constantValue := 0 }, { name := "T_CHAR", type := .int, accessFlags := 25, slot := 12, constantValue := 0 }, { name := "T_FLOAT", type := .int, accessFlags := 25, slot := 13, constantValue := 0 }, { name := "T_DOUBLE", type := .int, accessFlags := 25, slot := 14, constantValue := 0 }, { name := "T_BYTE", type := .int, accessFlags := 25, slot := 15, constantValue := 0 }, { name := "T_SHORT", type := .int, accessFlags := 25, slot := 16, constantValue := 0 }, { name := "T_INT", type := .int, accessFlags := 25, slot := 17, constantValue := 0 }, { name := "T_LONG", type := .int, accessFlags := 25, slot := 18, constantValue := 0 }, { name := "JLA", type := (.object "jdk/internal/access/JavaLangAccess"), accessFlags := 26, slot := 19, constantValue := 0 }, { name := "SOFT_MAX_ARRAY_LENGTH", type := .int, accessFlags := 25, slot := 20, constantValue := 0 }]
  methods := #[k14m0]
  instanceTypes := #[]
  staticTypes := #[(.object "jdk/internal/misc/Unsafe"), .boolean, .int, .int, .int, .int, .int, .int, .int, .int, .int, .int, .int, .int, .int, .int, .int, .int, .int, (.object "jdk/internal/access/JavaLangAccess"), .int]
  resolved := Array.replicate 378 none
  statics := none }

def pool15 : Array CpInfo := pool [(1, u "java/lang/Cloneable"), (0, .class_ 1), (0, u "java/lang/Object"), (0, .class_ 3)] 3

/-- java/lang/Cloneable -/
def k15 : Class := { plain "java/lang/Cloneable" (some 0) with
  accessFlags := 1537
  interfaces := #[]
  cf := some (fileOf pool15 2 #[] #[] 1537 4 #[] #[])
  fields := #[]
  methods := #[]
  instanceTypes := #[]
  staticTypes := #[]
  resolved := Array.replicate 8 none
  statics := none }

/-- the primitive byte -/
def k16 : Class := { plain "byte" none with kind := .primitive 'B', accessFlags := 0x411 }
/-- [B -/
def k17 : Class := { plain "[B" (some 0) with kind := .array 16 .byte, interfaces := #[15, 2], accessFlags := 1041 }

/-- the primitive char -/
def k18 : Class := { plain "char" none with kind := .primitive 'C', accessFlags := 0x411 }
/-- [C -/
def k19 : Class := { plain "[C" (some 0) with kind := .array 18 .char, interfaces := #[15, 2], accessFlags := 1041 }

/-- the primitive int -/
def k20 : Class := { plain "int" none with kind := .primitive 'I', accessFlags := 0x411 }
/-- [I -/
def k21 : Class := { plain "[I" (some 0) with kind := .array 20 .int, interfaces := #[15, 2], accessFlags := 1041 }

def heap : Heap := #[{ cls := 7, slots := #[.long 0, .int 1, .null, .int 0, .null, .int 0, .int 0], vm := .statics 7 },
  { cls := 10, slots := #[.int 0, .int 8, .int 0, .int 1], vm := .statics 10 },
  { cls := 12, slots := #[.null, .null, .null], vm := .statics 12 }]
def classes : Array Class := #[k0, k1, k2, k3, k4, k5, k6, k7, k8, k9, k10, k11, k12, k13, k14, k15, k16, k17, k18, k19, k20, k21]
def interned : List (Array UInt16 × Addr) := []
def slotsUsed : Nat := 14
def theMethod : MethodId := ⟨1, 3⟩
def args0 : Array Value := #[.int 5, .int 7, .int 9, .int 300]
def aboutOver (below : List Frame) : State where
  vm := { classes := classes, interned := interned.toArray }
  heap := heap
  slotsUsed := slotsUsed
  threads := #[{ frames := .invoking theMethod args0 :: below }]
def below0 : List Frame := [.native { method := ⟨0, 0⟩, args := #[] }]
def about1 : State := aboutOver below0
def p0 : Program := .bare "" "" ""
def e0 : Env := launch0.env 0 0 0
theorem w_frames : about1.frames = Frame.invoking theMethod args0 :: below0 := rfl
set_option maxRecDepth 65536 in
theorem w_args : argsFit about1.vm theMethod args0 = true := by decide +kernel
set_option maxRecDepth 65536 in
theorem w_heap : heapFits about1 = true := by decide +kernel
set_option maxRecDepth 65536 in
theorem w_runnable : about1.curStatus? = some .runnable := by decide +kernel
set_option maxRecDepth 65536 in
theorem w_alone : about1.alone = true := by decide +kernel
set_option maxRecDepth 65536 in
theorem w_named : about1.methodNamed? x = some theMethod := by decide +kernel
set_option maxRecDepth 65536 in
theorem w_hears : about1.hears theMethod below0 = true := by decide +kernel
set_option maxRecDepth 65536 in
theorem w_ripe : about1.ripe theMethod args0 below0 = true := by decide +kernel
theorem w_running : about1.status = .running := rfl
set_option maxRecDepth 65536 in
theorem w_room : about1.hasRoom e0.platform room_1 = true :=
  launch0.hasRoom_least _ room_1 (by decide +kernel) (by decide +kernel) (by decide +kernel) (by decide +kernel) (by decide +kernel) (by decide +kernel)
theorem allAtoms_all (ts : List Jvm.Cond) (a : Array Jvm.Value) (st : Jvm.State) : (allAtoms ts).before a st = ts.all (fun c => c.before a st) := by
  induction ts with
  | nil => rfl
  | cons c t ih =>
    show (Jvm.Cond.and c (allAtoms t)).before a st = _
    rw [Jvm.Cond.before_and, ih, List.all_cons]
def words1 : List Jvm.Cond := Jvm.Cond.code x code maxLocals ret :: tables_1
/-- a 'code' word, met by the world's own term for the bytes: nothing is compared byte by byte -/
theorem code_word {y : MethodName} {bytes : ByteArray} {mx : Nat} {rt : Option FieldType} {a : Array Value} {s : State} {m : MethodId} {meth : Method} {c : Code} (h1 : s.methodNamed? y = some m) (h2 : s.vm.method? m = some meth) (h3 : meth.code = some c) (h4 : c.code = bytes)
    (h5 : (c.maxLocals == mx && c.exceptionTable.isEmpty && decide (c.maxStack ≤ mostOperands) && decide (meth.sig.returnType = rt) && !meth.locks && decide (parseMethodDescriptor y.desc = some meth.sig)) = true) : (Jvm.Cond.code y bytes mx rt).before a s = true := by
  simp only [Bool.and_eq_true, beq_iff_eq, Bool.not_eq_true', decide_eq_true_eq] at h5
  obtain ⟨⟨⟨⟨⟨g1, g2⟩, g3⟩, g4⟩, g5⟩, g6⟩ := h5
  simp [Cond.before, Cond.holds, Cond.value, h1, h2, h3, h4, g1, g2, g3, g4, g5, g6]
def isCode : Jvm.Cond → Bool
  | .code _ _ _ _ => true
  | _ => false
theorem all_split {L : List Jvm.Cond} {P : Jvm.Cond → Bool} (h1 : L.all (fun c => isCode c || P c) = true) (h2 : ∀ c ∈ L.filter isCode, P c = true) : L.all P = true := by
  refine List.all_eq_true.mpr fun c hc => ?_
  have h := List.all_eq_true.mp h1 c hc
  rcases Bool.eq_false_or_eq_true (isCode c) with hi | hi
  · exact h2 c (List.mem_filter.mpr ⟨hc, hi⟩)
  · simpa [hi] using h
set_option maxRecDepth 65536 in
theorem w_c0 : (Jvm.Cond.code x code maxLocals ret).before args0 about1 = true := code_word (m := ⟨1, 3⟩) (meth := k1m3) (c := k1c3) (by decide +kernel) rfl rfl rfl (by decide +kernel)
set_option maxRecDepth 65536 in
theorem w_c1 : (Jvm.Cond.code ({ cls := "com/example/remora/remora/RequestPathHoldsControlCharacterPinLaw", name := "build", desc := "(ICCC)Ljava/lang/String;" } : Jvm.MethodName) method_3_code (4 : Nat) (Option.some (Jvm.ClassFile.FieldType.object "java/lang/String"))).before args0 about1 = true := code_word (m := ⟨1, 2⟩) (meth := k1m2) (c := k1c2) (by decide +kernel) rfl rfl rfl (by decide +kernel)
set_option maxRecDepth 65536 in
theorem w_c2 : (Jvm.Cond.code ({ cls := "java/lang/String", name := "<init>", desc := "([C)V" } : Jvm.MethodName) jdk_42_method_3_code (2 : Nat) (Option.none : Option Jvm.ClassFile.FieldType)).before args0 about1 = true := code_word (m := ⟨7, 1⟩) (meth := k7m1) (c := k7c1) (by decide +kernel) rfl rfl rfl (by decide +kernel)
set_option maxRecDepth 65536 in
theorem w_c3 : (Jvm.Cond.code ({ cls := "java/lang/String", name := "<init>", desc := "([CIILjava/lang/Void;)V" } : Jvm.MethodName) jdk_42_method_149_code (6 : Nat) (Option.none : Option Jvm.ClassFile.FieldType)).before args0 about1 = true := code_word (m := ⟨7, 4⟩) (meth := k7m4) (c := k7c4) (by decide +kernel) rfl rfl rfl (by decide +kernel)
set_option maxRecDepth 65536 in
theorem w_c4 : (Jvm.Cond.code ({ cls := "java/lang/Object", name := "<init>", desc := "()V" } : Jvm.MethodName) object_method_1_code (1 : Nat) (Option.none : Option Jvm.ClassFile.FieldType)).before args0 about1 = true := code_word (m := ⟨0, 0⟩) (meth := k0m0) (c := k0c0) (by decide +kernel) rfl rfl rfl (by decide +kernel)
set_option maxRecDepth 65536 in
theorem w_c5 : (Jvm.Cond.code ({ cls := "com/example/remora/remora/RequestPath", name := "holdsControlCharacter", desc := "(Ljava/lang/String;)Z" } : Jvm.MethodName) prog_11_method_4_code (3 : Nat) (Option.some Jvm.ClassFile.FieldType.boolean)).before args0 about1 = true := code_word (m := ⟨9, 0⟩) (meth := k9m0) (c := k9c0) (by decide +kernel) rfl rfl rfl (by decide +kernel)
set_option maxRecDepth 65536 in
theorem w_c6 : (Jvm.Cond.code ({ cls := "java/lang/String", name := "length", desc := "()I" } : Jvm.MethodName) jdk_42_method_54_code (1 : Nat) (Option.some Jvm.ClassFile.FieldType.int)).before args0 about1 = true := code_word (m := ⟨7, 2⟩) (meth := k7m2) (c := k7c2) (by decide +kernel) rfl rfl rfl (by decide +kernel)
set_option maxRecDepth 65536 in
theorem w_c7 : (Jvm.Cond.code ({ cls := "java/lang/String", name := "coder", desc := "()B" } : Jvm.MethodName) jdk_42_method_152_code (1 : Nat) (Option.some Jvm.ClassFile.FieldType.byte)).before args0 about1 = true := code_word (m := ⟨7, 5⟩) (meth := k7m5) (c := k7c5) (by decide +kernel) rfl rfl rfl (by decide +kernel)
set_option maxRecDepth 65536 in
theorem w_c8 : (Jvm.Cond.code ({ cls := "java/lang/StringUTF16", name := "compress", desc := "([CII)[B" } : Jvm.MethodName) jdk_52_method_16_code (6 : Nat) (Option.some (Jvm.ClassFile.FieldType.array Jvm.ClassFile.FieldType.byte))).before args0 about1 = true := code_word (m := ⟨10, 8⟩) (meth := k10m8) (c := k10c8) (by decide +kernel) rfl rfl rfl (by decide +kernel)
set_option maxRecDepth 65536 in
theorem w_c9 : (Jvm.Cond.code ({ cls := "java/lang/StringUTF16", name := "compress", desc := "([CI[BII)I" } : Jvm.MethodName) jdk_52_method_21_code (7 : Nat) (Option.some Jvm.ClassFile.FieldType.int)).before args0 about1 = true := code_word (m := ⟨10, 9⟩) (meth := k10m9) (c := k10c9) (by decide +kernel) rfl rfl rfl (by decide +kernel)
set_option maxRecDepth 65536 in
theorem w_c10 : (Jvm.Cond.code ({ cls := "java/lang/StringUTF16", name := "coderFromArrayLen", desc := "([BI)B" } : Jvm.MethodName) jdk_52_method_15_code (2 : Nat) (Option.some Jvm.ClassFile.FieldType.byte)).before args0 about1 = true := code_word (m := ⟨10, 7⟩) (meth := k10m7) (c := k10c7) (by decide +kernel) rfl rfl rfl (by decide +kernel)
set_option maxRecDepth 65536 in
theorem w_c11 : (Jvm.Cond.code ({ cls := "com/example/remora/remora/RequestPathHoldsControlCharacterPinLaw", name := "control", desc := "(C)Z" } : Jvm.MethodName) method_2_code (1 : Nat) (Option.some Jvm.ClassFile.FieldType.boolean)).before args0 about1 = true := code_word (m := ⟨1, 1⟩) (meth := k1m1) (c := k1c1) (by decide +kernel) rfl rfl rfl (by decide +kernel)
set_option maxRecDepth 65536 in
theorem w_c12 : (Jvm.Cond.code ({ cls := "java/lang/String", name := "charAt", desc := "(I)C" } : Jvm.MethodName) jdk_42_method_56_code (2 : Nat) (Option.some Jvm.ClassFile.FieldType.char)).before args0 about1 = true := code_word (m := ⟨7, 3⟩) (meth := k7m3) (c := k7c3) (by decide +kernel) rfl rfl rfl (by decide +kernel)
set_option maxRecDepth 65536 in
theorem w_c13 : (Jvm.Cond.code ({ cls := "java/lang/String", name := "isLatin1", desc := "()Z" } : Jvm.MethodName) jdk_42_method_154_code (1 : Nat) (Option.some Jvm.ClassFile.FieldType.boolean)).before args0 about1 = true := code_word (m := ⟨7, 6⟩) (meth := k7m6) (c := k7c6) (by decide +kernel) rfl rfl rfl (by decide +kernel)
set_option maxRecDepth 65536 in
theorem w_c14 : (Jvm.Cond.code ({ cls := "java/lang/StringLatin1", name := "charAt", desc := "([BI)C" } : Jvm.MethodName) jdk_43_method_2_code (2 : Nat) (Option.some Jvm.ClassFile.FieldType.char)).before args0 about1 = true := code_word (m := ⟨11, 1⟩) (meth := k11m1) (c := k11c1) (by decide +kernel) rfl rfl rfl (by decide +kernel)
set_option maxRecDepth 65536 in
theorem w_c15 : (Jvm.Cond.code ({ cls := "java/lang/String", name := "checkIndex", desc := "(II)V" } : Jvm.MethodName) jdk_42_method_155_code (2 : Nat) (Option.none : Option Jvm.ClassFile.FieldType)).before args0 about1 = true := code_word (m := ⟨7, 7⟩) (meth := k7m7) (c := k7c7) (by decide +kernel) rfl rfl rfl (by decide +kernel)
set_option maxRecDepth 65536 in
theorem w_c16 : (Jvm.Cond.code ({ cls := "jdk/internal/util/Preconditions", name := "checkIndex", desc := "(IILjava/util/function/BiFunction;)I" } : Jvm.MethodName) jdk_41_method_11_code (3 : Nat) (Option.some Jvm.ClassFile.FieldType.int)).before args0 about1 = true := code_word (m := ⟨12, 1⟩) (meth := k12m1) (c := k12c1) (by decide +kernel) rfl rfl rfl (by decide +kernel)
set_option maxRecDepth 65536 in
theorem w_c17 : (Jvm.Cond.code ({ cls := "java/lang/Character", name := "isISOControl", desc := "(C)Z" } : Jvm.MethodName) jdk_89_method_88_code (1 : Nat) (Option.some Jvm.ClassFile.FieldType.boolean)).before args0 about1 = true := code_word (m := ⟨13, 0⟩) (meth := k13m0) (c := k13c0) (by decide +kernel) rfl rfl rfl (by decide +kernel)
set_option maxRecDepth 65536 in
theorem w_c18 : (Jvm.Cond.code ({ cls := "java/lang/Character", name := "isISOControl", desc := "(I)Z" } : Jvm.MethodName) jdk_89_method_89_code (1 : Nat) (Option.some Jvm.ClassFile.FieldType.boolean)).before args0 about1 = true := code_word (m := ⟨13, 1⟩) (meth := k13m1) (c := k13c1) (by decide +kernel) rfl rfl rfl (by decide +kernel)
set_option maxRecDepth 65536 in
theorem w_c19 : (Jvm.Cond.code ({ cls := "java/lang/StringUTF16", name := "toBytes", desc := "([CII)[B" } : Jvm.MethodName) jdk_52_method_14_code (5 : Nat) (Option.some (Jvm.ClassFile.FieldType.array Jvm.ClassFile.FieldType.byte))).before args0 about1 = true := code_word (m := ⟨10, 6⟩) (meth := k10m6) (c := k10c6) (by decide +kernel) rfl rfl rfl (by decide +kernel)
set_option maxRecDepth 65536 in
theorem w_c20 : (Jvm.Cond.code ({ cls := "java/lang/StringUTF16", name := "newBytesFor", desc := "(I)[B" } : Jvm.MethodName) jdk_52_method_2_code (1 : Nat) (Option.some (Jvm.ClassFile.FieldType.array Jvm.ClassFile.FieldType.byte))).before args0 about1 = true := code_word (m := ⟨10, 1⟩) (meth := k10m1) (c := k10c1) (by decide +kernel) rfl rfl rfl (by decide +kernel)
set_option maxRecDepth 65536 in
theorem w_c21 : (Jvm.Cond.code ({ cls := "java/lang/StringUTF16", name := "newBytesLength", desc := "(I)I" } : Jvm.MethodName) jdk_52_method_3_code (1 : Nat) (Option.some Jvm.ClassFile.FieldType.int)).before args0 about1 = true := code_word (m := ⟨10, 2⟩) (meth := k10m2) (c := k10c2) (by decide +kernel) rfl rfl rfl (by decide +kernel)
set_option maxRecDepth 65536 in
theorem w_c22 : (Jvm.Cond.code ({ cls := "java/lang/StringUTF16", name := "putChar", desc := "([BII)V" } : Jvm.MethodName) jdk_52_method_4_code (3 : Nat) (Option.none : Option Jvm.ClassFile.FieldType)).before args0 about1 = true := code_word (m := ⟨10, 3⟩) (meth := k10m3) (c := k10c3) (by decide +kernel) rfl rfl rfl (by decide +kernel)
set_option maxRecDepth 65536 in
theorem w_c23 : (Jvm.Cond.code ({ cls := "java/lang/StringUTF16", name := "getChar", desc := "([BI)C" } : Jvm.MethodName) jdk_52_method_5_code (2 : Nat) (Option.some Jvm.ClassFile.FieldType.char)).before args0 about1 = true := code_word (m := ⟨10, 4⟩) (meth := k10m4) (c := k10c4) (by decide +kernel) rfl rfl rfl (by decide +kernel)
set_option maxRecDepth 65536 in
theorem w_c24 : (Jvm.Cond.code ({ cls := "java/lang/StringUTF16", name := "charAt", desc := "([BI)C" } : Jvm.MethodName) jdk_52_method_83_code (2 : Nat) (Option.some Jvm.ClassFile.FieldType.char)).before args0 about1 = true := code_word (m := ⟨10, 10⟩) (meth := k10m10) (c := k10c10) (by decide +kernel) rfl rfl rfl (by decide +kernel)
set_option maxRecDepth 65536 in
theorem w_c25 : (Jvm.Cond.code ({ cls := "java/lang/StringUTF16", name := "checkIndex", desc := "(I[B)V" } : Jvm.MethodName) jdk_52_method_91_code (2 : Nat) (Option.none : Option Jvm.ClassFile.FieldType)).before args0 about1 = true := code_word (m := ⟨10, 11⟩) (meth := k10m11) (c := k10c11) (by decide +kernel) rfl rfl rfl (by decide +kernel)
set_option maxRecDepth 65536 in
theorem w_c26 : (Jvm.Cond.code ({ cls := "java/lang/StringUTF16", name := "length", desc := "([B)I" } : Jvm.MethodName) jdk_52_method_6_code (1 : Nat) (Option.some Jvm.ClassFile.FieldType.int)).before args0 about1 = true := code_word (m := ⟨10, 5⟩) (meth := k10m5) (c := k10c5) (by decide +kernel) rfl rfl rfl (by decide +kernel)
def codes1 : List Jvm.Cond := [Jvm.Cond.code x code maxLocals ret, Jvm.Cond.code ({ cls := "com/example/remora/remora/RequestPathHoldsControlCharacterPinLaw", name := "build", desc := "(ICCC)Ljava/lang/String;" } : Jvm.MethodName) method_3_code (4 : Nat) (Option.some (Jvm.ClassFile.FieldType.object "java/lang/String")), Jvm.Cond.code ({ cls := "java/lang/String", name := "<init>", desc := "([C)V" } : Jvm.MethodName) jdk_42_method_3_code (2 : Nat) (Option.none : Option Jvm.ClassFile.FieldType), Jvm.Cond.code ({ cls := "java/lang/String", name := "<init>", desc := "([CIILjava/lang/Void;)V" } : Jvm.MethodName) jdk_42_method_149_code (6 : Nat) (Option.none : Option Jvm.ClassFile.FieldType), Jvm.Cond.code ({ cls := "java/lang/Object", name := "<init>", desc := "()V" } : Jvm.MethodName) object_method_1_code (1 : Nat) (Option.none : Option Jvm.ClassFile.FieldType), Jvm.Cond.code ({ cls := "com/example/remora/remora/RequestPath", name := "holdsControlCharacter", desc := "(Ljava/lang/String;)Z" } : Jvm.MethodName) prog_11_method_4_code (3 : Nat) (Option.some Jvm.ClassFile.FieldType.boolean), Jvm.Cond.code ({ cls := "java/lang/String", name := "length", desc := "()I" } : Jvm.MethodName) jdk_42_method_54_code (1 : Nat) (Option.some Jvm.ClassFile.FieldType.int), Jvm.Cond.code ({ cls := "java/lang/String", name := "coder", desc := "()B" } : Jvm.MethodName) jdk_42_method_152_code (1 : Nat) (Option.some Jvm.ClassFile.FieldType.byte), Jvm.Cond.code ({ cls := "java/lang/StringUTF16", name := "compress", desc := "([CII)[B" } : Jvm.MethodName) jdk_52_method_16_code (6 : Nat) (Option.some (Jvm.ClassFile.FieldType.array Jvm.ClassFile.FieldType.byte)), Jvm.Cond.code ({ cls := "java/lang/StringUTF16", name := "compress", desc := "([CI[BII)I" } : Jvm.MethodName) jdk_52_method_21_code (7 : Nat) (Option.some Jvm.ClassFile.FieldType.int), Jvm.Cond.code ({ cls := "java/lang/StringUTF16", name := "coderFromArrayLen", desc := "([BI)B" } : Jvm.MethodName) jdk_52_method_15_code (2 : Nat) (Option.some Jvm.ClassFile.FieldType.byte), Jvm.Cond.code ({ cls := "com/example/remora/remora/RequestPathHoldsControlCharacterPinLaw", name := "control", desc := "(C)Z" } : Jvm.MethodName) method_2_code (1 : Nat) (Option.some Jvm.ClassFile.FieldType.boolean), Jvm.Cond.code ({ cls := "java/lang/String", name := "charAt", desc := "(I)C" } : Jvm.MethodName) jdk_42_method_56_code (2 : Nat) (Option.some Jvm.ClassFile.FieldType.char), Jvm.Cond.code ({ cls := "java/lang/String", name := "isLatin1", desc := "()Z" } : Jvm.MethodName) jdk_42_method_154_code (1 : Nat) (Option.some Jvm.ClassFile.FieldType.boolean), Jvm.Cond.code ({ cls := "java/lang/StringLatin1", name := "charAt", desc := "([BI)C" } : Jvm.MethodName) jdk_43_method_2_code (2 : Nat) (Option.some Jvm.ClassFile.FieldType.char), Jvm.Cond.code ({ cls := "java/lang/String", name := "checkIndex", desc := "(II)V" } : Jvm.MethodName) jdk_42_method_155_code (2 : Nat) (Option.none : Option Jvm.ClassFile.FieldType), Jvm.Cond.code ({ cls := "jdk/internal/util/Preconditions", name := "checkIndex", desc := "(IILjava/util/function/BiFunction;)I" } : Jvm.MethodName) jdk_41_method_11_code (3 : Nat) (Option.some Jvm.ClassFile.FieldType.int), Jvm.Cond.code ({ cls := "java/lang/Character", name := "isISOControl", desc := "(C)Z" } : Jvm.MethodName) jdk_89_method_88_code (1 : Nat) (Option.some Jvm.ClassFile.FieldType.boolean), Jvm.Cond.code ({ cls := "java/lang/Character", name := "isISOControl", desc := "(I)Z" } : Jvm.MethodName) jdk_89_method_89_code (1 : Nat) (Option.some Jvm.ClassFile.FieldType.boolean), Jvm.Cond.code ({ cls := "java/lang/StringUTF16", name := "toBytes", desc := "([CII)[B" } : Jvm.MethodName) jdk_52_method_14_code (5 : Nat) (Option.some (Jvm.ClassFile.FieldType.array Jvm.ClassFile.FieldType.byte)), Jvm.Cond.code ({ cls := "java/lang/StringUTF16", name := "newBytesFor", desc := "(I)[B" } : Jvm.MethodName) jdk_52_method_2_code (1 : Nat) (Option.some (Jvm.ClassFile.FieldType.array Jvm.ClassFile.FieldType.byte)), Jvm.Cond.code ({ cls := "java/lang/StringUTF16", name := "newBytesLength", desc := "(I)I" } : Jvm.MethodName) jdk_52_method_3_code (1 : Nat) (Option.some Jvm.ClassFile.FieldType.int), Jvm.Cond.code ({ cls := "java/lang/StringUTF16", name := "putChar", desc := "([BII)V" } : Jvm.MethodName) jdk_52_method_4_code (3 : Nat) (Option.none : Option Jvm.ClassFile.FieldType), Jvm.Cond.code ({ cls := "java/lang/StringUTF16", name := "getChar", desc := "([BI)C" } : Jvm.MethodName) jdk_52_method_5_code (2 : Nat) (Option.some Jvm.ClassFile.FieldType.char), Jvm.Cond.code ({ cls := "java/lang/StringUTF16", name := "charAt", desc := "([BI)C" } : Jvm.MethodName) jdk_52_method_83_code (2 : Nat) (Option.some Jvm.ClassFile.FieldType.char), Jvm.Cond.code ({ cls := "java/lang/StringUTF16", name := "checkIndex", desc := "(I[B)V" } : Jvm.MethodName) jdk_52_method_91_code (2 : Nat) (Option.none : Option Jvm.ClassFile.FieldType), Jvm.Cond.code ({ cls := "java/lang/StringUTF16", name := "length", desc := "([B)I" } : Jvm.MethodName) jdk_52_method_6_code (1 : Nat) (Option.some Jvm.ClassFile.FieldType.int)]
set_option maxRecDepth 65536 in
theorem codes_eq : words1.filter isCode = codes1 := rfl
theorem w_codes : ∀ c ∈ words1.filter isCode, c.before args0 about1 = true := by
  rw [codes_eq]
  intro c hc
  simp only [codes1, List.mem_cons, List.not_mem_nil, or_false] at hc
  rcases hc with rfl | rfl | rfl | rfl | rfl | rfl | rfl | rfl | rfl | rfl | rfl | rfl | rfl | rfl | rfl | rfl | rfl | rfl | rfl | rfl | rfl | rfl | rfl | rfl | rfl | rfl | rfl
  · exact w_c0
  · exact w_c1
  · exact w_c2
  · exact w_c3
  · exact w_c4
  · exact w_c5
  · exact w_c6
  · exact w_c7
  · exact w_c8
  · exact w_c9
  · exact w_c10
  · exact w_c11
  · exact w_c12
  · exact w_c13
  · exact w_c14
  · exact w_c15
  · exact w_c16
  · exact w_c17
  · exact w_c18
  · exact w_c19
  · exact w_c20
  · exact w_c21
  · exact w_c22
  · exact w_c23
  · exact w_c24
  · exact w_c25
  · exact w_c26
set_option maxRecDepth 65536 in
theorem w_t1 : (words1.take 24).all (fun c => isCode c || c.before args0 about1) = true := by decide +kernel
set_option maxRecDepth 65536 in
theorem w_t2 : ((words1.drop 24).take 24).all (fun c => isCode c || c.before args0 about1) = true := by decide +kernel
set_option maxRecDepth 65536 in
theorem w_t3 : (((words1.drop 24).drop 24).take 24).all (fun c => isCode c || c.before args0 about1) = true := by decide +kernel
set_option maxRecDepth 65536 in
theorem w_t4 : ((((words1.drop 24).drop 24).drop 24).take 24).all (fun c => isCode c || c.before args0 about1) = true := by decide +kernel
set_option maxRecDepth 65536 in
theorem w_t5 : ((((words1.drop 24).drop 24).drop 24).drop 24).all (fun c => isCode c || c.before args0 about1) = true := by decide +kernel
theorem w_tables : (allAtoms (Jvm.Cond.code x code maxLocals ret :: tables_1)).before args0 about1 = true := by
  rw [allAtoms_all]
  show words1.all (fun c => c.before args0 about1) = true
  refine all_split ?_ w_codes
  rw [← List.take_append_drop 24 words1, List.all_append, w_t1, ← List.take_append_drop 24 (words1.drop 24), List.all_append, w_t2, ← List.take_append_drop 24 ((words1.drop 24).drop 24), List.all_append, w_t3, ← List.take_append_drop 24 (((words1.drop 24).drop 24).drop 24), List.all_append, w_t4, w_t5]
  rfl
set_option maxRecDepth 65536 in
theorem w_rest : rest_1_c.before args0 about1 = true := by decide +kernel
set_option maxRecDepth 65536 in
theorem w_case : (Jvm.Cond.and given_1 narrow_1).before args0 about1 = true := by decide +kernel
set_option maxRecDepth 65536 in
theorem w_consts : constsHeld consts_1 about1 := Jvm.Lit.constsHeldB_iff.mp (by decide +kernel)
theorem w_applies : (headSpec (Jvm.Cond.code x code maxLocals ret :: tables_1) room_1).applies x e0.platform about1 = true :=
  (Spec.applies_iff w_frames).mpr ⟨w_running, w_runnable, w_alone, w_named, w_hears, w_ripe, w_room, w_tables⟩
theorem atStart : AtStart classFile x code maxLocals ret World_1 tables_1 room_1 Calls_1 rest_1 Pre_1 launch0 p0 e0 about1 theMethod args0 below0 :=
  ⟨lists_1, trivial, launch0.admits_env _ _ _, launch0.least_env, fairChoices_fair.cas, fairChoices_fair.clock, w_frames, w_args, w_heap, w_applies, ⟨w_consts, trivial⟩, w_rest, w_case⟩
end start1
theorem witness_1 : WitnessClaimed_1 := ⟨start1.p0, start1.e0, start1.about1, start1.theMethod, start1.args0, start1.below0, start1.atStart⟩
end Jvm.Pilot.@@N@@
