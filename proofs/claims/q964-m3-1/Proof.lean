import JvmDerived
import JvmDerived.Pilot.@@N@@Statement
import JvmDerived.Pilot.@@N@@Code
set_option linter.unusedVariables false
set_option linter.unusedSimpArgs false
namespace Jvm.OwnKit
open Jvm Sem ClassFile Op Lib Jvm.Stand Jvm.Free Jvm.LawKit Jvm.RoadKit Bundle
/-- the rest of the walk comes to an end that Q allows -/
def Go (p : Program) (e : Env) (below : List Frame) (Q : Outcome → State → Prop) (t : State) : Prop :=
  ∃ s₂ o, Steps p.tables e below t s₂ ∧ s₂.status = .running ∧ Ended s₂ below o ∧ Q o s₂
theorem Go.of {p : Program} {e : Env} {below : List Frame} {Q : Outcome → State → Prop} {t t' : State} (h : ∀ target, Steps p.tables e below t' target → Steps p.tables e below t target) (g : Go p e below Q t') : Go p e below Q t := by
  obtain ⟨s₂, o, h1, r⟩ := g
  exact ⟨s₂, o, h _ h1, r⟩
/-- where the walk stands: T the state, V the tables on which it leans, h the heap, k cells and n slots booked -/
def St (p : Program) (l : Launch) (e : Env) (R : Room) (s : State) (m : MethodId) (args : Array Value) (below : List Frame) (meth : Method) (c : Code) (Z : State) (a0 : Array Value) (EL : List (String × Nat)) (n0 : Nat) (own : String) (T : State) (V : Vm) (h : Heap) (k n : Nat) : Prop :=
  p.tables.exec = Jvm.exec ∧ T.heap = h ∧ Z.Warmed39 V ∧ V.findClass own = some m.cls ∧ Old Z n0 h ∧ EW Z a0 EL ∧ CHr Z EL s.vm s.heap V h ∧ meth.locks = false ∧
  ∃ locs k0, Stand p l e R (s.setVm V) m args below meth c T locs k n ∧ s.Since V k0 ∧ k0 ≤ h.size ∧ Fr n0 locs
/-- the end of a walk -/
def FiniV (Z : State) (EL : List (String × Nat)) (n0 : Nat) (s : State) (rm : Room) (Q : Option Value → Heap → Vm → Prop) (o : Outcome) (U : State) : Prop :=
  ∃ v L, o = .returned v ∧ (Q v U.heap U.vm ∧ Fr n0 L ∧ Old Z n0 U.heap) ∧ CHr Z EL s.vm s.heap U.vm U.heap ∧ ReturnedEndW s o U L rm.cells rm.slots
abbrev Fini (Z : State) (EL : List (String × Nat)) (n0 : Nat) (s : State) (rm : Room) (Q : Option Value → Heap → Prop) : Outcome → State → Prop := FiniV Z EL n0 s rm (fun v h _ => Q v h)
/-- a callee's contract: handed as' at the heap h it returns v at a heap h' with Q v h' (and the tables there) -/
def CtrV (l : Launch) (Z : State) (EL : List (String × Nat)) (n0 : Nat) (y : MethodName) (bytes : ByteArray) (maxL : Nat) (ret : Option FieldType) (rm : Room) (as' : Array Value) (h : Heap) (sfs : List Addr) (Q : Option Value → Heap → Vm → Prop) : Prop :=
  ∀ ws : List Cond, MetFree l y (head1 (Cond.code y bytes maxL ret :: ws) rm) (fun a U => a = as' ∧ Z.Warmed39 U.vm ∧ U.heap = h ∧ CHv Z EL U.vm h ∧ ∀ x ∈ sfs, Safe Z EL U.vm h x) (fun _ _ _ _ _ => True) (fun _ U o U' => FiniV Z EL n0 U rm Q o U')
abbrev Ctr (l : Launch) (Z : State) (EL : List (String × Nat)) (n0 : Nat) (y : MethodName) (bytes : ByteArray) (maxL : Nat) (ret : Option FieldType) (rm : Room) (as' : Array Value) (h : Heap) (sfs : List Addr) (Q : Option Value → Heap → Prop) : Prop := CtrV l Z EL n0 y bytes maxL ret rm as' h sfs (fun v h _ => Q v h)
theorem ext_refl (h : Heap) : Ext h h := ⟨Nat.le_refl _, fun _ _ q => q⟩
theorem ext_trans {h h' h2 : Heap} (E : Ext h h') (F : Ext h' h2) : Ext h h2 := ⟨Nat.le_trans E.1 F.1, fun a c q => F.2 a c (E.2 a c q)⟩
theorem ext_keep {h h' h2 : Heap} {ws : List Addr} (E : Ext h h') (K : Keep h' h2 ws) (q : ∀ x ∈ ws, h.size ≤ x) : Ext h h2 := ⟨Nat.le_trans E.1 K.1, fun a c r => K.2.1 a c (E.2 a c r) fun z => absurd (Array.getElem?_eq_some_iff.mp r).1 (Nat.not_lt.mpr (q a z))⟩
theorem ext_keep1 {h h' h2 : Heap} {a : Addr} (E : Ext h h') (K : Keep h' h2 [a]) (q : h.size ≤ a) : Ext h h2 := ext_keep E K (allS q all0)
/-- arrays of two kinds are two -/
theorem arv_kne {Z : State} {h : Heap} {a b : Addr} {k1 k2 : ClassId} {t1 t2 : FieldType} {z1 z2 : Int32} {v1 v2 : List Value} {d1 d2 : Value} (A : Arv Z h a k1 t1 z1 v1 d1) (B : Arv Z h b k2 t2 z2 v2 d2) (hn : t1 ≠ t2) : a ≠ b := fun e => by
  subst e
  obtain ⟨c1, ⟨a1, ⟨-, kA, hkA, compA, hkindA⟩, -⟩, -⟩ := A
  obtain ⟨c2, ⟨b1, ⟨-, kB, hkB, compB, hkindB⟩, -⟩, -⟩ := B
  cases a1.symm.trans b1
  cases hkA.symm.trans hkB
  have q := hkindA.symm.trans hkindB
  injection q with _ e
  exact hn e
theorem faS {P : Int32 → Prop} {y : Int32} {L : List Int32} (q : P y) (r : ∀ x ∈ L, P x) : ∀ x ∈ y :: L, P x := fun x z => (List.mem_cons.mp z).elim (fun u => u ▸ q) (r x)
theorem fa0 {P : Int32 → Prop} : ∀ x ∈ ([] : List Int32), P x := fun _ q => nomatch q
theorem sf1 {Z : State} {EL : List (String × Nat)} {V : Vm} {h : Heap} {x : Addr} (q : x < h.size) (r : Safe Z EL V h x) : ∀ y ∈ [x], y < h.size ∧ Safe Z EL V h y := fun y z => by cases List.mem_singleton.mp z; exact ⟨q, r⟩
theorem narC {x : Int32} (h : ¬ x < 0 ∧ ¬ (65535 : Int32) < x) : nar .char x = x := by
  obtain ⟨h1, h2⟩ := h
  have q := c_i2c x
  rw [Int32.lt_iff_toInt_lt] at h1 h2
  have e1 : (65535 : Int32).toInt = 65535 := rfl
  have e2 : (0 : Int32).toInt = 0 := rfl
  show x.toUInt32.toUInt16.toUInt32.toInt32 = x
  apply Int32.toInt_inj.mp
  omega
theorem narC8 {x : Int32} (h : ¬ x < 0 ∧ ¬ (255 : Int32) < x) : nar .char x = x := narC ⟨h.1, fun q => h.2 (by rw [Int32.lt_iff_toInt_lt] at q ⊢; have e1 : (65535 : Int32).toInt = 65535 := rfl; have e2 : (255 : Int32).toInt = 255 := rfl; omega)⟩
/-- x & 255 -/
theorem and255 (x : Int32) : ¬ (x &&& 255) < 0 ∧ ¬ (255 : Int32) < (x &&& 255) := by
  have q := c_mask x 255 8 (by decide) (by decide)
  have e1 : (255 : Int32).toInt = 255 := rfl
  have e2 : (0 : Int32).toInt = 0 := rfl
  rw [Int32.lt_iff_toInt_lt, Int32.lt_iff_toInt_lt]
  omega
theorem and255L (x : Int64) : ¬ (x &&& 255).toInt32 < 0 ∧ ¬ (255 : Int32) < (x &&& 255).toInt32 := by
  have q := c_maskL x 255 8 (by decide) (by decide)
  have r := c_l2i (x &&& 255)
  have s := rng32 (x &&& 255).toInt32
  have e1 : (255 : Int32).toInt = 255 := rfl
  have e2 : (0 : Int32).toInt = 0 := rfl
  rw [Int32.lt_iff_toInt_lt, Int32.lt_iff_toInt_lt]
  omega
/-- an object of a class right under the root is none of another class -/
theorem noSub1 {Z : State} {a0 : Array Value} {C O K : String} {n : Nat} (w : (Cond.superclass C O).before a0 Z = true) (wo : (Cond.noSuperclass O).before a0 Z = true) (wi : (Cond.instantiable K n).before a0 Z = true) (h1 : C ≠ K) (h2 : O ≠ K) : ∃ c t, Z.vm.findClass C = some c ∧ Z.vm.findClass K = some t ∧ Z.vm.assignable c t = false := by
  obtain ⟨t, kt, g1, g2, g3, g4, -⟩ := Cond.instantiable_spec wi
  obtain ⟨co, ko, o1, o2, o3, -, -⟩ := Cond.noSuperclass_spec wo
  have g5 : kt.isInterface = false := (Bool.or_eq_false_iff.mp g4).1
  have nO : NS Z O K := ⟨co, t, o1, g1, fun fuel => by
    cases fuel with
    | zero => rfl
    | succ f => simp [Vm.isSubclassAux, ids_ne o1 g1 h2, o2, o3]⟩
  obtain ⟨c, t', h0, g0, n3⟩ := NS.step w nO h1
  cases g1.symm.trans g0
  obtain ⟨p, k, kp, q1, q2, q3, q4, q5, -, q7⟩ := Cond.superclass_spec h0 w
  refine ⟨c, t, h0, g1, ?_⟩
  show Z.vm.assignableAux (255 + 1) c t = false
  simp [Vm.assignableAux, ids_ne h0 g1 h1, q2, g2, q5, g3, g5, Vm.isSubclass, n3]
section Steps
variable {p : Program} {l : Launch} {e : Env} {R : Room} {s : State} {m : MethodId} {args : Array Value} {below : List Frame} {meth : Method} {c : Code} {Z : State} {a0 : Array Value} {EL : List (String × Nat)} {n0 : Nat} {own : String} {T : State} {V : Vm} {h : Heap} {k n : Nat} {Q : Outcome → State → Prop} {pc : Nat} {Ls : Array Slot} {rest : List Value}
theorem St.hx (S : St p l e R s m args below meth c Z a0 EL n0 own T V h k n) : p.tables.exec = Jvm.exec := S.1
theorem St.here (S : St p l e R s m args below meth c Z a0 EL n0 own T V h k n) : At T m c below := by
  obtain ⟨-, -, -, -, -, -, -, -, locs, k0, X, -⟩ := S; exact X.here
theorem St.old (S : St p l e R s m args below meth c Z a0 EL n0 own T V h k n) : Old Z n0 h := S.2.2.2.2.1
theorem St.chv (S : St p l e R s m args below meth c Z a0 EL n0 own T V h k n) : CHv Z EL V h := S.2.2.2.2.2.2.1.1
theorem St.warm (S : St p l e R s m args below meth c Z a0 EL n0 own T V h k n) : Z.Warmed39 V := S.2.2.1
theorem St.ew (S : St p l e R s m args below meth c Z a0 EL n0 own T V h k n) : EW Z a0 EL := S.2.2.2.2.2.1
theorem St.le (S : St p l e R s m args below meth c Z a0 EL n0 own T V h k n) : n0 ≤ h.size := S.old.1 ▸ S.old.2.1
theorem St.mono (S : St p l e R s m args below meth c Z a0 EL n0 own T V h k n) {k' n' : Nat} (hk' : k ≤ k') (hn' : n ≤ n') : St p l e R s m args below meth c Z a0 EL n0 own T V h k' n' := by
  obtain ⟨hx, eT, hZ, hown, hO, hE, hC, hlk, locs, k0, X, hS, hk, hF⟩ := S
  exact ⟨hx, eT, hZ, hown, hO, hE, hC, hlk, locs, k0, X.mono hk' hn', hS, hk, hF⟩
/-- a callee is entered -/
theorem CtrV.intro {y : MethodName} {bytes : ByteArray} {maxL : Nat} {ret : Option FieldType} {rm : Room} {as' : Array Value} {sfs : List Addr} {QQ : Option Value → Heap → Vm → Prop} (hp : plainFor y = true) (hO : Old Z n0 h) (hE : EW Z a0 EL)
    (body : ∀ (p : Program) (e : Env) (s : State) (m : MethodId) (below : List Frame) (meth : Method) (c : Code) (T : State) (V : Vm), St p l e rm s m as' below meth c Z a0 EL n0 y.cls T V h 0 0 → c.code = bytes → c.maxLocals = maxL → meth.sig.returnType = ret → meth.name = y.name → (∀ x ∈ sfs, Safe Z EL V h x) →
      Go p e below (FiniV Z EL n0 s rm QQ) (T.setTop (entryFrame m as' maxL))) :
    CtrV l Z EL n0 y bytes maxL ret rm as' h sfs QQ := by
  intro ws
  refine MetFree.of_bodySF hp hisR ?_
  intro p e s m args below meth c s₁ Bd hml0 hP hK
  obtain ⟨rfl, hZ, hh, hC, hsf⟩ := hP
  have X0 : Stand p l e rm s m args below meth c s₁ [] 0 0 := Stand.of_body Bd
  have e0 : s₁.heap = h := by rw [← hh, Bd.state]; rfl
  have hC0 : CHr Z EL s.vm s.heap s.vm h := by rw [hh]; exact CHr.refl hC
  exact body p e s m below meth c s₁ s.vm ⟨Bd.exec, e0, hZ, findClass_of_methodNamed Bd.named, hO, hE, hC0, Bd.notSynchronized, [], h.size, X0, (State.WarmedH.refl s).since _, Nat.le_refl _, Fr.nil n0⟩ Bd.bytes hml0 Bd.returns (name_of_methodNamed Bd.named Bd.method).1 hsf
theorem Ctr.intro {y : MethodName} {bytes : ByteArray} {maxL : Nat} {ret : Option FieldType} {rm : Room} {as' : Array Value} {sfs : List Addr} {QQ : Option Value → Heap → Prop} (hp : plainFor y = true) (hO : Old Z n0 h) (hE : EW Z a0 EL)
    (body : ∀ (p : Program) (e : Env) (s : State) (m : MethodId) (below : List Frame) (meth : Method) (c : Code) (T : State) (V : Vm), St p l e rm s m as' below meth c Z a0 EL n0 y.cls T V h 0 0 → c.code = bytes → c.maxLocals = maxL → meth.sig.returnType = ret → meth.name = y.name → (∀ x ∈ sfs, Safe Z EL V h x) →
      Go p e below (Fini Z EL n0 s rm QQ) (T.setTop (entryFrame m as' maxL))) :
    Ctr l Z EL n0 y bytes maxL ret rm as' h sfs QQ := CtrV.intro hp hO hE body
theorem St.endV {QQ : Option Value → Heap → Vm → Prop} (S : St p l e R s m args below meth c Z a0 EL n0 own T V h k n) {v : Option Value} (hv : meth.sig.returnType = none → v = none) (q : (∀ x, x < h.size → Safe Z EL V h x → Safe Z EL T.vm h x) → QQ v h T.vm) (hc : k ≤ R.cells) (hl : n ≤ R.slots) {t : State}
    (st : ∀ fs, (∀ (f : JFrame) (acts : List Action), f.method = m → f.locked = none → f.entered = [] → (doReturn e (T.setTop f) acts v).1 = T.setFrames fs) → Steps p.tables e below t (T.setFrames fs)) : Go p e below (FiniV Z EL n0 s R QQ) t := by
  obtain ⟨hx, eT, hZ, hown, hO, hE, hC, hlk, locs, k0, X, hS, hk, hF⟩ := S
  subst eT
  obtain ⟨fs, hr, hrun, hend, hw⟩ := X.leaveW hS hk hv hlk
  have qc := CHv.at X hZ hE hC.1
  refine ⟨_, _, st fs hr, hrun, hend, v, locs, rfl, ⟨q fun x hx sx => qc.safe hx sx, hF, hO⟩, (show CHr Z EL s.vm s.heap T.vm T.heap from hC.trans (CHv.at X hZ hE hC.1)), ?_⟩
  obtain ⟨w1, w2, w3, w4⟩ := hw
  exact ⟨w1, w2, w3, w4.mono hc hl⟩
theorem St.end_ {QQ : Option Value → Heap → Prop} (S : St p l e R s m args below meth c Z a0 EL n0 own T V h k n) {v : Option Value} (hv : meth.sig.returnType = none → v = none) (q : QQ v h) (hc : k ≤ R.cells) (hl : n ≤ R.slots) {t : State}
    (st : ∀ fs, (∀ (f : JFrame) (acts : List Action), f.method = m → f.locked = none → f.entered = [] → (doReturn e (T.setTop f) acts v).1 = T.setFrames fs) → Steps p.tables e below t (T.setFrames fs)) : Go p e below (Fini Z EL n0 s R QQ) t := S.endV (QQ := fun v h _ => QQ v h) hv (fun _ => q) hc hl st
theorem g_aretV {QQ : Option Value → Heap → Vm → Prop} {v : Value} (S : St p l e R s m args below meth c Z a0 EL n0 own T V h k n) (hd : decode c.code pc = .ok (.areturn, 1)) {t : FieldType} (hret : meth.sig.returnType = some t) (ht : t.isReference = true) (hn : narrow t v = v) (hv : v.isRef = true) (q : (∀ x, x < h.size → Safe Z EL V h x → Safe Z EL T.vm h x) → QQ (some v) h T.vm) (hc : k ≤ R.cells := by exact Nat.le_of_ble_eq_true rfl) (hl : n ≤ R.slots := by exact Nat.le_of_ble_eq_true rfl) : Go p e below (FiniV Z EL n0 s R QQ) (T.setTop (mkF m pc Ls (v :: rest))) := by
  refine S.endV (v := some v) (fun h => by rw [hret] at h; cases h) q hc hl fun fs hr => ?_
  obtain ⟨hx, eT, hZ, hown, hO, hE, hC, hlk, locs, k0, X, hS, hk, hF⟩ := S
  exact retOut X hx hret hn (Or.inr (Or.inr (Or.inr (Or.inr ⟨rfl, ht, hv⟩)))) hd hr
theorem g_ret {QQ : Option Value → Heap → Prop} (S : St p l e R s m args below meth c Z a0 EL n0 own T V h k n) (hd : decode c.code pc = .ok (.return_, 1)) (hret : meth.sig.returnType = none) (q : QQ none h) (hc : k ≤ R.cells := by exact Nat.le_of_ble_eq_true rfl) (hl : n ≤ R.slots := by exact Nat.le_of_ble_eq_true rfl) : Go p e below (Fini Z EL n0 s R QQ) (T.setTop (mkF m pc Ls [])) := by
  refine S.end_ (v := none) (fun _ => rfl) q hc hl fun fs hr => ?_
  obtain ⟨hx, eT, hZ, hown, hO, hE, hC, hlk, locs, k0, X, hS, hk, hF⟩ := S
  exact X.returnOut hx hret hd hr
theorem g_iretN {QQ : Option Value → Heap → Prop} {z : Int32} (S : St p l e R s m args below meth c Z a0 EL n0 own T V h k n) (hd : decode c.code pc = .ok (.ireturn, 1)) {t : FieldType} (hret : meth.sig.returnType = some t) (ht : t = .boolean ∨ t = .byte ∨ t = .char ∨ t = .short) (q : QQ (some (.int (nar t z))) h) (hc : k ≤ R.cells := by exact Nat.le_of_ble_eq_true rfl) (hl : n ≤ R.slots := by exact Nat.le_of_ble_eq_true rfl) : Go p e below (Fini Z EL n0 s R QQ) (T.setTop (mkF m pc Ls (.int z :: rest))) := by
  refine S.end_ (v := some (.int (nar t z))) (fun h => by rw [hret] at h; cases h) q hc hl fun fs hr => ?_
  obtain ⟨hx, eT, hZ, hown, hO, hE, hC, hlk, locs, k0, X, hS, hk, hF⟩ := S
  exact retN X hx hret ht hd hr
theorem g_iret {QQ : Option Value → Heap → Prop} {z : Int32} (S : St p l e R s m args below meth c Z a0 EL n0 own T V h k n) (hd : decode c.code pc = .ok (.ireturn, 1)) (hret : meth.sig.returnType = some .int) (q : QQ (some (.int z)) h) (hc : k ≤ R.cells := by exact Nat.le_of_ble_eq_true rfl) (hl : n ≤ R.slots := by exact Nat.le_of_ble_eq_true rfl) : Go p e below (Fini Z EL n0 s R QQ) (T.setTop (mkF m pc Ls (.int z :: rest))) := by
  refine S.end_ (v := some (.int z)) (fun h => by rw [hret] at h; cases h) q hc hl fun fs hr => ?_
  obtain ⟨hx, eT, hZ, hown, hO, hE, hC, hlk, locs, k0, X, hS, hk, hF⟩ := S
  exact retOut X hx hret rfl (Or.inl ⟨rfl, Or.inl rfl, z, rfl⟩) hd hr
theorem g_lret {QQ : Option Value → Heap → Prop} {z : Int64} (S : St p l e R s m args below meth c Z a0 EL n0 own T V h k n) (hd : decode c.code pc = .ok (.lreturn, 1)) (hret : meth.sig.returnType = some .long) (q : QQ (some (.long z)) h) (hc : k ≤ R.cells := by exact Nat.le_of_ble_eq_true rfl) (hl : n ≤ R.slots := by exact Nat.le_of_ble_eq_true rfl) : Go p e below (Fini Z EL n0 s R QQ) (T.setTop (mkF m pc Ls (.long z :: rest))) := by
  refine S.end_ (v := some (.long z)) (fun h => by rw [hret] at h; cases h) q hc hl fun fs hr => ?_
  obtain ⟨hx, eT, hZ, hown, hO, hE, hC, hlk, locs, k0, X, hS, hk, hF⟩ := S
  exact retOut X hx hret rfl (Or.inr (Or.inl ⟨rfl, rfl, z, rfl⟩)) hd hr
theorem g_aret {QQ : Option Value → Heap → Prop} {v : Value} (S : St p l e R s m args below meth c Z a0 EL n0 own T V h k n) (hd : decode c.code pc = .ok (.areturn, 1)) {t : FieldType} (hret : meth.sig.returnType = some t) (ht : t.isReference = true) (hn : narrow t v = v) (hv : v.isRef = true) (q : QQ (some v) h) (hc : k ≤ R.cells := by exact Nat.le_of_ble_eq_true rfl) (hl : n ≤ R.slots := by exact Nat.le_of_ble_eq_true rfl) : Go p e below (Fini Z EL n0 s R QQ) (T.setTop (mkF m pc Ls (v :: rest))) := by
  refine S.end_ (v := some v) (fun h => by rw [hret] at h; cases h) q hc hl fun fs hr => ?_
  obtain ⟨hx, eT, hZ, hown, hO, hE, hC, hlk, locs, k0, X, hS, hk, hF⟩ := S
  exact retOut X hx hret hn (Or.inr (Or.inr (Or.inr (Or.inr ⟨rfl, ht, hv⟩)))) hd hr
theorem g_getF (S : St p l e R s m args below meth c Z a0 EL n0 own T V h k n) {R0 O nm d : String} {index : Nat} (w : (Cond.fieldLink own index R0 nm d).before a0 Z = true) (via : Via Z R0 O nm d) {a : Addr} {v : Value} (F : Fld Z h a O nm d v) (hd : decode c.code pc = .ok (.getfield index, 3))
    (go : ∀ T', St p l e R s m args below meth c Z a0 EL n0 own T' V h k n → Go p e below Q (T'.setTop (mkF m (pc + 3) Ls (v :: rest)))) : Go p e below Q (T.setTop (mkF m pc Ls (.ref a :: rest))) := by
  obtain ⟨hx, eT, hZ, hown, hO, hE, hC, hlk, locs, k0, X, hS, hk, hF⟩ := S
  obtain ⟨T', X', e', st⟩ := getF X hx hZ hown (host := "") (Or.inl w) via eT F (g := mkF m pc Ls (.ref a :: rest)) rfl rfl hd
  exact Go.of st (go T' ⟨hx, e', hZ, hown, hO, hE, hC, hlk, locs, k0, X', hS, hk, hF⟩)
theorem g_getS (S : St p l e R s m args below meth c Z a0 EL n0 own T V h k n) {R0 O nm d : String} {index : Nat} (w : (Cond.fieldLink own index R0 nm d).before a0 Z = true) (via : Via Z R0 O nm d) {v : Value} (F : Sta Z h O nm d v) (hd : decode c.code pc = .ok (.getstatic index, 3))
    (go : ∀ T', St p l e R s m args below meth c Z a0 EL n0 own T' V h k n → Go p e below Q (T'.setTop (mkF m (pc + 3) Ls (v :: rest)))) : Go p e below Q (T.setTop (mkF m pc Ls rest)) := by
  obtain ⟨hx, eT, hZ, hown, hO, hE, hC, hlk, locs, k0, X, hS, hk, hF⟩ := S
  obtain ⟨T', X', e', st⟩ := getS X hx hZ hown (host := "") w via eT F (g := mkF m pc Ls rest) rfl hd
  exact Go.of st (go T' ⟨hx, e', hZ, hown, hO, hE, hC, hlk, locs, k0, X', hS, hk, hF⟩)
theorem g_cast (S : St p l e R s m args below meth c Z a0 EL n0 own T V h k n) {K : String} {index : Nat} (w : (Cond.classLink own index K).before a0 Z = true) {a : Addr} (F : Ins Z h a K true) (hd : decode c.code pc = .ok (.checkcast index, 3))
    (go : ∀ T', St p l e R s m args below meth c Z a0 EL n0 own T' V h k n → Go p e below Q (T'.setTop (mkF m (pc + 3) Ls (.ref a :: rest)))) : Go p e below Q (T.setTop (mkF m pc Ls (.ref a :: rest))) := by
  obtain ⟨hx, eT, hZ, hown, hO, hE, hC, hlk, locs, k0, X, hS, hk, hF⟩ := S
  obtain ⟨T', X', e', st⟩ := castY X hx hZ hown w eT F (g := mkF m pc Ls (.ref a :: rest)) rfl rfl hd
  exact Go.of st (go T' ⟨hx, e', hZ, hown, hO, hE, hC, hlk, locs, k0, X', hS, hk, hF⟩)
theorem g_inst (S : St p l e R s m args below meth c Z a0 EL n0 own T V h k n) {K : String} {index : Nat} (w : (Cond.classLink own index K).before a0 Z = true) {a : Addr} (F : Ins Z h a K true) (hd : decode c.code pc = .ok (.instanceof index, 3))
    (go : ∀ T', St p l e R s m args below meth c Z a0 EL n0 own T' V h k n → Go p e below Q (T'.setTop (mkF m (pc + 3) Ls (.int 1 :: rest)))) : Go p e below Q (T.setTop (mkF m pc Ls (.ref a :: rest))) := by
  obtain ⟨hx, eT, hZ, hown, hO, hE, hC, hlk, locs, k0, X, hS, hk, hF⟩ := S
  obtain ⟨T', X', e', st⟩ := instY X hx hZ hown w eT F (g := mkF m pc Ls (.ref a :: rest)) rfl rfl hd
  exact Go.of st (go T' ⟨hx, e', hZ, hown, hO, hE, hC, hlk, locs, k0, X', hS, hk, hF⟩)
theorem g_new (S : St p l e R s m args below meth c Z a0 EL n0 own T V h k n) {C : String} {index sz : Nat} (w : (Cond.classLink own index C).before a0 Z = true) (wi : (Cond.instantiable C sz).before a0 Z = true) (wz : (Cond.initialized C).before a0 Z = true) (hd : decode c.code pc = .ok (.new index, 3)) (hc : k + 1 ≤ R.cells) (hl : n + sz ≤ R.slots)
    (go : ∀ T' h' a, St p l e R s m args below meth c Z a0 EL n0 own T' V h' (k + 1) (n + sz) → Ext h h' → h.size ≤ a → a < h'.size → n0 ≤ a → Safe Z EL V h' a → Exa Z h' a C → (∀ {O nm d : String} {ty : FieldType}, Laid Z a0 C O nm d → parseFieldDescriptor d = some ty → Fld Z h' a O nm d (defaultValue ty)) →
      Go p e below Q (T'.setTop (mkF m (pc + 3) Ls (.ref a :: rest)))) : Go p e below Q (T.setTop (mkF m pc Ls rest)) := by
  have hle := S.le
  obtain ⟨hx, eT, hZ, hown, hO, hE, hC, hlk, locs, k0, X, hS, hk, hF⟩ := S
  obtain ⟨T', h', X', e', E, A, D, -, st⟩ := newO X hx hZ hown w wi wz eT (g := mkF m pc Ls rest) rfl hd hc hl
  exact Go.of st (go T' h' h.size ⟨hx, e', hZ, hown, hO.ext E, hE, hC.trans (CHr.ext E hC.1), hlk, locs, k0, X', hS, Nat.le_trans hk E.1, hF⟩ E (Nat.le_refl _) A.lt hle ((Safe.new (Nat.le_refl _)).ext E hC.1) A D)
theorem g_newarr (S : St p l e R s m args below meth c Z a0 EL n0 own T V h k n) {aty : ArrayType} (w : (Cond.arrayClass (newarray.typeOf aty)).before a0 Z = true) (hd : decode c.code pc = .ok (.newarray aty, 2)) {z : Int32} (hz : ¬ z < 0) {cap : Nat} (hcap : z.toNatClampNeg ≤ cap) (hb : cap * 8 ≤ 536870912) (hc : k + 1 ≤ R.cells) (hl : n + cap ≤ R.slots)
    (go : ∀ T' h' a kc, St p l e R s m args below meth c Z a0 EL n0 own T' V h' (k + 1) (n + cap) → Ext h h' → h.size ≤ a → a < h'.size → n0 ≤ a → Safe Z EL V h' a → (∀ j, Arv Z h' a kc (newarray.typeOf aty) z (List.replicate j (defaultValue (newarray.typeOf aty))) (defaultValue (newarray.typeOf aty))) →
      Go p e below Q (T'.setTop (mkF m (pc + 2) Ls (.ref a :: rest)))) : Go p e below Q (T.setTop (mkF m pc Ls (.int z :: rest))) := by
  have hle := S.le
  obtain ⟨hx, eT, hZ, hown, hO, hE, hC, hlk, locs, k0, X, hS, hk, hF⟩ := S
  obtain ⟨T', h', kc, X', e', E, A, st⟩ := newP X hx hZ w eT (g := mkF m pc Ls (.int z :: rest)) rfl hd rfl hz hcap hb hc hl
  exact Go.of st (go T' h' h.size kc ⟨hx, e', hZ, hown, hO.ext E, hE, hC.trans (CHr.ext E hC.1), hlk, locs, k0, X', hS, Nat.le_trans hk E.1, hF⟩ E (Nat.le_refl _) A.lt hle ((Safe.new (Nat.le_refl _)).ext E hC.1) fun j => (Arv.new A hz).pad (pad_rep [] _ j))
theorem g_castore (S : St p l e R s m args below meth c Z a0 EL n0 own T V h k n) {a : Addr} {kc : ClassId} {z : Int32} {vs : List Value} {dv : Value} (A : Arv Z h a kc .char z vs dv) {j x : Int32} (hj : ¬ j < 0 ∧ j < z) (i : Nat) (hi : j.toNatClampNeg = i) (hlt : i < vs.length) (na : n0 ≤ a) (hd : decode c.code pc = .ok (.castore, 1))
    (go : ∀ T' h', St p l e R s m args below meth c Z a0 EL n0 own T' V h' k n → Keep h h' [a] → Arv Z h' a kc .char z (vs.set i (.int (nar .char x))) dv → Go p e below Q (T'.setTop (mkF m (pc + 1) Ls rest))) : Go p e below Q (T.setTop (mkF m pc Ls (.int x :: .int j :: .ref a :: rest))) := by
  obtain ⟨hx, eT, hZ, hown, hO, hE, hC, hlk, locs, k0, X, hS, hk, hF⟩ := S
  have sf : Safe Z EL V h a := Safe.arv hZ.alike A (by decide)
  obtain ⟨cl, Ar, q1, q2, q3, q4, q5⟩ := A
  obtain ⟨T', h', X', e', W, st⟩ := stC X hx hZ eT Ar (j := j) (x := x) (inb_of q2 hj) (g := mkF m pc Ls (.int x :: .int j :: .ref a :: rest)) rfl rfl hd
  have K := Keep.of_wr W
  exact Go.of st (go T' h' ⟨hx, e', hZ, hown, hO.wr W na, hE, hC.trans (CHr.wr W sf hC.1), hlk, _, k0, X', hS, Nat.le_trans hk K.1, Fr.snoc X' hF na⟩ K (Arv.set Ar q1 q2 q3 q4 q5 (fits_nar_char x) W i hi hlt))
theorem g_putF (S : St p l e R s m args below meth c Z a0 EL n0 own T V h k n) {R0 O nm d C : String} {index kk : Nat} {ty : FieldType} (w : (Cond.fieldLink own index R0 nm d).before a0 Z = true) (via : Via Z R0 O nm d) {a : Addr} {v v' old : Value} (F : Fld Z h a O nm d old) (E : Exa Z h a C)
    (L : (Cond.lays C O nm d).before a0 Z = true ∨ ((Cond.laysFinal C O nm d).before a0 Z = true ∧ own = O ∧ meth.name = "<init>")) (wi : (Cond.instantiable C kk).before a0 Z = true) (hty : parseFieldDescriptor d = some ty) (hn : narrow ty v = v') (hf : fits ty v' = true) (na : n0 ≤ a) (sf : Safe Z EL V h a) (hd : decode c.code pc = .ok (.putfield index, 3))
    (go : ∀ T' h', St p l e R s m args below meth c Z a0 EL n0 own T' V h' k n → Keep h h' [a] → Wr h h' a (Jvm.RoadKit.slotOf Z O nm d) v' → Exa Z h' a C → Fld Z h' a O nm d v' → Safe Z EL V h' a → Go p e below Q (T'.setTop (mkF m (pc + 3) Ls rest))) : Go p e below Q (T.setTop (mkF m pc Ls (v :: .ref a :: rest))) := by
  obtain ⟨hx, eT, hZ, hown, hO, hE, hC, hlk, locs, k0, X, hS, hk, hF⟩ := S
  obtain ⟨T', h', X', e', W, st⟩ := putFN X hx hZ hown w via eT F E L wi hty hn hf (g := mkF m pc Ls (v :: .ref a :: rest)) rfl rfl hd
  have K := Keep.of_wr W
  exact Go.of st (go T' h' ⟨hx, e', hZ, hown, hO.wr W na, hE, hC.trans (CHr.wr W sf hC.1), hlk, _, k0, X', hS, Nat.le_trans hk K.1, Fr.snoc X' hF na⟩ K W (E.wr W) (F.same W) (Safe.wr W sf hC.1 sf))
theorem g_initO (S : St p l e R s m args below meth c Z a0 EL n0 own T V h k n) {index : Nat} (w1 : (Cond.methodLink own index Lib.objectInit).before a0 Z = true) (w2 : (Cond.instanceMethod Lib.objectInit).before a0 Z = true) (w3 : (Cond.code Lib.objectInit ⟨#[0xb1]⟩ 1 none).before a0 Z = true) (hsz : Ls.size = c.maxLocals) {a : Addr} (hd : decode c.code pc = .ok (.invokespecial index, 3)) (hf : 1 ≤ R.frames) (hl : (rest.map fun v => v.category).sum + 12 ≤ R.locals)
    (go : ∀ T', St p l e R s m args below meth c Z a0 EL n0 own T' V h k n → Go p e below Q (T'.setTop (mkF m (pc + 3) Ls rest))) : Go p e below Q (T.setTop (mkF m pc Ls (.ref a :: rest))) := by
  obtain ⟨hx, eT, hZ, hown, hO, hE, hC, hlk, locs, k0, X, hS, hk, hF⟩ := S
  obtain ⟨T', X', e', st⟩ := initO X hx hZ hown w1 w2 w3 eT (g := mkF m pc Ls (.ref a :: rest)) rfl hsz rfl hd hf (W := (rest.map fun v => v.category).sum) (by show 2 * 0 + _ ≤ _; omega) hl
  exact Go.of st (go T' ⟨hx, e', hZ, hown, hO, hE, hC, hlk, locs, k0, X', hS, hk, hF⟩)
theorem g_ldcI (S : St p l e R s m args below meth c Z a0 EL n0 own T V h k n) {index : Nat} {v : Int32} (w : (Cond.constant own index v).before a0 Z = true) (hd : decode c.code pc = .ok (.ldc index, 2)) (go : Go p e below Q (T.setTop (mkF m (pc + 2) Ls (.int v :: rest)))) : Go p e below Q (T.setTop (mkF m pc Ls rest)) := by
  obtain ⟨hx, eT, hZ, hown, hO, hE, hC, hlk, locs, k0, X, hS, hk, hF⟩ := S
  exact Go.of (fun _ q => X.ldcInt hx hown (mvT hZ w) (g := mkF m pc Ls rest) rfl hd _ q) go
theorem g_ldcJ (S : St p l e R s m args below meth c Z a0 EL n0 own T V h k n) {index : Nat} {v : Int64} (w : (Cond.constantLong own index v).before a0 Z = true) (hd : decode c.code pc = .ok (.ldc2_w index, 3)) (go : Go p e below Q (T.setTop (mkF m (pc + 3) Ls (.long v :: rest)))) : Go p e below Q (T.setTop (mkF m pc Ls rest)) := by
  obtain ⟨hx, eT, hZ, hown, hO, hE, hC, hlk, locs, k0, X, hS, hk, hF⟩ := S
  exact Go.of (fun _ q => X.ldc2Long hx hown (mvT hZ w) (g := mkF m pc Ls rest) rfl hd _ q) go
/-- a String constant whose text isn't read -/
theorem g_ldcO (S : St p l e R s m args below meth c Z a0 EL n0 own T V h k n) {index : Nat} {text : String} (w : (Cond.stringLink own index text).before a0 Z = true) (wS : ∀ a ∈ Bundle.stringAtoms, a.before a0 Z = true) (hd : decode c.code pc = .ok (.ldc index, 2)) {b : Nat} (hb : 4 * text.toList.length ≤ b) (hbig : b ≤ 536870912) (hc : k + 2 ≤ R.cells) (hl : n + (b + 4) ≤ R.slots)
    (go : ∀ a T' V' h', St p l e R s m args below meth c Z a0 EL n0 own T' V' h' (k + 2) (n + (b + 4)) → Ext h h' → CHr Z EL V h V' h' → Go p e below Q (T'.setTop (mkF m (pc + 2) Ls (.ref a :: rest)))) : Go p e below Q (T.setTop (mkF m pc Ls rest)) := by
  obtain ⟨hx, eT, hZ, hown, hO, hE, hC, hlk, locs, k0, X, hS, hk, hF⟩ := S
  obtain ⟨a, T', h', k1, X', e', E, hS', hk', hZ', hown', hC', -, st⟩ := ldcOH X hx hZ hown w wS eT hS hk hE hC.1 (g := mkF m pc Ls rest) rfl hd hb hbig hc hl
  exact Go.of st (go a T' T'.vm h' ⟨hx, e', hZ', hown', hO.ext E, hE, hC.trans hC', hlk, locs, k1, X', hS', hk', hF⟩ E hC')
/-- a String constant of EL -/
theorem g_ldcS (S : St p l e R s m args below meth c Z a0 EL n0 own T V h k n) {index : Nat} {text : String} (w : (Cond.stringLink own index text).before a0 Z = true) (wS : ∀ a ∈ Bundle.stringAtoms, a.before a0 Z = true) (hmem : (own, index) ∈ EL) {vs : List Value} {z : Int32} (ht : (∀ c ∈ text.toList, c.toNat < 256) ∧ text.toList.map (fun c => Value.int (Jvm.Lit.byteI c.toNat.toUInt16)) = vs) (hz : ¬ z < 0) (hlz : z.toNatClampNeg = vs.length)
    (hd : decode c.code pc = .ok (.ldc index, 2)) {b : Nat} (hb : 4 * text.toList.length ≤ b) (hbig : b ≤ 536870912) (hc : k + 2 ≤ R.cells) (hl : n + (b + 4) ≤ R.slots)
    (go : ∀ a T' V' h' t kt, St p l e R s m args below meth c Z a0 EL n0 own T' V' h' (k + 2) (n + (b + 4)) → Ext h h' → CHr Z EL V h V' h' → Exa Z h' a "java/lang/String" → Fld Z h' a "java/lang/String" "coder" "B" (.int 0) → Fld Z h' a "java/lang/String" "value" "[B" (.ref t) → Arv Z h' t kt .byte z vs (.int 0) → (∀ x, Safe Z EL V' h' x → x ≠ a ∧ x ≠ t) →
      Go p e below Q (T'.setTop (mkF m (pc + 2) Ls (.ref a :: rest)))) : Go p e below Q (T.setTop (mkF m pc Ls rest)) := by
  obtain ⟨hx, eT, hZ, hown, hO, hE, hC, hlk, locs, k0, X, hS, hk, hF⟩ := S
  obtain ⟨a, T', h', k1, t, kt, X', e', E, hS', hk', hZ', hown', f1, f2, f3, f4, -, -, hC', -, f5, st⟩ := ldcCH X hx hZ hown w wS eT hS hk hE hmem hC.1 ht hz hlz (g := mkF m pc Ls rest) rfl hd hb hbig hc hl
  exact Go.of st (go a T' T'.vm h' t kt ⟨hx, e', hZ', hown', hO.ext E, hE, hC.trans hC', hlk, locs, k1, X', hS', hk', hF⟩ E hC' f1 f2 f3 f4 f5)
section Calls
variable {y z : MethodName} {bytes : ByteArray} {maxL : Nat} {ret : Option FieldType} {rm : Room} {as' : Array Value} {sfs : List Addr} {QQ : Option Value → Heap → Vm → Prop} {index : Nat} {stk : List Value}
/-- the library's backOfSH with objects that are no literal's -/
theorem backOfSf {W : Nat} {vm0 : Vm} {QB : Option Value → Heap → Vm → List Loc → Prop}
    (hM : MetFree l y (head1 [Cond.code y bytes maxL ret] rm) (fun a U => a = as' ∧ Z.Warmed39 U.vm ∧ U.heap = h ∧ CHv Z EL U.vm h ∧ ∀ x ∈ sfs, Safe Z EL U.vm h x) (fun _ _ _ _ _ => True) (fun _ U o U' => ∃ v L, o = .returned v ∧ QB v U'.heap U'.vm L ∧ CHr Z EL U.vm U.heap U'.vm U'.heap ∧ ReturnedEndW U o U' L rm.cells rm.slots))
    (hZ : Z.Warmed39 vm0) (wc : (Cond.code y bytes maxL ret).before a0 Z = true) (wz : (Cond.initialized y.cls).before a0 Z = true) (hf : rm.frames + 1 ≤ R.frames) (hl : W + (maxL + 11) + rm.locals ≤ R.locals) (hEL : EW Z a0 EL) (H : CHv Z EL vm0 h) (hsf : ∀ x ∈ sfs, x < h.size ∧ Safe Z EL vm0 h x) :
    BackS l R p e below (s.setVm vm0) args y 3 W (fun A a => a = as' ∧ A.U.heap = h ∧ A.cells + rm.cells ≤ R.cells ∧ A.slots + rm.slots ≤ R.slots)
      (fun A _ v B => ∃ L, QB v B.U.heap B.U.vm L ∧ B.locs = A.locs ++ L ∧ B.cells = A.cells + rm.cells ∧ B.slots = A.slots + rm.slots ∧ CHr Z EL vm0 h B.U.vm B.U.heap) := by
  refine BackS.of_freeW (bytes := bytes) (maxL := maxL) (ret := ret) (E := fun _ first o t L k n => (k = rm.cells ∧ n = rm.slots) ∧ (∃ v, o = .returned v ∧ QB v t.heap t.vm L) ∧ CHr Z EL first.vm first.heap t.vm t.heap) hM hf hl ?_ ?_ (fun _ _ _ _ _ _ _ _ _ => trivial) ?_ ?_
  · intro m meth c A a Y hp
    have hU : Z.Warmed39 A.U.vm := wtrans (s := s.setVm vm0) hZ Y.warmed
    exact ⟨by show (Cond.and _ .tt).before a A.U = true; rw [Cond.before_and, mv hU wc]; rfl, mv hU wc, mv hU wz, hp.2.2.1, hp.2.2.2⟩
  · intro m meth c A a g mk Y hp
    have q := CHv.at Y hZ hEL H
    exact ⟨hp.1, wtrans (s := s.setVm vm0) hZ Y.warmed, hp.2.1, q.1, fun x hx => q.safe (hsf x hx).1 (hsf x hx).2⟩
  · rintro _ _ _ _ ⟨v, L, h1, h2, h3, h4⟩
    exact ⟨L, _, _, h4, ⟨rfl, rfl⟩, ⟨v, h1, h2⟩, h3⟩
  · intro m meth c A a g mk v t L k n Y hp _ _ q
    obtain ⟨⟨e1, e2⟩, ⟨v', e3, e4⟩, e5⟩ := q
    cases e3; subst e1 e2
    refine ⟨L, e4, rfl, rfl, rfl, (CHv.at Y hZ hEL H).trans ?_⟩
    rw [← hp.2.1]; exact e5
theorem g_static (S : St p l e R s m args below meth c Z a0 EL n0 own T V h k n) (C : CtrV l Z EL n0 y bytes maxL ret rm as' h sfs QQ) (hsf : ∀ x ∈ sfs, x < h.size ∧ Safe Z EL V h x) (wl : (Cond.methodLink own index y).before a0 Z = true) (ws : (Cond.static y).before a0 Z = true) (wi : (Cond.initialized y.cls).before a0 Z = true) (wc : (Cond.code y bytes maxL ret).before a0 Z = true) (hy : y.cls ≠ "java/lang/invoke/MethodHandle" ∧ y.cls ≠ "java/lang/invoke/VarHandle")
    (hd : decode c.code pc = .ok (.invokestatic index, 3)) (hsz : Ls.size = c.maxLocals) (argsL : List Value) (hlen : ∀ sig, parseMethodDescriptor y.desc = some sig → argsL.length = sig.parameters.length) (hst : stk = argsL.reverse ++ rest) (has : argsL.toArray = as') (hf : rm.frames + 1 ≤ R.frames) (hl : (rest.map fun v => v.category).sum + (maxL + 11) + rm.locals ≤ R.locals) (hc : k + rm.cells ≤ R.cells) (hs : n + rm.slots ≤ R.slots)
    (go : ∀ v T' V' h', St p l e R s m args below meth c Z a0 EL n0 own T' V' h' (k + rm.cells) (n + rm.slots) → CHr Z EL V h V' h' → QQ v h' V' → Go p e below Q (T'.setTop (mkF m (pc + 3) Ls (v.toList ++ rest)))) : Go p e below Q (T.setTop (mkF m pc Ls stk)) := by
  obtain ⟨hx, eT, hZ, hown, hO, hE, hC, hlk, locs, k0, X, hS, hk, hF⟩ := S
  have bk := backOfSf (s := s) (R := R) (p := p) (e := e) (below := below) (args := args) (W := (rest.map fun v => v.category).sum) (QB := fun v h' vm L => QQ v h' vm ∧ Fr n0 L ∧ Old Z n0 h') (C []) hZ wc wi hf hl hE hC.1 hsf
  obtain ⟨v, vm1, ⟨U, Lc, kc, sc⟩, hW1, X', hS', hgr, ⟨L, ⟨hQ, hF', hO'⟩, eL, ec, es, hC'⟩, st⟩ := callSS X hx hown (mvT hZ wl) (mvT hZ ws) (mvT hZ wi) (mvT hZ wc) hy bk (g := mkF m pc Ls stk) rfl hsz (argsL := argsL) (rest := rest) hlen hst (by show 2 * 0 + _ ≤ _; omega) hd (fun _ _ => ⟨has, eT, hc, hs⟩)
  dsimp only [Pt.U, Pt.locs, Pt.cells, Pt.slots] at X' hS' hgr hQ hO' eL ec es hC' st
  subst eL ec es
  exact Go.of (fun _ q => st.trans q) (go v U U.vm U.heap ⟨hx, rfl, State.Warmed39.trans (t := s.setVm V) hZ hS'.1, by rw [hS'.1.alike.findClass]; exact hown, hO', hE, hC.trans hC', hlk, _, _, X', hS.trans hS' (Nat.le_trans hk (eT ▸ hgr)), Nat.le_refl _, hF.app hF'⟩ hC' hQ)
theorem g_special (S : St p l e R s m args below meth c Z a0 EL n0 own T V h k n) (C : CtrV l Z EL n0 y bytes maxL none rm as' h sfs QQ) (hsf : ∀ x ∈ sfs, x < h.size ∧ Safe Z EL V h x) (hy1 : y.name = "<init>") (wl : (Cond.methodLink own index y).before a0 Z = true) (ws : (Cond.instanceMethod y).before a0 Z = true) (wi : (Cond.initialized y.cls).before a0 Z = true) (wc : (Cond.code y bytes maxL none).before a0 Z = true) (hy : y.cls ≠ "java/lang/invoke/MethodHandle" ∧ y.cls ≠ "java/lang/invoke/VarHandle")
    (hd : decode c.code pc = .ok (.invokespecial index, 3)) (hsz : Ls.size = c.maxLocals) (a : Addr) (argsL : List Value) (hlen : ∀ sig, parseMethodDescriptor y.desc = some sig → argsL.length = sig.parameters.length) (hst : stk = argsL.reverse ++ .ref a :: rest) (has : (.ref a :: argsL).toArray = as') (hf : rm.frames + 1 ≤ R.frames) (hl : (rest.map fun v => v.category).sum + (maxL + 11) + rm.locals ≤ R.locals) (hc : k + rm.cells ≤ R.cells) (hs : n + rm.slots ≤ R.slots)
    (go : ∀ v T' V' h', St p l e R s m args below meth c Z a0 EL n0 own T' V' h' (k + rm.cells) (n + rm.slots) → CHr Z EL V h V' h' → QQ v h' V' → Go p e below Q (T'.setTop (mkF m (pc + 3) Ls (v.toList ++ rest)))) : Go p e below Q (T.setTop (mkF m pc Ls stk)) := by
  obtain ⟨hx, eT, hZ, hown, hO, hE, hC, hlk, locs, k0, X, hS, hk, hF⟩ := S
  have bk := backOfSf (s := s) (R := R) (p := p) (e := e) (below := below) (args := args) (W := (rest.map fun v => v.category).sum) (QB := fun v h' vm L => QQ v h' vm ∧ Fr n0 L ∧ Old Z n0 h') (C []) hZ wc wi hf hl hE hC.1 hsf
  obtain ⟨v, vm1, ⟨U, Lc, kc, sc⟩, hW1, X', hS', hgr, ⟨L, ⟨hQ, hF', hO'⟩, eL, ec, es, hC'⟩, st⟩ := X.specialBackS hx hy1 hown (mvT hZ wl) (mvT hZ ws) (mvT hZ wc) hy bk (g := mkF m pc Ls stk) rfl hsz (Steps.refl _) (a := a) (argsL := argsL) (rest := rest) hlen hst (by show 2 * 0 + _ ≤ _; omega) hd (fun _ _ => ⟨has, eT, hc, hs⟩)
  dsimp only [Pt.U, Pt.locs, Pt.cells, Pt.slots] at X' hS' hgr hQ hO' eL ec es hC' st
  subst eL ec es
  exact Go.of (fun _ q => st.trans q) (go v U U.vm U.heap ⟨hx, rfl, State.Warmed39.trans (t := s.setVm V) hZ hS'.1, by rw [hS'.1.alike.findClass]; exact hown, hO', hE, hC.trans hC', hlk, _, _, X', hS.trans hS' (Nat.le_trans hk (eT ▸ hgr)), Nat.le_refl _, hF.app hF'⟩ hC' hQ)
theorem g_virtual {C : String} (S : St p l e R s m args below meth c Z a0 EL n0 own T V h k n) (K : CtrV l Z EL n0 z bytes maxL ret rm as' h sfs QQ) (hsf : ∀ x ∈ sfs, x < h.size ∧ Safe Z EL V h x) (wl : (Cond.methodLink own index y).before a0 Z = true) (wd : (Cond.declares y).before a0 Z = true) (wse : (Cond.selects C y z).before a0 Z = true) (ws : (Cond.instanceMethod z).before a0 Z = true) (wi : (Cond.initialized z.cls).before a0 Z = true) (wc : (Cond.code z bytes maxL ret).before a0 Z = true) (hy : y.cls ≠ "java/lang/invoke/MethodHandle" ∧ y.cls ≠ "java/lang/invoke/VarHandle")
    (hnf : ∀ s' : State, (Cond.selects C y z).before args s' = true → NotFace s' y) (hd : decode c.code pc = .ok (.invokevirtual index, 3)) (hsz : Ls.size = c.maxLocals) (a : Addr) (E : Exa Z h a C) (argsL : List Value) (hlen : ∀ sig, parseMethodDescriptor y.desc = some sig → argsL.length = sig.parameters.length) (hst : stk = argsL.reverse ++ .ref a :: rest) (has : (.ref a :: argsL).toArray = as') (hf : rm.frames + 1 ≤ R.frames) (hl : (rest.map fun v => v.category).sum + (maxL + 11) + rm.locals ≤ R.locals) (hc : k + rm.cells ≤ R.cells) (hs : n + rm.slots ≤ R.slots)
    (go : ∀ v T' V' h', St p l e R s m args below meth c Z a0 EL n0 own T' V' h' (k + rm.cells) (n + rm.slots) → CHr Z EL V h V' h' → QQ v h' V' → Go p e below Q (T'.setTop (mkF m (pc + 3) Ls (v.toList ++ rest)))) : Go p e below Q (T.setTop (mkF m pc Ls stk)) := by
  obtain ⟨hx, eT, hZ, hown, hO, hE, hC, hlk, locs, k0, X, hS, hk, hF⟩ := S
  have bk := backOfSf (s := s) (R := R) (p := p) (e := e) (below := below) (args := args) (W := (rest.map fun v => v.category).sum) (QB := fun v h' vm L => QQ v h' vm ∧ Fr n0 L ∧ Old Z n0 h') (K []) hZ wc wi hf hl hE hC.1 hsf
  obtain ⟨cq, kq, q1, q2, q3⟩ := isOf (s := s.setVm V) hZ eT E
  obtain ⟨v, vm1, ⟨U, Lc, kc, sc⟩, hW1, X', hS', hgr, ⟨L, ⟨hQ, hF', hO'⟩, eL, ec, es, hC'⟩, st⟩ := X.virtualBackS hx hown (mvT hZ wl) (mvT hZ wd) (hnf _ (mvT hZ wse)) (mvT hZ wse) (mvT hZ ws) hy bk q1 q3 (g := mkF m pc Ls stk) rfl hsz (Steps.refl _) (argsL := argsL) (rest := rest) hlen hst (by show 2 * 0 + _ ≤ _; omega) hd (fun _ _ => ⟨has, eT, hc, hs⟩)
  dsimp only [Pt.U, Pt.locs, Pt.cells, Pt.slots] at X' hS' hgr hQ hO' eL ec es hC' st
  subst eL ec es
  exact Go.of (fun _ q => st.trans q) (go v U U.vm U.heap ⟨hx, rfl, State.Warmed39.trans (t := s.setVm V) hZ hS'.1, by rw [hS'.1.alike.findClass]; exact hown, hO', hE, hC.trans hC', hlk, _, _, X', hS.trans hS' (Nat.le_trans hk (eT ▸ hgr)), Nat.le_refl _, hF.app hF'⟩ hC' hQ)
/-- a callee that is paid by a narrow law of the library's (or of a pasted text's): rc cells, rs slots -/
abbrev BkC (l : Launch) (R : Room) (p : Program) (e : Env) (below : List Frame) (s : State) (args : Array Value) (y : MethodName) (W : Nat) (as' : Array Value) (h : Heap) (rc rs : Nat) (QB : Option Value → Heap → List Loc → Prop) : Prop :=
  Back l R p e below s args y 3 W (fun A a => a = as' ∧ A.U.heap = h ∧ A.cells + rc ≤ R.cells ∧ A.slots + rs ≤ R.slots) (fun A _ v B => ∃ L, QB v B.U.heap L ∧ B.locs = A.locs ++ L ∧ B.cells = A.cells + rc ∧ B.slots = A.slots + rs)
theorem g_staticB {rc rs : Nat} {QB : Option Value → Heap → List Loc → Prop} (S : St p l e R s m args below meth c Z a0 EL n0 own T V h k n) {W : Nat} (B : ∀ s' : State, Z.Warmed39 s'.vm → BkC l R p e below s' args y W as' h rc rs QB) (wl : (Cond.methodLink own index y).before a0 Z = true) (ws : (Cond.static y).before a0 Z = true) (wi : (Cond.initialized y.cls).before a0 Z = true) (wc : (Cond.code y bytes maxL ret).before a0 Z = true) (hy : y.cls ≠ "java/lang/invoke/MethodHandle" ∧ y.cls ≠ "java/lang/invoke/VarHandle")
    (hd : decode c.code pc = .ok (.invokestatic index, 3)) (hsz : Ls.size = c.maxLocals) (argsL : List Value) (hlen : ∀ sig, parseMethodDescriptor y.desc = some sig → argsL.length = sig.parameters.length) (hst : stk = argsL.reverse ++ rest) (has : argsL.toArray = as') (hW : (rest.map fun v => v.category).sum ≤ W) (hc : k + rc ≤ R.cells) (hs : n + rs ≤ R.slots)
    (hq : ∀ v h' L, QB v h' L → Fr n0 L ∧ ∃ xs, Keep h h' xs ∧ (∀ x ∈ xs, Safe Z EL V h x) ∧ ∀ x ∈ xs, n0 ≤ x)
    (go : ∀ v T' h' L, St p l e R s m args below meth c Z a0 EL n0 own T' V h' (k + rc) (n + rs) → QB v h' L → Go p e below Q (T'.setTop (mkF m (pc + 3) Ls (v.toList ++ rest)))) : Go p e below Q (T.setTop (mkF m pc Ls stk)) := by
  obtain ⟨hx, eT, hZ, hown, hO, hE, hC, hlk, locs, k0, X, hS, hk, hF⟩ := S
  obtain ⟨v, vm1, ⟨U, Lc, kc, sc⟩, hW1, X', ⟨L, hQ, eL, ec, es⟩, st⟩ := Jvm.LawKit.callS X hx hown (mvT hZ wl) (mvT hZ ws) (mvT hZ wi) (mvT hZ wc) hy (B (s.setVm V) hZ) (g := mkF m pc Ls stk) rfl hsz (argsL := argsL) (rest := rest) hlen hst (by show 2 * 0 + _ ≤ _; omega) hd (fun _ _ => ⟨has, eT, hc, hs⟩)
  dsimp only [Pt.U, Pt.locs, Pt.cells, Pt.slots] at X' hQ eL ec es st
  subst eL ec es
  obtain ⟨hF', xs, K, sf, nx⟩ := hq _ _ _ hQ
  exact Go.of st (go v U U.heap L ⟨hx, rfl, hZ, hown, hO.keep K nx, hE, hC.trans (CHr.keep K sf hC.1), hlk, _, _, X', hS, Nat.le_trans hk K.1, hF.app hF'⟩ hQ)
theorem g_specialB {rc rs : Nat} {QB : Option Value → Heap → List Loc → Prop} (S : St p l e R s m args below meth c Z a0 EL n0 own T V h k n) {W : Nat} (B : ∀ s' : State, Z.Warmed39 s'.vm → BkC l R p e below s' args y W as' h rc rs QB) (hy1 : y.name = "<init>") (wl : (Cond.methodLink own index y).before a0 Z = true) (ws : (Cond.instanceMethod y).before a0 Z = true) (wc : (Cond.code y bytes maxL none).before a0 Z = true) (hy : y.cls ≠ "java/lang/invoke/MethodHandle" ∧ y.cls ≠ "java/lang/invoke/VarHandle")
    (hd : decode c.code pc = .ok (.invokespecial index, 3)) (hsz : Ls.size = c.maxLocals) (a : Addr) (argsL : List Value) (hlen : ∀ sig, parseMethodDescriptor y.desc = some sig → argsL.length = sig.parameters.length) (hst : stk = argsL.reverse ++ .ref a :: rest) (has : (.ref a :: argsL).toArray = as') (hW : (rest.map fun v => v.category).sum ≤ W) (hc : k + rc ≤ R.cells) (hs : n + rs ≤ R.slots)
    (hq : ∀ v h' L, QB v h' L → Fr n0 L ∧ ∃ xs, Keep h h' xs ∧ (∀ x ∈ xs, Safe Z EL V h x) ∧ ∀ x ∈ xs, n0 ≤ x)
    (go : ∀ v T' h' L, St p l e R s m args below meth c Z a0 EL n0 own T' V h' (k + rc) (n + rs) → QB v h' L → Go p e below Q (T'.setTop (mkF m (pc + 3) Ls (v.toList ++ rest)))) : Go p e below Q (T.setTop (mkF m pc Ls stk)) := by
  obtain ⟨hx, eT, hZ, hown, hO, hE, hC, hlk, locs, k0, X, hS, hk, hF⟩ := S
  obtain ⟨v, vm1, ⟨U, Lc, kc, sc⟩, hW1, X', ⟨L, hQ, eL, ec, es⟩, st⟩ := X.specialBack hx hy1 hown (mvT hZ wl) (mvT hZ ws) (mvT hZ wc) hy (B (s.setVm V) hZ) (g := mkF m pc Ls stk) rfl hsz (Steps.refl _) (a := a) (argsL := argsL) (rest := rest) hlen hst (by show 2 * 0 + _ ≤ _; omega) hd (fun _ _ => ⟨has, eT, hc, hs⟩)
  dsimp only [Pt.U, Pt.locs, Pt.cells, Pt.slots] at X' hQ eL ec es st
  subst eL ec es
  obtain ⟨hF', xs, K, sf, nx⟩ := hq _ _ _ hQ
  exact Go.of (fun _ q => st.trans q) (go v U U.heap L ⟨hx, rfl, hZ, hown, hO.keep K nx, hE, hC.trans (CHr.keep K sf hC.1), hlk, _, _, X', hS, Nat.le_trans hk K.1, hF.app hF'⟩ hQ)
theorem g_virtualB {C : String} {rc rs : Nat} {QB : Option Value → Heap → List Loc → Prop} (S : St p l e R s m args below meth c Z a0 EL n0 own T V h k n) {W : Nat} (B : ∀ s' : State, Z.Warmed39 s'.vm → BkC l R p e below s' args z W as' h rc rs QB) (wl : (Cond.methodLink own index y).before a0 Z = true) (wd : (Cond.declares y).before a0 Z = true) (wse : (Cond.selects C y z).before a0 Z = true) (ws : (Cond.instanceMethod z).before a0 Z = true) (hy : y.cls ≠ "java/lang/invoke/MethodHandle" ∧ y.cls ≠ "java/lang/invoke/VarHandle")
    (hnf : ∀ s' : State, (Cond.selects C y z).before args s' = true → NotFace s' y) (hd : decode c.code pc = .ok (.invokevirtual index, 3)) (hsz : Ls.size = c.maxLocals) (a : Addr) (E : Exa Z h a C) (argsL : List Value) (hlen : ∀ sig, parseMethodDescriptor y.desc = some sig → argsL.length = sig.parameters.length) (hst : stk = argsL.reverse ++ .ref a :: rest) (has : (.ref a :: argsL).toArray = as') (hW : (rest.map fun v => v.category).sum ≤ W) (hc : k + rc ≤ R.cells) (hs : n + rs ≤ R.slots)
    (hq : ∀ v h' L, QB v h' L → Fr n0 L ∧ ∃ xs, Keep h h' xs ∧ (∀ x ∈ xs, Safe Z EL V h x) ∧ ∀ x ∈ xs, n0 ≤ x)
    (go : ∀ v T' h' L, St p l e R s m args below meth c Z a0 EL n0 own T' V h' (k + rc) (n + rs) → QB v h' L → Go p e below Q (T'.setTop (mkF m (pc + 3) Ls (v.toList ++ rest)))) : Go p e below Q (T.setTop (mkF m pc Ls stk)) := by
  obtain ⟨hx, eT, hZ, hown, hO, hE, hC, hlk, locs, k0, X, hS, hk, hF⟩ := S
  obtain ⟨cq, kq, q1, q2, q3⟩ := isOf (s := s.setVm V) hZ eT E
  obtain ⟨v, vm1, ⟨U, Lc, kc, sc⟩, hW1, X', ⟨L, hQ, eL, ec, es⟩, st⟩ := X.virtualBack hx hown (mvT hZ wl) (mvT hZ wd) (hnf _ (mvT hZ wse)) (mvT hZ wse) (mvT hZ ws) hy (B (s.setVm V) hZ) q1 q3 (g := mkF m pc Ls stk) rfl hsz (Steps.refl _) (argsL := argsL) (rest := rest) hlen hst (by show 2 * 0 + _ ≤ _; omega) hd (fun _ _ => ⟨has, eT, hc, hs⟩)
  dsimp only [Pt.U, Pt.locs, Pt.cells, Pt.slots] at X' hQ eL ec es st
  subst eL ec es
  obtain ⟨hF', xs, K, sf, nx⟩ := hq _ _ _ hQ
  exact Go.of (fun _ q => st.trans q) (go v U U.heap L ⟨hx, rfl, hZ, hown, hO.keep K nx, hE, hC.trans (CHr.keep K sf hC.1), hlk, _, _, X', hS, Nat.le_trans hk K.1, hF.app hF'⟩ hQ)
end Calls
theorem g_icmp (S : St p l e R s m args below meth c Z a0 EL n0 own T V h k n) {cd : ClassFile.Cond} {x y : Int32} {o : Int} {pcT : Nat} (hd : decode c.code pc = .ok (.if_icmp cd o, 3)) (ho : 0 ≤ (pc : Int) + o) (hp : ((pc : Int) + o).toNat = pcT) (yes : if_icmp.holds cd x y = true → Go p e below Q (T.setTop (mkF m pcT Ls rest))) (no : if_icmp.holds cd x y = false → Go p e below Q (T.setTop (mkF m (pc + 3) Ls rest))) : Go p e below Q (T.setTop (mkF m pc Ls (.int y :: .int x :: rest))) := by
  cases q : if_icmp.holds cd x y
  · exact Go.of (fun _ r => XS.icmpNo S.here S.hx rfl hd rfl q r) (no q)
  · exact Go.of (fun _ r => XS.icmpYes S.here S.hx rfl (pc0 := pc) (pc' := pcT) rfl hd rfl q ho hp r) (yes q)
theorem g_if (S : St p l e R s m args below meth c Z a0 EL n0 own T V h k n) {cd : ClassFile.Cond} {x : Int32} {o : Int} {pcT : Nat} (hd : decode c.code pc = .ok (.ifCond cd o, 3)) (ho : 0 ≤ (pc : Int) + o) (hp : ((pc : Int) + o).toNat = pcT) (yes : if_icmp.holds cd x 0 = true → Go p e below Q (T.setTop (mkF m pcT Ls rest))) (no : if_icmp.holds cd x 0 = false → Go p e below Q (T.setTop (mkF m (pc + 3) Ls rest))) : Go p e below Q (T.setTop (mkF m pc Ls (.int x :: rest))) := by
  cases q : if_icmp.holds cd x 0
  · exact Go.of (fun _ r => XS.ifNo S.here S.hx rfl hd rfl ((if0 _ _).trans q) r) (no q)
  · exact Go.of (fun _ r => XS.ifYes S.here S.hx rfl (pc0 := pc) (pc' := pcT) rfl hd rfl ((if0 _ _).trans q) ho hp r) (yes q)
theorem icT_eq {x y : Int32} (h : if_icmp.holds .eq x y = true) : x = y := by simpa [if_icmp.holds] using h
theorem icF_eq {x y : Int32} (h : if_icmp.holds .eq x y = false) : ¬ x = y := by simpa [if_icmp.holds] using h
theorem icT_ne {x y : Int32} (h : if_icmp.holds .ne x y = true) : ¬ x = y := by simpa [if_icmp.holds] using h
theorem icF_ne {x y : Int32} (h : if_icmp.holds .ne x y = false) : x = y := by simpa [if_icmp.holds] using h
theorem icT_lt {x y : Int32} (h : if_icmp.holds .lt x y = true) : x < y := by simpa [if_icmp.holds] using h
theorem icF_lt {x y : Int32} (h : if_icmp.holds .lt x y = false) : ¬ x < y := by simpa [if_icmp.holds] using h
theorem icT_ge {x y : Int32} (h : if_icmp.holds .ge x y = true) : ¬ x < y := fun q => by rw [(tlt q).2.1] at h; cases h
theorem icF_ge {x y : Int32} (h : if_icmp.holds .ge x y = false) : x < y := Decidable.byContradiction fun q => by rw [(flt q).2.1] at h; cases h
theorem icT_gt {x y : Int32} (h : if_icmp.holds .gt x y = true) : y < x := Decidable.byContradiction fun q => by rw [(flt q).2.2.1] at h; cases h
theorem icF_gt {x y : Int32} (h : if_icmp.holds .gt x y = false) : ¬ y < x := fun q => by rw [(tlt q).2.2.1] at h; cases h
theorem icT_le {x y : Int32} (h : if_icmp.holds .le x y = true) : ¬ y < x := fun q => by rw [(tlt q).2.2.2] at h; cases h
theorem icF_le {x y : Int32} (h : if_icmp.holds .le x y = false) : y < x := Decidable.byContradiction fun q => by rw [(flt q).2.2.2] at h; cases h
theorem g_caload (S : St p l e R s m args below meth c Z a0 EL n0 own T V h k n) {a : Addr} {kc : ClassId} {z : Int32} {vs : List Value} {dv : Value} (A : Arv Z h a kc .char z vs dv) {j : Int32} (hj : ¬ j < 0 ∧ j < z) {x : Int32} (hv : vs.getD j.toNatClampNeg dv = .int x) (hd : decode c.code pc = .ok (.caload, 1)) (go : Go p e below Q (T.setTop (mkF m (pc + 1) Ls (.int x :: rest)))) : Go p e below Q (T.setTop (mkF m pc Ls (.int j :: .ref a :: rest))) := by
  obtain ⟨hx, eT, hZ, hown, hO, hE, hC, hlk, locs, k0, X, hS, hk, hF⟩ := S
  obtain ⟨cl, Ar, q1, q2, q3, q4, q5⟩ := A
  have hin := inb_of q2 hj
  exact Go.of (fun _ q => X.caload hx (j := j) (v := .int x) (by rw [eT]; exact Ar.1) (State.isArrayOf_alike (T := s.setVm V) hZ.alike Ar.2.1) Ar.2.2 hin (q4.at hin hv) (g := mkF m pc Ls (.int j :: .ref a :: rest)) rfl rfl hd _ q) go
theorem g_len (S : St p l e R s m args below meth c Z a0 EL n0 own T V h k n) {a : Addr} {kc : ClassId} {ty : FieldType} {z : Int32} {vs : List Value} {dv : Value} (A : Arv Z h a kc ty z vs dv) (hd : decode c.code pc = .ok (.arraylength, 1)) (go : Go p e below Q (T.setTop (mkF m (pc + 1) Ls (.int z :: rest)))) : Go p e below Q (T.setTop (mkF m pc Ls (.ref a :: rest))) := by
  obtain ⟨hx, eT, hZ, hown, hO, hE, hC, hlk, locs, k0, X, hS, hk, hF⟩ := S
  obtain ⟨cl, Ar, q1, q2, q3, q4, q5⟩ := A
  rw [← len_of q2 q3] at go
  exact Go.of (fun _ q => X.arraylength hx (by rw [eT]; exact Ar.1) (State.isArrayOf_alike (T := s.setVm V) hZ.alike Ar.2.1) (g := mkF m pc Ls (.ref a :: rest)) rfl rfl hd _ q) go
theorem s_iload {i : Nat} {v : Int32} (S : St p l e R s m args below meth c Z a0 EL n0 own T V h k n) (hd : decode c.code pc = .ok (.iload i, 2)) (hv : Ls[i]? = some (.val (.int v))) {pc' : Nat} (hp : pc + 2 = pc') (go : Go p e below Q (T.setTop (mkF m pc' Ls (.int v :: rest)))) : Go p e below Q (T.setTop (mkF m pc Ls rest)) := by
  subst hp; exact Go.of (fun _ q => XS.iload S.here S.hx rfl hd hv q) go
theorem s_iloadN {i : Fin 4} {v : Int32} (S : St p l e R s m args below meth c Z a0 EL n0 own T V h k n) (hd : decode c.code pc = .ok (.iload_n i, 1)) (hv : Ls[i.val]? = some (.val (.int v))) {pc' : Nat} (hp : pc + 1 = pc') (go : Go p e below Q (T.setTop (mkF m pc' Ls (.int v :: rest)))) : Go p e below Q (T.setTop (mkF m pc Ls rest)) := by
  subst hp; exact Go.of (fun _ q => XS.iloadN S.here S.hx rfl hd hv q) go
theorem s_lload {i : Nat} {v : Int64} (S : St p l e R s m args below meth c Z a0 EL n0 own T V h k n) (hd : decode c.code pc = .ok (.lload i, 2)) (hv : Ls[i]? = some (.val (.long v))) {pc' : Nat} (hp : pc + 2 = pc') (go : Go p e below Q (T.setTop (mkF m pc' Ls (.long v :: rest)))) : Go p e below Q (T.setTop (mkF m pc Ls rest)) := by
  subst hp; exact Go.of (fun _ q => XS.lload S.here S.hx rfl hd hv q) go
theorem s_lloadN {i : Fin 4} {v : Int64} (S : St p l e R s m args below meth c Z a0 EL n0 own T V h k n) (hd : decode c.code pc = .ok (.lload_n i, 1)) (hv : Ls[i.val]? = some (.val (.long v))) {pc' : Nat} (hp : pc + 1 = pc') (go : Go p e below Q (T.setTop (mkF m pc' Ls (.long v :: rest)))) : Go p e below Q (T.setTop (mkF m pc Ls rest)) := by
  subst hp; exact Go.of (fun _ q => XS.lloadN S.here S.hx rfl hd hv q) go
theorem s_aload {i : Nat} {v : Value} (S : St p l e R s m args below meth c Z a0 EL n0 own T V h k n) (hd : decode c.code pc = .ok (.aload i, 2)) (hv : Ls[i]? = some (.val v)) (hr : v.isRef = true) {pc' : Nat} (hp : pc + 2 = pc') (go : Go p e below Q (T.setTop (mkF m pc' Ls (v :: rest)))) : Go p e below Q (T.setTop (mkF m pc Ls rest)) := by
  subst hp; exact Go.of (fun _ q => XS.aload S.here S.hx rfl hd hv hr q) go
theorem s_aloadN {i : Fin 4} {v : Value} (S : St p l e R s m args below meth c Z a0 EL n0 own T V h k n) (hd : decode c.code pc = .ok (.aload_n i, 1)) (hv : Ls[i.val]? = some (.val v)) (hr : v.isRef = true) {pc' : Nat} (hp : pc + 1 = pc') (go : Go p e below Q (T.setTop (mkF m pc' Ls (v :: rest)))) : Go p e below Q (T.setTop (mkF m pc Ls rest)) := by
  subst hp; exact Go.of (fun _ q => XS.aloadN S.here S.hx rfl hd hv hr q) go
theorem s_istore {i : Nat} {v : Int32} {L' : Array Slot} (S : St p l e R s m args below meth c Z a0 EL n0 own T V h k n) (hd : decode c.code pc = .ok (.istore i, 2)) (hl : storeLocals Ls i (.int v) = some L') {pc' : Nat} (hp : pc + 2 = pc') (go : Go p e below Q (T.setTop (mkF m pc' L' rest))) : Go p e below Q (T.setTop (mkF m pc Ls (.int v :: rest))) := by
  subst hp; exact Go.of (fun _ q => XS.istore S.here S.hx rfl hd rfl hl q) go
theorem s_istoreN {i : Fin 4} {v : Int32} {L' : Array Slot} (S : St p l e R s m args below meth c Z a0 EL n0 own T V h k n) (hd : decode c.code pc = .ok (.istore_n i, 1)) (hl : storeLocals Ls i.val (.int v) = some L') {pc' : Nat} (hp : pc + 1 = pc') (go : Go p e below Q (T.setTop (mkF m pc' L' rest))) : Go p e below Q (T.setTop (mkF m pc Ls (.int v :: rest))) := by
  subst hp; exact Go.of (fun _ q => XS.istoreN S.here S.hx rfl hd rfl hl q) go
theorem s_lstore {i : Nat} {v : Int64} {L' : Array Slot} (S : St p l e R s m args below meth c Z a0 EL n0 own T V h k n) (hd : decode c.code pc = .ok (.lstore i, 2)) (hl : storeLocals Ls i (.long v) = some L') {pc' : Nat} (hp : pc + 2 = pc') (go : Go p e below Q (T.setTop (mkF m pc' L' rest))) : Go p e below Q (T.setTop (mkF m pc Ls (.long v :: rest))) := by
  subst hp; exact Go.of (fun _ q => XS.lstore S.here S.hx rfl hd rfl hl q) go
theorem s_lstoreN {i : Fin 4} {v : Int64} {L' : Array Slot} (S : St p l e R s m args below meth c Z a0 EL n0 own T V h k n) (hd : decode c.code pc = .ok (.lstore_n i, 1)) (hl : storeLocals Ls i.val (.long v) = some L') {pc' : Nat} (hp : pc + 1 = pc') (go : Go p e below Q (T.setTop (mkF m pc' L' rest))) : Go p e below Q (T.setTop (mkF m pc Ls (.long v :: rest))) := by
  subst hp; exact Go.of (fun _ q => XS.lstoreN S.here S.hx rfl hd rfl hl q) go
theorem s_astore {i : Nat} {v : Value} {L' : Array Slot} (S : St p l e R s m args below meth c Z a0 EL n0 own T V h k n) (hd : decode c.code pc = .ok (.astore i, 2)) (hr : v.isRef = true) (hl : storeLocals Ls i v = some L') {pc' : Nat} (hp : pc + 2 = pc') (go : Go p e below Q (T.setTop (mkF m pc' L' rest))) : Go p e below Q (T.setTop (mkF m pc Ls (v :: rest))) := by
  subst hp; exact Go.of (fun _ q => XS.astore S.here S.hx rfl hd rfl hr hl q) go
theorem s_astoreN {i : Fin 4} {v : Value} {L' : Array Slot} (S : St p l e R s m args below meth c Z a0 EL n0 own T V h k n) (hd : decode c.code pc = .ok (.astore_n i, 1)) (hr : v.isRef = true) (hl : storeLocals Ls i.val v = some L') {pc' : Nat} (hp : pc + 1 = pc') (go : Go p e below Q (T.setTop (mkF m pc' L' rest))) : Go p e below Q (T.setTop (mkF m pc Ls (v :: rest))) := by
  subst hp; exact Go.of (fun _ q => XS.astoreN S.here S.hx rfl hd rfl hr hl q) go
theorem s_iconst {i : Int} {v : Int32} (S : St p l e R s m args below meth c Z a0 EL n0 own T V h k n) (hd : decode c.code pc = .ok (.iconst i, 1)) (hv : Int32.ofInt i = v) {pc' : Nat} (hp : pc + 1 = pc') (go : Go p e below Q (T.setTop (mkF m pc' Ls (.int v :: rest)))) : Go p e below Q (T.setTop (mkF m pc Ls rest)) := by
  subst hp hv; exact Go.of (fun _ q => XS.iconst S.here S.hx rfl hd q) go
theorem s_bipush {i : Int} {v : Int32} (S : St p l e R s m args below meth c Z a0 EL n0 own T V h k n) (hd : decode c.code pc = .ok (.bipush i, 2)) (hv : (Int8.ofInt i).toInt32 = v) {pc' : Nat} (hp : pc + 2 = pc') (go : Go p e below Q (T.setTop (mkF m pc' Ls (.int v :: rest)))) : Go p e below Q (T.setTop (mkF m pc Ls rest)) := by
  subst hp hv; exact Go.of (fun _ q => XS.bipush S.here S.hx rfl hd q) go
theorem s_sipush {i : Int} {v : Int32} (S : St p l e R s m args below meth c Z a0 EL n0 own T V h k n) (hd : decode c.code pc = .ok (.sipush i, 3)) (hv : (Int16.ofInt i).toInt32 = v) {pc' : Nat} (hp : pc + 3 = pc') (go : Go p e below Q (T.setTop (mkF m pc' Ls (.int v :: rest)))) : Go p e below Q (T.setTop (mkF m pc Ls rest)) := by
  subst hp hv; exact Go.of (fun _ q => XS.sipush S.here S.hx rfl hd q) go
theorem s_null  (S : St p l e R s m args below meth c Z a0 EL n0 own T V h k n) (hd : decode c.code pc = .ok (.aconst_null, 1))  {pc' : Nat} (hp : pc + 1 = pc') (go : Go p e below Q (T.setTop (mkF m pc' Ls (.null :: rest)))) : Go p e below Q (T.setTop (mkF m pc Ls rest)) := by
  subst hp; exact Go.of (fun _ q => XS.aconstNull S.here S.hx rfl hd q) go
theorem s_dup {v : Value} (S : St p l e R s m args below meth c Z a0 EL n0 own T V h k n) (hd : decode c.code pc = .ok (.dup, 1)) (hc : v.category = 1) {pc' : Nat} (hp : pc + 1 = pc') (go : Go p e below Q (T.setTop (mkF m pc' Ls (v :: v :: rest)))) : Go p e below Q (T.setTop (mkF m pc Ls (v :: rest))) := by
  subst hp; exact Go.of (fun _ q => XS.dup S.here S.hx rfl hd rfl hc q) go
theorem s_pop {v : Value} (S : St p l e R s m args below meth c Z a0 EL n0 own T V h k n) (hd : decode c.code pc = .ok (.pop, 1)) (hc : v.category = 1) {pc' : Nat} (hp : pc + 1 = pc') (go : Go p e below Q (T.setTop (mkF m pc' Ls rest))) : Go p e below Q (T.setTop (mkF m pc Ls (v :: rest))) := by
  subst hp; exact Go.of (fun _ q => XS.pop S.here S.hx rfl hd rfl hc q) go
theorem s_dupX1 {v u : Value} (S : St p l e R s m args below meth c Z a0 EL n0 own T V h k n) (hd : decode c.code pc = .ok (.dup_x1, 1)) (hc : v.category = 1) (hu : u.category = 1) {pc' : Nat} (hp : pc + 1 = pc') (go : Go p e below Q (T.setTop (mkF m pc' Ls (v :: u :: v :: rest)))) : Go p e below Q (T.setTop (mkF m pc Ls (v :: u :: rest))) := by
  subst hp; exact Go.of (fun _ q => XS.dupX1 S.here S.hx rfl hd rfl hc hu q) go
theorem s_iadd {x y z : Int32} (S : St p l e R s m args below meth c Z a0 EL n0 own T V h k n) (hd : decode c.code pc = .ok (.iadd, 1)) (hv : x + y = z) {pc' : Nat} (hp : pc + 1 = pc') (go : Go p e below Q (T.setTop (mkF m pc' Ls (.int z :: rest)))) : Go p e below Q (T.setTop (mkF m pc Ls (.int y :: .int x :: rest))) := by
  subst hp hv; exact Go.of (fun _ q => XS.iadd S.here S.hx rfl hd rfl q) go
theorem s_isub {x y z : Int32} (S : St p l e R s m args below meth c Z a0 EL n0 own T V h k n) (hd : decode c.code pc = .ok (.isub, 1)) (hv : x - y = z) {pc' : Nat} (hp : pc + 1 = pc') (go : Go p e below Q (T.setTop (mkF m pc' Ls (.int z :: rest)))) : Go p e below Q (T.setTop (mkF m pc Ls (.int y :: .int x :: rest))) := by
  subst hp hv; exact Go.of (fun _ q => XS.isub S.here S.hx rfl hd rfl q) go
theorem s_imul {x y z : Int32} (S : St p l e R s m args below meth c Z a0 EL n0 own T V h k n) (hd : decode c.code pc = .ok (.imul, 1)) (hv : x * y = z) {pc' : Nat} (hp : pc + 1 = pc') (go : Go p e below Q (T.setTop (mkF m pc' Ls (.int z :: rest)))) : Go p e below Q (T.setTop (mkF m pc Ls (.int y :: .int x :: rest))) := by
  subst hp hv; exact Go.of (fun _ q => XS.imul S.here S.hx rfl hd rfl q) go
theorem s_iand {x y z : Int32} (S : St p l e R s m args below meth c Z a0 EL n0 own T V h k n) (hd : decode c.code pc = .ok (.iand, 1)) (hv : x &&& y = z) {pc' : Nat} (hp : pc + 1 = pc') (go : Go p e below Q (T.setTop (mkF m pc' Ls (.int z :: rest)))) : Go p e below Q (T.setTop (mkF m pc Ls (.int y :: .int x :: rest))) := by
  subst hp hv; exact Go.of (fun _ q => XS.iand S.here S.hx rfl hd rfl q) go
theorem s_ior {x y z : Int32} (S : St p l e R s m args below meth c Z a0 EL n0 own T V h k n) (hd : decode c.code pc = .ok (.ior, 1)) (hv : x ||| y = z) {pc' : Nat} (hp : pc + 1 = pc') (go : Go p e below Q (T.setTop (mkF m pc' Ls (.int z :: rest)))) : Go p e below Q (T.setTop (mkF m pc Ls (.int y :: .int x :: rest))) := by
  subst hp hv; exact Go.of (fun _ q => XS.ior S.here S.hx rfl hd rfl q) go
theorem s_ixor {x y z : Int32} (S : St p l e R s m args below meth c Z a0 EL n0 own T V h k n) (hd : decode c.code pc = .ok (.ixor, 1)) (hv : x ^^^ y = z) {pc' : Nat} (hp : pc + 1 = pc') (go : Go p e below Q (T.setTop (mkF m pc' Ls (.int z :: rest)))) : Go p e below Q (T.setTop (mkF m pc Ls (.int y :: .int x :: rest))) := by
  subst hp hv; exact Go.of (fun _ q => XS.ixor S.here S.hx rfl hd rfl q) go
theorem s_ladd {x y z : Int64} (S : St p l e R s m args below meth c Z a0 EL n0 own T V h k n) (hd : decode c.code pc = .ok (.ladd, 1)) (hv : x + y = z) {pc' : Nat} (hp : pc + 1 = pc') (go : Go p e below Q (T.setTop (mkF m pc' Ls (.long z :: rest)))) : Go p e below Q (T.setTop (mkF m pc Ls (.long y :: .long x :: rest))) := by
  subst hp hv; exact Go.of (fun _ q => XS.ladd S.here S.hx rfl hd rfl q) go
theorem s_lsub {x y z : Int64} (S : St p l e R s m args below meth c Z a0 EL n0 own T V h k n) (hd : decode c.code pc = .ok (.lsub, 1)) (hv : x - y = z) {pc' : Nat} (hp : pc + 1 = pc') (go : Go p e below Q (T.setTop (mkF m pc' Ls (.long z :: rest)))) : Go p e below Q (T.setTop (mkF m pc Ls (.long y :: .long x :: rest))) := by
  subst hp hv; exact Go.of (fun _ q => XS.lsub S.here S.hx rfl hd rfl q) go
theorem s_lmul {x y z : Int64} (S : St p l e R s m args below meth c Z a0 EL n0 own T V h k n) (hd : decode c.code pc = .ok (.lmul, 1)) (hv : x * y = z) {pc' : Nat} (hp : pc + 1 = pc') (go : Go p e below Q (T.setTop (mkF m pc' Ls (.long z :: rest)))) : Go p e below Q (T.setTop (mkF m pc Ls (.long y :: .long x :: rest))) := by
  subst hp hv; exact Go.of (fun _ q => XS.lmul S.here S.hx rfl hd rfl q) go
theorem s_land {x y z : Int64} (S : St p l e R s m args below meth c Z a0 EL n0 own T V h k n) (hd : decode c.code pc = .ok (.land, 1)) (hv : x &&& y = z) {pc' : Nat} (hp : pc + 1 = pc') (go : Go p e below Q (T.setTop (mkF m pc' Ls (.long z :: rest)))) : Go p e below Q (T.setTop (mkF m pc Ls (.long y :: .long x :: rest))) := by
  subst hp hv; exact Go.of (fun _ q => XS.land S.here S.hx rfl hd rfl q) go
theorem s_lor {x y z : Int64} (S : St p l e R s m args below meth c Z a0 EL n0 own T V h k n) (hd : decode c.code pc = .ok (.lor, 1)) (hv : x ||| y = z) {pc' : Nat} (hp : pc + 1 = pc') (go : Go p e below Q (T.setTop (mkF m pc' Ls (.long z :: rest)))) : Go p e below Q (T.setTop (mkF m pc Ls (.long y :: .long x :: rest))) := by
  subst hp hv; exact Go.of (fun _ q => XS.lor S.here S.hx rfl hd rfl q) go
theorem s_lxor {x y z : Int64} (S : St p l e R s m args below meth c Z a0 EL n0 own T V h k n) (hd : decode c.code pc = .ok (.lxor, 1)) (hv : x ^^^ y = z) {pc' : Nat} (hp : pc + 1 = pc') (go : Go p e below Q (T.setTop (mkF m pc' Ls (.long z :: rest)))) : Go p e below Q (T.setTop (mkF m pc Ls (.long y :: .long x :: rest))) := by
  subst hp hv; exact Go.of (fun _ q => XS.lxor S.here S.hx rfl hd rfl q) go
theorem s_ishl {x y z : Int32} (S : St p l e R s m args below meth c Z a0 EL n0 own T V h k n) (hd : decode c.code pc = .ok (.ishl, 1)) (hv : x <<< (y &&& 31) = z) {pc' : Nat} (hp : pc + 1 = pc') (go : Go p e below Q (T.setTop (mkF m pc' Ls (.int z :: rest)))) : Go p e below Q (T.setTop (mkF m pc Ls (.int y :: .int x :: rest))) := by
  subst hp hv; exact Go.of (fun _ q => XS.ishl S.here S.hx rfl hd rfl q) go
theorem s_ishr {x y z : Int32} (S : St p l e R s m args below meth c Z a0 EL n0 own T V h k n) (hd : decode c.code pc = .ok (.ishr, 1)) (hv : x >>> (y &&& 31) = z) {pc' : Nat} (hp : pc + 1 = pc') (go : Go p e below Q (T.setTop (mkF m pc' Ls (.int z :: rest)))) : Go p e below Q (T.setTop (mkF m pc Ls (.int y :: .int x :: rest))) := by
  subst hp hv; exact Go.of (fun _ q => XS.ishr S.here S.hx rfl hd rfl q) go
theorem s_iushr {x y z : Int32} (S : St p l e R s m args below meth c Z a0 EL n0 own T V h k n) (hd : decode c.code pc = .ok (.iushr, 1)) (hv : (x.toUInt32 >>> (y &&& 31).toUInt32).toInt32 = z) {pc' : Nat} (hp : pc + 1 = pc') (go : Go p e below Q (T.setTop (mkF m pc' Ls (.int z :: rest)))) : Go p e below Q (T.setTop (mkF m pc Ls (.int y :: .int x :: rest))) := by
  subst hp hv; exact Go.of (fun _ q => XS.iushr S.here S.hx rfl hd rfl q) go
theorem s_lshl {x z : Int64} {y : Int32} (S : St p l e R s m args below meth c Z a0 EL n0 own T V h k n) (hd : decode c.code pc = .ok (.lshl, 1)) (hv : x <<< (y &&& 0x3f).toInt64 = z) {pc' : Nat} (hp : pc + 1 = pc') (go : Go p e below Q (T.setTop (mkF m pc' Ls (.long z :: rest)))) : Go p e below Q (T.setTop (mkF m pc Ls (.int y :: .long x :: rest))) := by
  subst hp hv; exact Go.of (fun _ q => XS.lshl S.here S.hx rfl hd rfl q) go
theorem s_lshr {x z : Int64} {y : Int32} (S : St p l e R s m args below meth c Z a0 EL n0 own T V h k n) (hd : decode c.code pc = .ok (.lshr, 1)) (hv : x >>> (y &&& 0x3f).toInt64 = z) {pc' : Nat} (hp : pc + 1 = pc') (go : Go p e below Q (T.setTop (mkF m pc' Ls (.long z :: rest)))) : Go p e below Q (T.setTop (mkF m pc Ls (.int y :: .long x :: rest))) := by
  subst hp hv; exact Go.of (fun _ q => XS.lshr S.here S.hx rfl hd rfl q) go
theorem s_lushr {x z : Int64} {y : Int32} (S : St p l e R s m args below meth c Z a0 EL n0 own T V h k n) (hd : decode c.code pc = .ok (.lushr, 1)) (hv : (x.toUInt64 >>> (y &&& 0x3f).toInt64.toUInt64).toInt64 = z) {pc' : Nat} (hp : pc + 1 = pc') (go : Go p e below Q (T.setTop (mkF m pc' Ls (.long z :: rest)))) : Go p e below Q (T.setTop (mkF m pc Ls (.int y :: .long x :: rest))) := by
  subst hp hv; exact Go.of (fun _ q => XS.lushr S.here S.hx rfl hd rfl q) go
theorem s_i2c {x z : Int32} (S : St p l e R s m args below meth c Z a0 EL n0 own T V h k n) (hd : decode c.code pc = .ok (.i2c, 1)) (hv : x.toUInt32.toUInt16.toUInt32.toInt32 = z) {pc' : Nat} (hp : pc + 1 = pc') (go : Go p e below Q (T.setTop (mkF m pc' Ls (.int z :: rest)))) : Go p e below Q (T.setTop (mkF m pc Ls (.int x :: rest))) := by
  subst hp hv; exact Go.of (fun _ q => XS.i2c S.here S.hx rfl hd rfl q) go
theorem s_i2b {x z : Int32} (S : St p l e R s m args below meth c Z a0 EL n0 own T V h k n) (hd : decode c.code pc = .ok (.i2b, 1)) (hv : x.toInt8.toInt32 = z) {pc' : Nat} (hp : pc + 1 = pc') (go : Go p e below Q (T.setTop (mkF m pc' Ls (.int z :: rest)))) : Go p e below Q (T.setTop (mkF m pc Ls (.int x :: rest))) := by
  subst hp hv; exact Go.of (fun _ q => XS.i2b S.here S.hx rfl hd rfl q) go
theorem s_i2s {x z : Int32} (S : St p l e R s m args below meth c Z a0 EL n0 own T V h k n) (hd : decode c.code pc = .ok (.i2s, 1)) (hv : x.toInt16.toInt32 = z) {pc' : Nat} (hp : pc + 1 = pc') (go : Go p e below Q (T.setTop (mkF m pc' Ls (.int z :: rest)))) : Go p e below Q (T.setTop (mkF m pc Ls (.int x :: rest))) := by
  subst hp hv; exact Go.of (fun _ q => XS.i2s S.here S.hx rfl hd rfl q) go
theorem s_i2l {x : Int32} {z : Int64} (S : St p l e R s m args below meth c Z a0 EL n0 own T V h k n) (hd : decode c.code pc = .ok (.i2l, 1)) (hv : x.toInt64 = z) {pc' : Nat} (hp : pc + 1 = pc') (go : Go p e below Q (T.setTop (mkF m pc' Ls (.long z :: rest)))) : Go p e below Q (T.setTop (mkF m pc Ls (.int x :: rest))) := by
  subst hp hv; exact Go.of (fun _ q => XS.i2l S.here S.hx rfl hd rfl q) go
theorem s_l2i {x : Int64} {z : Int32} (S : St p l e R s m args below meth c Z a0 EL n0 own T V h k n) (hd : decode c.code pc = .ok (.l2i, 1)) (hv : x.toInt32 = z) {pc' : Nat} (hp : pc + 1 = pc') (go : Go p e below Q (T.setTop (mkF m pc' Ls (.int z :: rest)))) : Go p e below Q (T.setTop (mkF m pc Ls (.long x :: rest))) := by
  subst hp hv; exact Go.of (fun _ q => XS.l2i S.here S.hx rfl hd rfl q) go
theorem s_lcmp {x y : Int64} {z : Int32} (S : St p l e R s m args below meth c Z a0 EL n0 own T V h k n) (hd : decode c.code pc = .ok (.lcmp, 1)) (hv : lcmpW x y = z) {pc' : Nat} (hp : pc + 1 = pc') (go : Go p e below Q (T.setTop (mkF m pc' Ls (.int z :: rest)))) : Go p e below Q (T.setTop (mkF m pc Ls (.long y :: .long x :: rest))) := by
  subst hp hv; exact Go.of (fun _ q => XS.lcmp S.here S.hx rfl hd rfl q) go
theorem s_idiv {x y z : Int32} (S : St p l e R s m args below meth c Z a0 EL n0 own T V h k n) (hd : decode c.code pc = .ok (.idiv, 1)) (h0 : y ≠ 0) (hv : x / y = z) {pc' : Nat} (hp : pc + 1 = pc') (go : Go p e below Q (T.setTop (mkF m pc' Ls (.int z :: rest)))) : Go p e below Q (T.setTop (mkF m pc Ls (.int y :: .int x :: rest))) := by
  subst hp hv; exact Go.of (fun _ q => XS.idiv S.here S.hx rfl hd rfl h0 q) go
theorem s_ldiv {x y z : Int64} (S : St p l e R s m args below meth c Z a0 EL n0 own T V h k n) (hd : decode c.code pc = .ok (.ldiv, 1)) (h0 : y ≠ 0) (hv : x / y = z) {pc' : Nat} (hp : pc + 1 = pc') (go : Go p e below Q (T.setTop (mkF m pc' Ls (.long z :: rest)))) : Go p e below Q (T.setTop (mkF m pc Ls (.long y :: .long x :: rest))) := by
  subst hp hv; exact Go.of (fun _ q => XS.ldiv S.here S.hx rfl hd rfl h0 q) go
theorem s_irem {x y z : Int32} (S : St p l e R s m args below meth c Z a0 EL n0 own T V h k n) (hd : decode c.code pc = .ok (.irem, 1)) (h0 : y ≠ 0) (hv : x % y = z) {pc' : Nat} (hp : pc + 1 = pc') (go : Go p e below Q (T.setTop (mkF m pc' Ls (.int z :: rest)))) : Go p e below Q (T.setTop (mkF m pc Ls (.int y :: .int x :: rest))) := by
  subst hp hv; rw [← irem_eq_mod] at go; exact Go.of (fun _ q => XS.irem S.here S.hx rfl hd rfl h0 q) go
theorem s_goto (S : St p l e R s m args below meth c Z a0 EL n0 own T V h k n) {o : Int} {pcT : Nat} (hd : decode c.code pc = .ok (.goto o, 3)) (ho : 0 ≤ (pc : Int) + o) (hp : ((pc : Int) + o).toNat = pcT) (go : Go p e below Q (T.setTop (mkF m pcT Ls rest))) : Go p e below Q (T.setTop (mkF m pc Ls rest)) := Go.of (fun _ q => XS.goto S.here S.hx rfl (pc0 := pc) (pc' := pcT) rfl hd ho hp q) go
theorem s_iinc {i : Nat} {d : Int} {v z : Int32} {L' : Array Slot} (S : St p l e R s m args below meth c Z a0 EL n0 own T V h k n) (hd : decode c.code pc = .ok (.iinc i d, 3)) (hv : Ls[i]? = some (.val (.int v))) (hz : v + Int32.ofInt d = z) (hl : storeLocals Ls i (.int z) = some L') {pc' : Nat} (hp : pc + 3 = pc') (go : Go p e below Q (T.setTop (mkF m pc' L' rest))) : Go p e below Q (T.setTop (mkF m pc Ls rest)) := by
  subst hp hz; exact Go.of (fun _ q => XS.iinc S.here S.hx rfl hd hv hl q) go
theorem s_icmpY (S : St p l e R s m args below meth c Z a0 EL n0 own T V h k n) {cd : ClassFile.Cond} {x y : Int32} {o : Int} {pcT : Nat} (hd : decode c.code pc = .ok (.if_icmp cd o, 3)) (hc : if_icmp.holds cd x y = true) (ho : 0 ≤ (pc : Int) + o) (hp : ((pc : Int) + o).toNat = pcT) (go : Go p e below Q (T.setTop (mkF m pcT Ls rest))) : Go p e below Q (T.setTop (mkF m pc Ls (.int y :: .int x :: rest))) := Go.of (fun _ r => XS.icmpYes S.here S.hx rfl (pc0 := pc) (pc' := pcT) rfl hd rfl hc ho hp r) go
theorem s_icmpN (S : St p l e R s m args below meth c Z a0 EL n0 own T V h k n) {cd : ClassFile.Cond} {x y : Int32} {o : Int} (hd : decode c.code pc = .ok (.if_icmp cd o, 3)) (hc : if_icmp.holds cd x y = false) {pc' : Nat} (hp : pc + 3 = pc') (go : Go p e below Q (T.setTop (mkF m pc' Ls rest))) : Go p e below Q (T.setTop (mkF m pc Ls (.int y :: .int x :: rest))) := by
  subst hp; exact Go.of (fun _ r => XS.icmpNo S.here S.hx rfl hd rfl hc r) go
theorem s_ifY (S : St p l e R s m args below meth c Z a0 EL n0 own T V h k n) {cd : ClassFile.Cond} {x : Int32} {o : Int} {pcT : Nat} (hd : decode c.code pc = .ok (.ifCond cd o, 3)) (hc : ifCond.holds cd x = true) (ho : 0 ≤ (pc : Int) + o) (hp : ((pc : Int) + o).toNat = pcT) (go : Go p e below Q (T.setTop (mkF m pcT Ls rest))) : Go p e below Q (T.setTop (mkF m pc Ls (.int x :: rest))) := Go.of (fun _ r => XS.ifYes S.here S.hx rfl (pc0 := pc) (pc' := pcT) rfl hd rfl hc ho hp r) go
theorem s_ifN (S : St p l e R s m args below meth c Z a0 EL n0 own T V h k n) {cd : ClassFile.Cond} {x : Int32} {o : Int} (hd : decode c.code pc = .ok (.ifCond cd o, 3)) (hc : ifCond.holds cd x = false) {pc' : Nat} (hp : pc + 3 = pc') (go : Go p e below Q (T.setTop (mkF m pc' Ls rest))) : Go p e below Q (T.setTop (mkF m pc Ls (.int x :: rest))) := by
  subst hp; exact Go.of (fun _ r => XS.ifNo S.here S.hx rfl hd rfl hc r) go
theorem s_nullY (S : St p l e R s m args below meth c Z a0 EL n0 own T V h k n) {o : Int} {pcT : Nat} (hd : decode c.code pc = .ok (.ifnull o, 3)) (ho : 0 ≤ (pc : Int) + o) (hp : ((pc : Int) + o).toNat = pcT) (go : Go p e below Q (T.setTop (mkF m pcT Ls rest))) : Go p e below Q (T.setTop (mkF m pc Ls (.null :: rest))) := Go.of (fun _ r => XS.ifnullYes S.here S.hx rfl (pc0 := pc) (pc' := pcT) rfl hd rfl ho hp r) go
theorem s_nullN (S : St p l e R s m args below meth c Z a0 EL n0 own T V h k n) {o : Int} {b : Addr} (hd : decode c.code pc = .ok (.ifnull o, 3)) {pc' : Nat} (hp : pc + 3 = pc') (go : Go p e below Q (T.setTop (mkF m pc' Ls rest))) : Go p e below Q (T.setTop (mkF m pc Ls (.ref b :: rest))) := by
  subst hp; exact Go.of (fun _ r => XS.ifnullNo S.here S.hx rfl hd rfl r) go
theorem s_nonnullY (S : St p l e R s m args below meth c Z a0 EL n0 own T V h k n) {o : Int} {b : Addr} {pcT : Nat} (hd : decode c.code pc = .ok (.ifnonnull o, 3)) (ho : 0 ≤ (pc : Int) + o) (hp : ((pc : Int) + o).toNat = pcT) (go : Go p e below Q (T.setTop (mkF m pcT Ls rest))) : Go p e below Q (T.setTop (mkF m pc Ls (.ref b :: rest))) := Go.of (fun _ r => XS.ifnonnullYes S.here S.hx rfl (pc0 := pc) (pc' := pcT) rfl hd rfl ho hp r) go
theorem s_nonnullN (S : St p l e R s m args below meth c Z a0 EL n0 own T V h k n) {o : Int} (hd : decode c.code pc = .ok (.ifnonnull o, 3)) {pc' : Nat} (hp : pc + 3 = pc') (go : Go p e below Q (T.setTop (mkF m pc' Ls rest))) : Go p e below Q (T.setTop (mkF m pc Ls (.null :: rest))) := by
  subst hp; exact Go.of (fun _ r => XS.ifnonnullNo S.here S.hx rfl hd rfl r) go
theorem s_acmp (S : St p l e R s m args below meth c Z a0 EL n0 own T V h k n) {cd : ACond} {x y : Value} (h1 : x.isRef = true) (h2 : y.isRef = true) {o : Int} {pcT : Nat} {same : Bool} (hd : decode c.code pc = .ok (.if_acmp cd o, 3)) (hq : decide (x = y) = same) (ho : 0 ≤ (pc : Int) + o) (hp : pcT = if acV cd same = true then ((pc : Int) + o).toNat else pc + 3) (go : Go p e below Q (T.setTop (mkF m pcT Ls rest))) : Go p e below Q (T.setTop (mkF m pc Ls (y :: x :: rest))) := by
  obtain ⟨hx, eT, hZ, hown, hO, hE, hC, hlk, locs, k0, X, hS, hk, hF⟩ := S
  exact Go.of (fun _ r => Jvm.RoadKit.acmp (g := mkF m pc Ls (y :: x :: rest)) X hx rfl h1 h2 (pc0 := pc) (pc' := pcT) (same := same) rfl hd rfl hq ho hp r) go
theorem g_bastore (S : St p l e R s m args below meth c Z a0 EL n0 own T V h k n) {a : Addr} {kc : ClassId} {z : Int32} {vs : List Value} {dv : Value} (A : Arv Z h a kc .byte z vs dv) {j : Int32} {x : Int32} (hj : ¬ j < 0 ∧ j < z) (i : Nat) (hi : j.toNatClampNeg = i) (hlt : i < vs.length) (na : n0 ≤ a) (sf : Safe Z EL V h a) (hd : decode c.code pc = .ok (.bastore, 1))
    (go : ∀ T' h', St p l e R s m args below meth c Z a0 EL n0 own T' V h' k n → Keep h h' [a] → Arv Z h' a kc .byte z (vs.set i (.int (nar .byte x))) dv → Safe Z EL V h' a → Go p e below Q (T'.setTop (mkF m (pc + 1) Ls rest))) : Go p e below Q (T.setTop (mkF m pc Ls ((.int x) :: .int j :: .ref a :: rest))) := by
  obtain ⟨hx, eT, hZ, hown, hO, hE, hC, hlk, locs, k0, X, hS, hk, hF⟩ := S
  skip
  obtain ⟨cl, Ar, q1, q2, q3, q4, q5⟩ := A
  obtain ⟨T', h', X', e', W, st⟩ := stB X hx hZ eT Ar (j := j) (x := x) (inb_of q2 hj) (g := mkF m pc Ls ((.int x) :: .int j :: .ref a :: rest)) rfl rfl hd
  have K := Keep.of_wr W
  exact Go.of st (go T' h' ⟨hx, e', hZ, hown, hO.wr W na, hE, hC.trans (CHr.wr W sf hC.1), hlk, _, k0, X', hS, Nat.le_trans hk K.1, Fr.snoc X' hF na⟩ K (Arv.set Ar q1 q2 q3 q4 q5 (fits_nar_byte x) W i hi hlt) (Safe.wr W sf hC.1 sf))
theorem g_iastore (S : St p l e R s m args below meth c Z a0 EL n0 own T V h k n) {a : Addr} {kc : ClassId} {z : Int32} {vs : List Value} {dv : Value} (A : Arv Z h a kc .int z vs dv) {j : Int32} {x : Int32} (hj : ¬ j < 0 ∧ j < z) (i : Nat) (hi : j.toNatClampNeg = i) (hlt : i < vs.length) (na : n0 ≤ a) (hd : decode c.code pc = .ok (.iastore, 1))
    (go : ∀ T' h', St p l e R s m args below meth c Z a0 EL n0 own T' V h' k n → Keep h h' [a] → Arv Z h' a kc .int z (vs.set i (.int x)) dv → Safe Z EL V h' a → Go p e below Q (T'.setTop (mkF m (pc + 1) Ls rest))) : Go p e below Q (T.setTop (mkF m pc Ls ((.int x) :: .int j :: .ref a :: rest))) := by
  obtain ⟨hx, eT, hZ, hown, hO, hE, hC, hlk, locs, k0, X, hS, hk, hF⟩ := S
  have sf : Safe Z EL V h a := Safe.arv hZ.alike A (by decide)
  obtain ⟨cl, Ar, q1, q2, q3, q4, q5⟩ := A
  obtain ⟨T', h', X', e', W, st⟩ := stI X hx hZ eT Ar (j := j) (x := x) (inb_of q2 hj) (g := mkF m pc Ls ((.int x) :: .int j :: .ref a :: rest)) rfl rfl hd
  have K := Keep.of_wr W
  exact Go.of st (go T' h' ⟨hx, e', hZ, hown, hO.wr W na, hE, hC.trans (CHr.wr W sf hC.1), hlk, _, k0, X', hS, Nat.le_trans hk K.1, Fr.snoc X' hF na⟩ K (Arv.set Ar q1 q2 q3 q4 q5 rfl W i hi hlt) (Safe.wr W sf hC.1 sf))
theorem g_lastore (S : St p l e R s m args below meth c Z a0 EL n0 own T V h k n) {a : Addr} {kc : ClassId} {z : Int32} {vs : List Value} {dv : Value} (A : Arv Z h a kc .long z vs dv) {j : Int32} {x : Int64} (hj : ¬ j < 0 ∧ j < z) (i : Nat) (hi : j.toNatClampNeg = i) (hlt : i < vs.length) (na : n0 ≤ a) (hd : decode c.code pc = .ok (.lastore, 1))
    (go : ∀ T' h', St p l e R s m args below meth c Z a0 EL n0 own T' V h' k n → Keep h h' [a] → Arv Z h' a kc .long z (vs.set i (.long x)) dv → Safe Z EL V h' a → Go p e below Q (T'.setTop (mkF m (pc + 1) Ls rest))) : Go p e below Q (T.setTop (mkF m pc Ls ((.long x) :: .int j :: .ref a :: rest))) := by
  obtain ⟨hx, eT, hZ, hown, hO, hE, hC, hlk, locs, k0, X, hS, hk, hF⟩ := S
  have sf : Safe Z EL V h a := Safe.arv hZ.alike A (by decide)
  obtain ⟨cl, Ar, q1, q2, q3, q4, q5⟩ := A
  obtain ⟨T', h', X', e', W, st⟩ := stJ X hx hZ eT Ar (j := j) (x := x) (inb_of q2 hj) (g := mkF m pc Ls ((.long x) :: .int j :: .ref a :: rest)) rfl rfl hd
  have K := Keep.of_wr W
  exact Go.of st (go T' h' ⟨hx, e', hZ, hown, hO.wr W na, hE, hC.trans (CHr.wr W sf hC.1), hlk, _, k0, X', hS, Nat.le_trans hk K.1, Fr.snoc X' hF na⟩ K (Arv.set Ar q1 q2 q3 q4 q5 rfl W i hi hlt) (Safe.wr W sf hC.1 sf))
theorem g_iaload (S : St p l e R s m args below meth c Z a0 EL n0 own T V h k n) {a : Addr} {kc : ClassId} {z : Int32} {vs : List Value} {dv : Value} (A : Arv Z h a kc .int z vs dv) {j : Int32} (hj : ¬ j < 0 ∧ j < z) {x : Int32} (hv : vs.getD j.toNatClampNeg dv = (.int x)) (hd : decode c.code pc = .ok (.iaload, 1)) (go : Go p e below Q (T.setTop (mkF m (pc + 1) Ls ((.int x) :: rest)))) : Go p e below Q (T.setTop (mkF m pc Ls (.int j :: .ref a :: rest))) := by
  obtain ⟨hx, eT, hZ, hown, hO, hE, hC, hlk, locs, k0, X, hS, hk, hF⟩ := S
  obtain ⟨cl, Ar, q1, q2, q3, q4, q5⟩ := A
  have hin := inb_of q2 hj
  exact Go.of (fun _ q => X.iaload hx (j := j) (v := (.int x)) (by rw [eT]; exact Ar.1) (State.isArrayOf_alike (T := s.setVm V) hZ.alike Ar.2.1) Ar.2.2 hin (q4.at hin hv) (g := mkF m pc Ls (.int j :: .ref a :: rest)) rfl rfl hd _ q) go
theorem g_laload (S : St p l e R s m args below meth c Z a0 EL n0 own T V h k n) {a : Addr} {kc : ClassId} {z : Int32} {vs : List Value} {dv : Value} (A : Arv Z h a kc .long z vs dv) {j : Int32} (hj : ¬ j < 0 ∧ j < z) {x : Int64} (hv : vs.getD j.toNatClampNeg dv = (.long x)) (hd : decode c.code pc = .ok (.laload, 1)) (go : Go p e below Q (T.setTop (mkF m (pc + 1) Ls ((.long x) :: rest)))) : Go p e below Q (T.setTop (mkF m pc Ls (.int j :: .ref a :: rest))) := by
  obtain ⟨hx, eT, hZ, hown, hO, hE, hC, hlk, locs, k0, X, hS, hk, hF⟩ := S
  obtain ⟨cl, Ar, q1, q2, q3, q4, q5⟩ := A
  have hin := inb_of q2 hj
  exact Go.of (fun _ q => X.laload hx (j := j) (v := (.long x)) (by rw [eT]; exact Ar.1) (State.isArrayOf_alike (T := s.setVm V) hZ.alike Ar.2.1) Ar.2.2 hin (q4.at hin hv) (g := mkF m pc Ls (.int j :: .ref a :: rest)) rfl rfl hd _ q) go
theorem g_baload (S : St p l e R s m args below meth c Z a0 EL n0 own T V h k n) {a : Addr} {kc : ClassId} {z : Int32} {vs : List Value} {dv : Value} (A : Arv Z h a kc .byte z vs dv) {j : Int32} (hj : ¬ j < 0 ∧ j < z) {x : Int32} (hv : vs.getD j.toNatClampNeg dv = (.int x)) (hd : decode c.code pc = .ok (.baload, 1)) (go : Go p e below Q (T.setTop (mkF m (pc + 1) Ls ((.int x) :: rest)))) : Go p e below Q (T.setTop (mkF m pc Ls (.int j :: .ref a :: rest))) := by
  obtain ⟨hx, eT, hZ, hown, hO, hE, hC, hlk, locs, k0, X, hS, hk, hF⟩ := S
  obtain ⟨cl, Ar, q1, q2, q3, q4, q5⟩ := A
  have hin := inb_of q2 hj
  exact Go.of (fun _ q => X.baloadBytes hx (j := j) (v := (.int x)) (by rw [eT]; exact Ar.1) (State.isArrayOf_alike (T := s.setVm V) hZ.alike Ar.2.1) Ar.2.2 hin (q4.at hin hv) (g := mkF m pc Ls (.int j :: .ref a :: rest)) rfl rfl hd _ q) go
theorem g_instN (S : St p l e R s m args below meth c Z a0 EL n0 own T V h k n) {K C : String} {index : Nat} (w : (Cond.classLink own index K).before a0 Z = true) {a : Addr} (E : Exa Z h a C) (F : ∃ c t, Z.vm.findClass C = some c ∧ Z.vm.findClass K = some t ∧ Z.vm.assignable c t = false) (hd : decode c.code pc = .ok (.instanceof index, 3))
    (go : ∀ T', St p l e R s m args below meth c Z a0 EL n0 own T' V h k n → Go p e below Q (T'.setTop (mkF m (pc + 3) Ls (.int 0 :: rest)))) : Go p e below Q (T.setTop (mkF m pc Ls (.ref a :: rest))) := by
  obtain ⟨hx, eT, hZ, hown, hO, hE, hC, hlk, locs, k0, X, hS, hk, hF⟩ := S
  obtain ⟨T', X', e', st⟩ := instNo X hx hZ hown w eT E F (g := mkF m pc Ls (.ref a :: rest)) rfl rfl hd
  exact Go.of st (go T' ⟨hx, e', hZ, hown, hO, hE, hC, hlk, locs, k0, X', hS, hk, hF⟩)
theorem g_instNull (S : St p l e R s m args below meth c Z a0 EL n0 own T V h k n) {index : Nat} (hd : decode c.code pc = .ok (.instanceof index, 3)) (go : Go p e below Q (T.setTop (mkF m (pc + 3) Ls (.int 0 :: rest)))) : Go p e below Q (T.setTop (mkF m pc Ls (.null :: rest))) := by
  obtain ⟨hx, eT, hZ, hown, hO, hE, hC, hlk, locs, k0, X, hS, hk, hF⟩ := S
  exact Go.of (fun _ q => X.instanceofNull hx (g := mkF m pc Ls (.null :: rest)) rfl rfl hd _ q) go
end Steps
end Jvm.OwnKit
/- laws to paste: Road.backV, Road.chN, Road.codOf (cut by pick.py; bodies as the Statement names them) -/
namespace Jvm.Pilot.@@N@@
namespace StrChars
open Jvm Sem ClassFile Op Lib Jvm.Stand Jvm.Free.XT Jvm.Free.ALB Jvm.Free.JM Jvm.Free
open Jvm.Lib.Cold (StaticIs)
/-- a char array whose places are chars -/
def Ch (a : Addr) (A : Cell) (U : State) : Prop := Arr .char a A U ∧ Typed .char A
theorem Ch.mv {a : Addr} {A : Cell} {U U' : State} (h : Ch a A U) (hal : U.vm.Alike U'.vm) (hh : U'.heap = U.heap) : Ch a A U' := ⟨h.1.mv hal hh, h.2⟩
theorem Ch.keep {a : Addr} {A : Cell} {U U' : State} (h : Ch a A U) (hal : U.vm.Alike U'.vm) (hk : U'.heap[a]? = some A) : Ch a A U' := ⟨h.1.keep hal hk, h.2⟩
/-- what place i of a char[]'s cell holds -/
def cv (A : Cell) (i : Nat) : Int32 := match A.slots[i]? with | some (.int x) => x | _ => 0
theorem Ch.get {a : Addr} {A : Cell} {U : State} (h : Ch a A U) {i : Nat} (hi : i < A.slots.size) : A.slots[i]? = some (.int (cv A i)) := by
  have e := Array.getElem?_eq_getElem hi
  have f := h.2 i _ e
  unfold cv; rw [e]
  generalize A.slots[i] = v at f
  cases v <;> simp [fits] at f ⊢
/-- the byte that i2b leaves of a char -/
def lo8 (x : Int32) : Int32 := x.toInt8.toInt32
theorem fits_lo8 (y : Int32) : fits .byte (.int (lo8 y)) = true := by
  have h1 := y.toInt8.le_toInt
  have h2 := y.toInt8.toInt_lt
  simp only [lo8, fits, Bool.and_eq_true, decide_eq_true_eq, Int32.le_iff_toInt_le, Int8.toInt_toInt32, show (-128 : Int32).toInt = -128 from by decide, show (127 : Int32).toInt = 127 from by decide]
  omega
/-- A' is A but that each place j of lo .. hi - 1 holds f j -/
def Laid (A A' : Cell) (lo hi : Nat) (f : Nat → Value) : Prop := A'.cls = A.cls ∧ A'.vm = A.vm ∧ A'.slots.size = A.slots.size ∧ ∀ i, A'.slots[i]? = if lo ≤ i ∧ i < hi then some (f i) else A.slots[i]?
theorem Laid.zero (A : Cell) (lo : Nat) (f : Nat → Value) : Laid A A lo (lo + 0) f := ⟨rfl, rfl, rfl, fun i => by rw [if_neg (by omega)]⟩
theorem Laid.step {A Ak : Cell} {lo k : Nat} {f : Nat → Value} {v : Value} (h : Laid A Ak lo k f) (hlo : lo ≤ k) (hk : k < Ak.slots.size) (hv : v = f k) : Laid A (Ak.setSlot k v) lo (k + 1) f := by
  refine ⟨h.1, h.2.1, by simpa [Cell.setSlot] using h.2.2.1, fun i => ?_⟩
  by_cases e : k = i
  · subst e; rw [Cell.slots_setSlot_self v hk, if_pos (by omega), hv]
  · rw [Cell.slots_setSlot_ne v e, h.2.2.2 i]
    by_cases q : lo ≤ i ∧ i < k
    · rw [if_pos q, if_pos (by omega)]
    · rw [if_neg q, if_neg (by omega)]
def U16 : String := "java/lang/StringUTF16"
namespace Cmp5
def yN : MethodName := ⟨"java/lang/StringUTF16", "compress", "([CI[BII)I"⟩
abbrev yB : ByteArray := jdk_52_method_21_code
theorem d0 : decode yB 0 = .ok (.iconst 0, 1) := by decide +kernel
theorem d1 : decode yB 1 = .ok (.istore 5, 2) := by decide +kernel
theorem d3 : decode yB 3 = .ok (.iload 5, 2) := by decide +kernel
theorem d5 : decode yB 5 = .ok (.iload 4, 2) := by decide +kernel
theorem d7 : decode yB 7 = .ok (.if_icmp (.ge) 37, 3) := by decide +kernel
theorem d10 : decode yB 10 = .ok (.aload_n 0, 1) := by decide +kernel
theorem d11 : decode yB 11 = .ok (.iload_n 1, 1) := by decide +kernel
theorem d12 : decode yB 12 = .ok (.caload, 1) := by decide +kernel
theorem d13 : decode yB 13 = .ok (.istore 6, 2) := by decide +kernel
theorem d15 : decode yB 15 = .ok (.iload 6, 2) := by decide +kernel
theorem d17 : decode yB 17 = .ok (.sipush 255, 3) := by decide +kernel
theorem d20 : decode yB 20 = .ok (.if_icmp (.le) 6, 3) := by decide +kernel
theorem d26 : decode yB 26 = .ok (.aload_n 2, 1) := by decide +kernel
theorem d27 : decode yB 27 = .ok (.iload_n 3, 1) := by decide +kernel
theorem d28 : decode yB 28 = .ok (.iload 6, 2) := by decide +kernel
theorem d30 : decode yB 30 = .ok (.i2b, 1) := by decide +kernel
theorem d31 : decode yB 31 = .ok (.bastore, 1) := by decide +kernel
theorem d32 : decode yB 32 = .ok (.iinc 1 1, 3) := by decide +kernel
theorem d35 : decode yB 35 = .ok (.iinc 3 1, 3) := by decide +kernel
theorem d38 : decode yB 38 = .ok (.iinc 5 1, 3) := by decide +kernel
theorem d41 : decode yB 41 = .ok (.goto (-38), 3) := by decide +kernel
theorem d44 : decode yB 44 = .ok (.iload 4, 2) := by decide +kernel
theorem d46 : decode yB 46 = .ok (.ireturn, 1) := by decide +kernel
def site : List Cond := []
def tab : Cond := tabOf yN yB 7 (some .int) site
def P (b : Addr) (A : Cell) (d : Addr) (B : Cell) (o q len : Nat) (args : Array Value) (s : State) : Prop := args = #[.ref b, .int (Int32.ofNat o), .ref d, .int (Int32.ofNat q), .int (Int32.ofNat len)] ∧ Ch b A s ∧ Arr .byte d B s ∧ b ≠ d ∧ o + len ≤ A.slots.size ∧ q + len ≤ B.slots.size ∧ ∀ i, i < len → ¬ 255 < cv A (o + i)
def E (b : Addr) (A : Cell) (d : Addr) (B : Cell) (o q len : Nat) (r : Option Value) (s u : State) : Prop := r = some (.int (Int32.ofNat len)) ∧ ∃ B', Put d B' s u ∧ Laid B B' q (q + len) (fun j => Value.int (lo8 (cv A (o + (j - q)))))
/-- no char of the range above 255: len; the places written hold each char's low byte -/
theorem law (l : Launch) (b : Addr) (A : Cell) (d : Addr) (B : Cell) (o q len : Nat) : Law l yN 5 5 0 0 yB 7 (some .int) site (P b A d B o q len) (E b A d B o q len) (copyLocs d q len) 0 0 := by
  refine Law.of_walk (plainFor_of_name (by decide +kernel)) (by decide +kernel) (by decide +kernel) (by decide) (fun _ _ h => by rw [h.1]; rfl) (fun _ U U' hal hh h => ⟨h.1, h.2.1.mv hal hh, h.2.2.1.mv hal hh, h.2.2.2⟩) (fun r U U' V V' h1 hal h2 h => ⟨h.1, h.2.elim fun B' q => ⟨B', q.1.mv h1 h2, q.2⟩⟩) ?_
  intro p e s m args below meth c s₁ X0 hexec hbytes hml hret hlk hnm hown hh0 W hP
  obtain ⟨rfl, hA, hB, hne, l1, l2, hp⟩ := hP
  have c1 : Steps p.tables e below (s₁.setTop (entryFrame m #[.ref b, .int (Int32.ofNat o), .ref d, .int (Int32.ofNat q), .int (Int32.ofNat len)] 7)) (s₁.setTop (mkF m 0 #[.val (.ref b), .val (.int (Int32.ofNat o)), .val (.ref d), .val (.int (Int32.ofNat q)), .val (.int (Int32.ofNat len)), .unset, .unset] [])) := entry rfl
  have hA0 := hA.1.mv X0.warmed.alike hh0
  have hB0 := hB.mv X0.warmed.alike hh0
  have a31 := hA.1.2.2.2
  have c2 : Steps p.tables e below (s₁.setTop (entryFrame m #[.ref b, .int (Int32.ofNat o), .ref d, .int (Int32.ofNat q), .int (Int32.ofNat len)] 7)) (s₁.setTop (mkF m 3 #[.val (.ref b), .val (.int (Int32.ofNat o)), .val (.ref d), .val (.int (Int32.ofNat q)), .val (.int (Int32.ofNat len)), .val (.int 0), .unset] [])) := c1.trans (by
    refine iconstV X0.here hexec rfl 0 (hb hbytes d0) (by decide) ?_
    refine XS.istore X0.here hexec rfl (hb hbytes d1) rfl rfl ?_
    exact Steps.refl _)
  have loop : ∀ (r i : Nat), i + r = len → ∀ (z : Slot), (z = .unset ∨ ∃ w, z = .val w ∧ w.category = 1) → ∀ (Tl : State) (Bk : Cell), Stand p l e { frames := 0, locals := 0, cells := 0, slots := 0 } s m #[.ref b, .int (Int32.ofNat o), .ref d, .int (Int32.ofNat q), .int (Int32.ofNat len)] below meth c Tl ([] ++ copyLocs d q i) 0 0 → Put d Bk s₁ Tl → Laid B Bk q (q + i) (fun j => Value.int (lo8 (cv A (o + (j - q))))) →
      Steps p.tables e below (s₁.setTop (entryFrame m #[.ref b, .int (Int32.ofNat o), .ref d, .int (Int32.ofNat q), .int (Int32.ofNat len)] 7)) (Tl.setTop (mkF m 3 #[.val (.ref b), .val (.int (Int32.ofNat (o + i))), .val (.ref d), .val (.int (Int32.ofNat (q + i))), .val (.int (Int32.ofNat len)), .val (.int (Int32.ofNat i)), z] [])) → ∃ (T' : State) (B' : Cell) (z' : Slot), Stand p l e { frames := 0, locals := 0, cells := 0, slots := 0 } s m #[.ref b, .int (Int32.ofNat o), .ref d, .int (Int32.ofNat q), .int (Int32.ofNat len)] below meth c T' ([] ++ copyLocs d q len) 0 0 ∧ Put d B' s₁ T' ∧ Laid B B' q (q + len) (fun j => Value.int (lo8 (cv A (o + (j - q))))) ∧
      Steps p.tables e below (s₁.setTop (entryFrame m #[.ref b, .int (Int32.ofNat o), .ref d, .int (Int32.ofNat q), .int (Int32.ofNat len)] 7)) (T'.setTop (mkF m 3 #[.val (.ref b), .val (.int (Int32.ofNat (o + len))), .val (.ref d), .val (.int (Int32.ofNat (q + len))), .val (.int (Int32.ofNat len)), .val (.int (Int32.ofNat len)), z'] [])) := by
    intro r
    induction r with
    | zero =>
      intro i hi z hz Tl Bk Xl pl fl cl
      have hil : i = len := by omega
      rw [hil] at Xl fl cl
      exact ⟨Tl, Bk, z, Xl, pl, fl, cl⟩
    | succ r ih =>
      intro i hi z hz Tl Bk Xl pl fl cl
      have all := X0.warmed.alike.symm.trans Xl.warmed.alike
      have hAl := hA0.keep all (pl.other hne hA0.1)
      have hBk := hB0.like all pl.1 fl.1 fl.2.1 fl.2.2.1
      have hlt : q + i < Bk.slots.size := by rw [fl.2.2.1]; omega
      have c3 : Steps p.tables e below (s₁.setTop (entryFrame m #[.ref b, .int (Int32.ofNat o), .ref d, .int (Int32.ofNat q), .int (Int32.ofNat len)] 7)) (Tl.setTop (mkF m 12 #[.val (.ref b), .val (.int (Int32.ofNat (o + i))), .val (.ref d), .val (.int (Int32.ofNat (q + i))), .val (.int (Int32.ofNat len)), .val (.int (Int32.ofNat i)), z] [.int (Int32.ofNat (o + i)), .ref b])) := cl.trans (by
        refine XS.iload Xl.here hexec rfl (hb hbytes d3) rfl ?_
        refine XS.iload Xl.here hexec rfl (hb hbytes d5) rfl ?_
        refine XS.icmpNo Xl.here hexec rfl (hb hbytes d7) rfl (ii_ge_f (lt32 (by omega) (by omega))) ?_
        refine XS.aloadN Xl.here hexec rfl (hb hbytes d10) rfl rfl ?_
        refine XS.iloadN Xl.here hexec rfl (hb hbytes d11) rfl ?_
        exact Steps.refl _)
      have c4 : Steps p.tables e below (s₁.setTop (entryFrame m #[.ref b, .int (Int32.ofNat o), .ref d, .int (Int32.ofNat q), .int (Int32.ofNat len)] 7)) (Tl.setTop (mkF m 13 #[.val (.ref b), .val (.int (Int32.ofNat (o + i))), .val (.ref d), .val (.int (Int32.ofNat (q + i))), .val (.int (Int32.ofNat len)), .val (.int (Int32.ofNat i)), z] [.int (cv A (o + i))])) := c3.trans (by
        refine Xl.aget hexec hAl rfl (hA.get (i := o + i) (by omega)) rfl rfl (hb hbytes d12) ?_
        exact Steps.refl _)
      have c5 : Steps p.tables e below (s₁.setTop (entryFrame m #[.ref b, .int (Int32.ofNat o), .ref d, .int (Int32.ofNat q), .int (Int32.ofNat len)] 7)) (Tl.setTop (mkF m 15 #[.val (.ref b), .val (.int (Int32.ofNat (o + i))), .val (.ref d), .val (.int (Int32.ofNat (q + i))), .val (.int (Int32.ofNat len)), .val (.int (Int32.ofNat i)), .val (.int (cv A (o + i)))] [])) := c4.trans (by
        refine XS.istoreS Xl.here hexec rfl (hb hbytes d13) rfl rfl hz ?_
        exact Steps.refl _)
      have c6 : Steps p.tables e below (s₁.setTop (entryFrame m #[.ref b, .int (Int32.ofNat o), .ref d, .int (Int32.ofNat q), .int (Int32.ofNat len)] 7)) (Tl.setTop (mkF m 31 #[.val (.ref b), .val (.int (Int32.ofNat (o + i))), .val (.ref d), .val (.int (Int32.ofNat (q + i))), .val (.int (Int32.ofNat len)), .val (.int (Int32.ofNat i)), .val (.int (cv A (o + i)))] [.int (lo8 (cv A (o + i))), .int (Int32.ofNat (q + i)), .ref d])) := c5.trans (by
        refine XS.iload Xl.here hexec rfl (hb hbytes d15) rfl ?_
        refine sipushV Xl.here hexec rfl 255 (hb hbytes d17) (by decide) ?_
        refine XS.icmpYes Xl.here hexec rfl (pc0 := 20) rfl (hb hbytes d20) rfl (ii_le_t (hp i (by omega))) (by decide) rfl ?_
        refine XS.aloadN Xl.here hexec rfl (hb hbytes d26) rfl rfl ?_
        refine XS.iloadN Xl.here hexec rfl (hb hbytes d27) rfl ?_
        refine XS.iload Xl.here hexec rfl (hb hbytes d28) rfl ?_
        refine i2b Xl.here hexec rfl (hb hbytes d30) rfl ?_
        exact Steps.refl _)
      obtain ⟨T7, X7, p7, st7⟩ := Xl.aput hexec hBk rfl hlt rfl (fits_lo8 (cv A (o + i))) (g := (mkF m 31 #[.val (.ref b), .val (.int (Int32.ofNat (o + i))), .val (.ref d), .val (.int (Int32.ofNat (q + i))), .val (.int (Int32.ofNat len)), .val (.int (Int32.ofNat i)), .val (.int (cv A (o + i)))] [.int (lo8 (cv A (o + i))), .int (Int32.ofNat (q + i)), .ref d])) rfl (rest := []) rfl (hb hbytes d31)
      have c8 : Steps p.tables e below (s₁.setTop (entryFrame m #[.ref b, .int (Int32.ofNat o), .ref d, .int (Int32.ofNat q), .int (Int32.ofNat len)] 7)) (T7.setTop (mkF m 32 #[.val (.ref b), .val (.int (Int32.ofNat (o + i))), .val (.ref d), .val (.int (Int32.ofNat (q + i))), .val (.int (Int32.ofNat len)), .val (.int (Int32.ofNat i)), .val (.int (cv A (o + i)))] [])) := c6.trans (st7 _ (Steps.refl _))
      have c9 : Steps p.tables e below (s₁.setTop (entryFrame m #[.ref b, .int (Int32.ofNat o), .ref d, .int (Int32.ofNat q), .int (Int32.ofNat len)] 7)) (T7.setTop (mkF m 3 #[.val (.ref b), .val (.int (Int32.ofNat (o + i) + 1)), .val (.ref d), .val (.int (Int32.ofNat (q + i) + 1)), .val (.int (Int32.ofNat len)), .val (.int (Int32.ofNat i + 1)), .val (.int (cv A (o + i)))] [])) := c8.trans (by
        refine iincV X7.here hexec rfl 1 (hb hbytes d32) (by decide) rfl rfl ?_
        refine iincV X7.here hexec rfl 1 (hb hbytes d35) (by decide) rfl rfl ?_
        refine iincV X7.here hexec rfl 1 (hb hbytes d38) (by decide) rfl rfl ?_
        refine XS.goto X7.here hexec rfl (pc0 := 41) rfl (hb hbytes d41) (by decide) rfl ?_
        exact Steps.refl _)
      have c10 : Steps p.tables e below (s₁.setTop (entryFrame m #[.ref b, .int (Int32.ofNat o), .ref d, .int (Int32.ofNat q), .int (Int32.ofNat len)] 7)) (T7.setTop (mkF m 3 #[.val (.ref b), .val (.int (Int32.ofNat (o + (i + 1)))), .val (.ref d), .val (.int (Int32.ofNat (q + (i + 1)))), .val (.int (Int32.ofNat len)), .val (.int (Int32.ofNat (i + 1))), .val (.int (cv A (o + i)))] [])) := by
        have := c9
        rw [succ32, succ32, succ32] at this
        exact this
      exact ih (i + 1) (by omega) _ (Or.inr ⟨_, rfl, rfl⟩) T7 _ (by rw [copyLocs_step, ← List.append_assoc]; exact X7) (pl.trans p7) (fl.step (by omega) hlt (by simp)) c10
  obtain ⟨T9, B9, z9, X9, p9, f9, g9⟩ := loop len 0 (by omega) .unset (Or.inl rfl) s₁ B (by simpa [copyLocs] using X0) ⟨hB0.1, fun _ _ => rfl, rfl⟩ (Laid.zero _ _ _) c2
  have c11 : Steps p.tables e below (s₁.setTop (entryFrame m #[.ref b, .int (Int32.ofNat o), .ref d, .int (Int32.ofNat q), .int (Int32.ofNat len)] 7)) (T9.setTop (mkF m 46 #[.val (.ref b), .val (.int (Int32.ofNat (o + len))), .val (.ref d), .val (.int (Int32.ofNat (q + len))), .val (.int (Int32.ofNat len)), .val (.int (Int32.ofNat len)), z9] [.int (Int32.ofNat len)])) := g9.trans (by
    refine XS.iload X9.here hexec rfl (hb hbytes d3) rfl ?_
    refine XS.iload X9.here hexec rfl (hb hbytes d5) rfl ?_
    refine XS.icmpYes X9.here hexec rfl (pc0 := 7) rfl (hb hbytes d7) rfl (ii_ge_t (nlt32 (by omega) (Nat.le_refl _))) (by decide) rfl ?_
    refine XS.iload X9.here hexec rfl (hb hbytes d44) rfl ?_
    exact Steps.refl _)
  exact ⟨T9, some (.int (Int32.ofNat len)), _, _, _, X9, by simp, rfl, rfl, (fun h => by cases h), ⟨rfl, B9, p9.from hh0, f9⟩, fun fs hl => c11.trans (X9.ireturnOut hexec hret rfl (Or.inl rfl) (hb hbytes d46) hl)⟩
end Cmp5
namespace Cmp3
def yN : MethodName := ⟨"java/lang/StringUTF16", "compress", "([CII)[B"⟩
abbrev yB : ByteArray := jdk_52_method_16_code
theorem d0 : decode yB 0 = .ok (.iload_n 2, 1) := by decide +kernel
theorem d1 : decode yB 1 = .ok (.newarray .byte, 2) := by decide +kernel
theorem d3 : decode yB 3 = .ok (.astore_n 3, 1) := by decide +kernel
theorem d4 : decode yB 4 = .ok (.aload_n 0, 1) := by decide +kernel
theorem d5 : decode yB 5 = .ok (.iload_n 1, 1) := by decide +kernel
theorem d6 : decode yB 6 = .ok (.aload_n 3, 1) := by decide +kernel
theorem d7 : decode yB 7 = .ok (.iconst 0, 1) := by decide +kernel
theorem d8 : decode yB 8 = .ok (.iload_n 2, 1) := by decide +kernel
theorem d9 : decode yB 9 = .ok (.invokestatic 115, 3) := by decide +kernel
theorem d12 : decode yB 12 = .ok (.istore 4, 2) := by decide +kernel
theorem d14 : decode yB 14 = .ok (.iload 4, 2) := by decide +kernel
theorem d16 : decode yB 16 = .ok (.iload_n 2, 1) := by decide +kernel
theorem d17 : decode yB 17 = .ok (.if_icmp (.eq) 40, 3) := by decide +kernel
theorem d57 : decode yB 57 = .ok (.aload_n 3, 1) := by decide +kernel
theorem d58 : decode yB 58 = .ok (.areturn, 1) := by decide +kernel
def site : List Cond := [.arrayClass .byte, Cmp5.tab] ++ staticW U16 115 Cmp5.yN
def tab : Cond := tabOf yN yB 6 (some (.array .byte)) site
def P (b : Addr) (A : Cell) (o len : Nat) (args : Array Value) (s : State) : Prop := args = #[.ref b, .int (Int32.ofNat o), .int (Int32.ofNat len)] ∧ Ch b A s ∧ o + len ≤ A.slots.size ∧ len ≤ 536870912 ∧ ∀ i, i < len → ¬ 255 < cv A (o + i)
def E (b : Addr) (A : Cell) (o len : Nat) (r : Option Value) (s u : State) : Prop := NewArr .byte "[B" len (fun j => .int (lo8 (cv A (o + j)))) r s u ∧ u.heap.size = s.heap.size + 1
/-- no char of the range above 255: a new byte[] of their low bytes -/
theorem law (l : Launch) (b : Addr) (A : Cell) (o len : Nat) : Law l yN 3 3 1 18 yB 6 (some (.array .byte)) site (P b A o len) (E b A o len) [] 1 len := by
  refine Law.of_walk (plainFor_of_name (by decide +kernel)) (by decide +kernel) (by decide +kernel) (by decide) (fun _ _ h => by rw [h.1]; rfl) (fun _ U U' hal hh h => ⟨h.1, h.2.1.mv hal hh, h.2.2⟩) (fun r U U' V V' h1 hal h2 h => ⟨NewArr.mv r U U' V V' h1 hal h2 h.1, by rw [h1, h2]; exact h.2⟩) ?_
  intro p e s m args below meth c s₁ X0 hexec hbytes hml hret hlk hnm hown hh0 W hP
  obtain ⟨rfl, hA, l1, l2, hp⟩ := hP
  have a31 := hA.1.2.2.2
  have c1 : Steps p.tables e below (s₁.setTop (entryFrame m #[.ref b, .int (Int32.ofNat o), .int (Int32.ofNat len)] 6)) (s₁.setTop (mkF m 0 #[.val (.ref b), .val (.int (Int32.ofNat o)), .val (.int (Int32.ofNat len)), .unset, .unset, .unset] [])) := entry rfl
  have c2 : Steps p.tables e below (s₁.setTop (entryFrame m #[.ref b, .int (Int32.ofNat o), .int (Int32.ofNat len)] 6)) (s₁.setTop (mkF m 1 #[.val (.ref b), .val (.int (Int32.ofNat o)), .val (.int (Int32.ofNat len)), .unset, .unset, .unset] [.int (Int32.ofNat len)])) := c1.trans (by
    refine XS.iloadN X0.here hexec rfl (hb hbytes d0) rfl ?_
    exact Steps.refl _)
  obtain ⟨T3, B3, X3, ba3, bs3, bv3, bh3, bf3, st3⟩ := X0.anew hexec (atype := .byte) (wk W (.arrayClass .byte)) rfl (by show len * 1 ≤ _; omega) (by omega) (g := (mkF m 1 #[.val (.ref b), .val (.int (Int32.ofNat o)), .val (.int (Int32.ofNat len)), .unset, .unset, .unset] [.int (Int32.ofNat len)])) rfl (hb hbytes d1) (rest := []) rfl (Nat.le_refl _) (by show 0 + len ≤ len; omega)
  rw [hh0] at ba3 st3
  have kp3 : XT.Kept s T3 := (XT.Kept.of_eq hh0).push bh3
  have hA3 := hA.keep X3.warmed.alike (kp3 _ _ hA.1.1)
  have hne : b ≠ s.heap.size := hA.1.ne
  have c4 : Steps p.tables e below (s₁.setTop (entryFrame m #[.ref b, .int (Int32.ofNat o), .int (Int32.ofNat len)] 6)) (T3.setTop (mkF m 3 #[.val (.ref b), .val (.int (Int32.ofNat o)), .val (.int (Int32.ofNat len)), .unset, .unset, .unset] [.ref s.heap.size])) := c2.trans (st3 _ (Steps.refl _))
  have c5 : Steps p.tables e below (s₁.setTop (entryFrame m #[.ref b, .int (Int32.ofNat o), .int (Int32.ofNat len)] 6)) (T3.setTop (mkF m 9 #[.val (.ref b), .val (.int (Int32.ofNat o)), .val (.int (Int32.ofNat len)), .val (.ref s.heap.size), .unset, .unset] [.int (Int32.ofNat len), .int 0, .ref s.heap.size, .int (Int32.ofNat o), .ref b])) := c4.trans (by
    refine XS.astoreN X3.here hexec rfl (hb hbytes d3) rfl rfl rfl ?_
    refine XS.aloadN X3.here hexec rfl (hb hbytes d4) rfl rfl ?_
    refine XS.iloadN X3.here hexec rfl (hb hbytes d5) rfl ?_
    refine XS.aloadN X3.here hexec rfl (hb hbytes d6) rfl rfl ?_
    refine iconstV X3.here hexec rfl 0 (hb hbytes d7) (by decide) ?_
    refine XS.iloadN X3.here hexec rfl (hb hbytes d8) rfl ?_
    exact Steps.refl _)
  obtain ⟨v6, T6, X6, E6, g6⟩ := X3.callS hexec (Cmp5.law l b A s.heap.size B3 o 0 len) hown (wks W (staticW U16 115 Cmp5.yN)) (wk W Cmp5.tab) (W := 0) (Nat.le_of_ble_eq_true rfl) (Nat.le_of_ble_eq_true rfl) (Nat.le_refl _) (by show 0 + len + 0 ≤ len; omega) (g := (mkF m 9 #[.val (.ref b), .val (.int (Int32.ofNat o)), .val (.int (Int32.ofNat len)), .val (.ref s.heap.size), .unset, .unset] [.int (Int32.ofNat len), .int (Int32.ofNat 0), .ref s.heap.size, .int (Int32.ofNat o), .ref b])) rfl (by rw [hml]; rfl) c5 (argsL := [.ref b, .int (Int32.ofNat o), .ref s.heap.size, .int (Int32.ofNat 0), .int (Int32.ofNat len)]) (rest := []) rfl rfl (by show 2 * 0 + 0 ≤ _; decide) (hb hbytes d9) (⟨rfl, hA3, ba3, hne, l1, by rw [bs3]; simp, hp⟩)
  obtain ⟨rfl, B6, p6, f6⟩ := E6
  have c7 : Steps p.tables e below (s₁.setTop (entryFrame m #[.ref b, .int (Int32.ofNat o), .int (Int32.ofNat len)] 6)) (T6.setTop (mkF m 12 #[.val (.ref b), .val (.int (Int32.ofNat o)), .val (.int (Int32.ofNat len)), .val (.ref s.heap.size), .unset, .unset] [.int (Int32.ofNat len)])) := g6
  have c8 : Steps p.tables e below (s₁.setTop (entryFrame m #[.ref b, .int (Int32.ofNat o), .int (Int32.ofNat len)] 6)) (T6.setTop (mkF m 58 #[.val (.ref b), .val (.int (Int32.ofNat o)), .val (.int (Int32.ofNat len)), .val (.ref s.heap.size), .val (.int (Int32.ofNat len)), .unset] [.ref s.heap.size])) := c7.trans (by
    refine XS.istore X6.here hexec rfl (hb hbytes d12) rfl rfl ?_
    refine XS.iload X6.here hexec rfl (hb hbytes d14) rfl ?_
    refine XS.iloadN X6.here hexec rfl (hb hbytes d16) rfl ?_
    refine XS.icmpYes X6.here hexec rfl (pc0 := 17) rfl (hb hbytes d17) rfl (ii_eq_t rfl) (by decide) rfl ?_
    refine XS.aloadN X6.here hexec rfl (hb hbytes d57) rfl rfl ?_
    exact Steps.refl _)
  have X8 := X6.wide (L' := []) (cells' := 1) (slots' := len) (fun x hx hlt => by
    simp only [List.nil_append, copyLocs, List.mem_map, List.mem_range] at hx
    obtain ⟨i, -, rfl⟩ := hx
    exact absurd hlt (Nat.lt_irrefl _)) (Nat.le_refl _) (by omega)
  exact ⟨T6, some (.ref s.heap.size), _, _, _, X8, rfl, rfl, rfl, (fun h => by cases h), ⟨⟨rfl, B6, ba3.like (X3.warmed.alike.symm.trans X6.warmed.alike) p6.1 f6.1 f6.2.1 f6.2.2.1, f6.2.1.trans bv3, by rw [X6.warmed.alike.findClass, f6.1]; exact bf3, by rw [f6.2.2.1, bs3]; simp, fun j hj => by rw [f6.2.2.2 j, if_pos (by omega)]; rfl, kp3.put p6 (Nat.le_refl _)⟩, by rw [p6.2.2, bh3, hh0]; simp⟩, fun fs hl => c8.trans (X8.areturnOut hexec rfl hret rfl (hb hbytes d58) hl)⟩
end Cmp3
namespace CodL
def yN : MethodName := ⟨"java/lang/StringUTF16", "coderFromArrayLen", "([BI)B"⟩
abbrev yB : ByteArray := jdk_52_method_15_code
theorem d0 : decode yB 0 = .ok (.iload_n 1, 1) := by decide +kernel
theorem d1 : decode yB 1 = .ok (.aload_n 0, 1) := by decide +kernel
theorem d2 : decode yB 2 = .ok (.arraylength, 1) := by decide +kernel
theorem d3 : decode yB 3 = .ok (.isub, 1) := by decide +kernel
theorem d4 : decode yB 4 = .ok (.bipush 31, 2) := by decide +kernel
theorem d6 : decode yB 6 = .ok (.iushr, 1) := by decide +kernel
theorem d7 : decode yB 7 = .ok (.i2b, 1) := by decide +kernel
theorem d8 : decode yB 8 = .ok (.ireturn, 1) := by decide +kernel
def site : List Cond := []
def tab : Cond := tabOf yN yB 2 (some .byte) site
def P (d : Addr) (B : Cell) (args : Array Value) (s : State) : Prop := args = #[.ref d, .int (Int32.ofNat B.slots.size)] ∧ Arr .byte d B s
def E (r : Option Value) (s u : State) : Prop := XT.PureE (some (.int 0)) r s u
/-- an array as long as the number of chars: LATIN1 -/
theorem law (l : Launch) (d : Addr) (B : Cell) : Law l yN 2 2 0 0 yB 2 (some .byte) site (P d B) E [] 0 0 := by
  refine Law.of_walk (plainFor_of_name (by decide +kernel)) (by decide +kernel) (by decide +kernel) (by decide) (fun _ _ h => by rw [h.1]; rfl) (fun _ U U' hal hh h => ⟨h.1, h.2.mv hal hh⟩) (fun r U U' V V' h1 hal h2 h => XT.PureE.mv r U U' V V' h1 hal h2 h) ?_
  intro p e s m args below meth c s₁ X0 hexec hbytes hml hret hlk hnm hown hh0 W hP
  obtain ⟨rfl, hB⟩ := hP
  have hB0 := hB.mv X0.warmed.alike hh0
  have c1 : Steps p.tables e below (s₁.setTop (entryFrame m #[.ref d, .int (Int32.ofNat B.slots.size)] 2)) (s₁.setTop (mkF m 0 #[.val (.ref d), .val (.int (Int32.ofNat B.slots.size))] [])) := entry rfl
  have c2 : Steps p.tables e below (s₁.setTop (entryFrame m #[.ref d, .int (Int32.ofNat B.slots.size)] 2)) (s₁.setTop (mkF m 2 #[.val (.ref d), .val (.int (Int32.ofNat B.slots.size))] [.ref d, .int (Int32.ofNat B.slots.size)])) := c1.trans (by
    refine XS.iloadN X0.here hexec rfl (hb hbytes d0) rfl ?_
    refine XS.aloadN X0.here hexec rfl (hb hbytes d1) rfl rfl ?_
    exact Steps.refl _)
  have c3 : Steps p.tables e below (s₁.setTop (entryFrame m #[.ref d, .int (Int32.ofNat B.slots.size)] 2)) (s₁.setTop (mkF m 8 #[.val (.ref d), .val (.int (Int32.ofNat B.slots.size))] [.int (lo8 (ushr (Int32.ofNat B.slots.size - Int32.ofNat B.slots.size) 31))])) := c2.trans (by
    refine X0.alen hexec hB0 rfl rfl (hb hbytes d2) ?_
    refine XS.isub X0.here hexec rfl (hb hbytes d3) rfl ?_
    refine bipushV X0.here hexec rfl 31 (hb hbytes d4) (by decide) ?_
    refine iushr X0.here hexec rfl (hb hbytes d6) rfl ?_
    refine i2b X0.here hexec rfl (hb hbytes d7) rfl ?_
    exact Steps.refl _)
  have e0 : lo8 (ushr (Int32.ofNat B.slots.size - Int32.ofNat B.slots.size) 31) = 0 := by rw [Int32.sub_self]; decide
  rw [e0] at c3
  exact ⟨s₁, some (.int 0), _, _, _, X0, rfl, rfl, rfl, (fun h => by cases h), ⟨rfl, hh0⟩, fun fs hl => c3.trans (X0.ireturnOut hexec hret rfl (Or.inr (Or.inr (Or.inl rfl))) (hb hbytes d8) hl)⟩
end CodL
/-- the String at a is Latin-1 over a new byte[] (the heap's one new cell): the low bytes of the len chars of A from o on; every cell but a is kept -/
def Got (a : Addr) (D : Cell) (fV fC : Field) (A : Cell) (o len : Nat) (r : Option Value) (s u : State) : Prop := r = none ∧ ∃ D' V : Cell, Blank "java/lang/String" a D' u ∧ Same D D' [fV.slot, fC.slot] ∧ D'.slots[fV.slot]? = some (.ref s.heap.size) ∧ D'.slots[fC.slot]? = some (.int 0) ∧ Arr .byte s.heap.size V u ∧ V.vm = .none ∧ u.vm.findClass "[B" = some V.cls ∧ V.slots.size = len ∧ (∀ j, j < len → V.slots[j]? = some (.int (lo8 (cv A (o + j))))) ∧ (∀ (y : Addr) (c : Cell), y ≠ a → s.heap[y]? = some c → u.heap[y]? = some c) ∧ u.heap.size = s.heap.size + 1
theorem Got.mv {a : Addr} {D A : Cell} {fV fC : Field} {o len : Nat} : ∀ r (U U' V V' : State), U'.heap = U.heap → V.vm.Alike V'.vm → V'.heap = V.heap → Got a D fV fC A o len r U V → Got a D fV fC A o len r U' V' :=
  fun r U U' V V' h1 hal h2 ⟨e0, D', X, a1, a2, a3, a4, a5, a6, a7, a8, a9, a10, a11⟩ => ⟨e0, D', X, a1.mv hal h2, a2, by rw [h1]; exact a3, a4, by rw [h1]; exact a5.mv hal h2, a6, by rw [hal.findClass]; exact a7, a8, a9, by rw [h1, h2]; exact a10, by rw [h1, h2]; exact a11⟩
namespace New4
def yN : MethodName := ⟨"java/lang/String", "<init>", "([CIILjava/lang/Void;)V"⟩
abbrev yB : ByteArray := jdk_42_method_149_code
theorem d0 : decode yB 0 = .ok (.aload_n 0, 1) := by decide +kernel
theorem d1 : decode yB 1 = .ok (.invokespecial 1, 3) := by decide +kernel
theorem d4 : decode yB 4 = .ok (.iload_n 3, 1) := by decide +kernel
theorem d5 : decode yB 5 = .ok (.ifCond (.ne) 22, 3) := by decide +kernel
theorem d27 : decode yB 27 = .ok (.getstatic 38, 3) := by decide +kernel
theorem d30 : decode yB 30 = .ok (.ifCond (.eq) 28, 3) := by decide +kernel
theorem d33 : decode yB 33 = .ok (.aload_n 1, 1) := by decide +kernel
theorem d34 : decode yB 34 = .ok (.iload_n 2, 1) := by decide +kernel
theorem d35 : decode yB 35 = .ok (.iload_n 3, 1) := by decide +kernel
theorem d36 : decode yB 36 = .ok (.invokestatic 177, 3) := by decide +kernel
theorem d39 : decode yB 39 = .ok (.astore 5, 2) := by decide +kernel
theorem d41 : decode yB 41 = .ok (.aload_n 0, 1) := by decide +kernel
theorem d42 : decode yB 42 = .ok (.aload 5, 2) := by decide +kernel
theorem d44 : decode yB 44 = .ok (.iload_n 3, 1) := by decide +kernel
theorem d45 : decode yB 45 = .ok (.invokestatic 47, 3) := by decide +kernel
theorem d48 : decode yB 48 = .ok (.putfield 15, 3) := by decide +kernel
theorem d51 : decode yB 51 = .ok (.aload_n 0, 1) := by decide +kernel
theorem d52 : decode yB 52 = .ok (.aload 5, 2) := by decide +kernel
theorem d54 : decode yB 54 = .ok (.putfield 9, 3) := by decide +kernel
theorem d57 : decode yB 57 = .ok (.return_, 1) := by decide +kernel
def site : List Cond := [.fieldLink "java/lang/String" 38 "java/lang/String" "COMPACT_STRINGS" "Z", Cmp3.tab, CodL.tab, .laysFinal "java/lang/String" "java/lang/String" "value" "[B", .fieldLink "java/lang/String" 9 "java/lang/String" "value" "[B", .laysFinal "java/lang/String" "java/lang/String" "coder" "B", .fieldLink "java/lang/String" 15 "java/lang/String" "coder" "B"] ++ objW "java/lang/String" 1 ++ staticW "java/lang/String" 177 Cmp3.yN ++ staticW "java/lang/String" 47 CodL.yN
def tab : Cond := tabOf yN yB 6 none site
def P (a : Addr) (D : Cell) (fV fC : Field) (b : Addr) (A : Cell) (z : Int32) (o len : Nat) (args : Array Value) (s : State) : Prop := args = #[.ref a, .ref b, .int (Int32.ofNat o), .int (Int32.ofNat len), .null] ∧ Blank "java/lang/String" a D s ∧ Found "java/lang/String" "value" "[B" fV s ∧ Found "java/lang/String" "coder" "B" fC s ∧ Ch b A s ∧ StaticIs s "java/lang/String" "COMPACT_STRINGS" "Z" (.int z) ∧ ¬ z = 0 ∧ 0 < len ∧ o + len ≤ A.slots.size ∧ len ≤ 536870912 ∧ ∀ i, i < len → ¬ 255 < cv A (o + i)
def E (a : Addr) (D : Cell) (fV fC : Field) (A : Cell) (o len : Nat) (r : Option Value) (s u : State) : Prop := Got a D fV fC A o len r s u
/-- len > 0, no char of the range above 255: a Latin-1 String of their low bytes -/
theorem law (l : Launch) (a : Addr) (D : Cell) (fV fC : Field) (b : Addr) (A : Cell) (z : Int32) (o len : Nat) : Law l yN 5 4 2 35 yB 6 none site (P a D fV fC b A z o len) (E a D fV fC A o len) [⟨a, fC.slot⟩, ⟨a, fV.slot⟩] 1 len := by
  refine Law.of_walk (plainFor_of_name (by decide +kernel)) (by decide +kernel) (by decide +kernel) (by decide) (fun _ _ h => by rw [h.1]; rfl) (fun _ U U' hal hh h => ⟨h.1, h.2.1.mv hal hh, h.2.2.1.al hal, h.2.2.2.1.al hal, h.2.2.2.2.1.mv hal hh, h.2.2.2.2.2.1.there hal hh, h.2.2.2.2.2.2⟩) (fun r U U' V V' h1 hal h2 h => Got.mv r U U' V V' h1 hal h2 h) ?_
  intro p e s m args below meth c s₁ X0 hexec hbytes hml hret hlk hnm hown hh0 W hP
  obtain ⟨rfl, hB, f1, f2, hA, s1, hz, l0, l1, l2, hp⟩ := hP
  have a31 := hA.1.2.2.2
  have c1 : Steps p.tables e below (s₁.setTop (entryFrame m #[.ref a, .ref b, .int (Int32.ofNat o), .int (Int32.ofNat len), .null] 6)) (s₁.setTop (mkF m 0 #[.val (.ref a), .val (.ref b), .val (.int (Int32.ofNat o)), .val (.int (Int32.ofNat len)), .val .null, .unset] [])) := entry rfl
  have c2 : Steps p.tables e below (s₁.setTop (entryFrame m #[.ref a, .ref b, .int (Int32.ofNat o), .int (Int32.ofNat len), .null] 6)) (s₁.setTop (mkF m 1 #[.val (.ref a), .val (.ref b), .val (.int (Int32.ofNat o)), .val (.int (Int32.ofNat len)), .val .null, .unset] [.ref a])) := c1.trans (by
    refine XS.aloadN X0.here hexec rfl (hb hbytes d0) rfl rfl ?_
    exact Steps.refl _)
  obtain ⟨T3, X3, q3, st3⟩ := X0.oinit hexec hown (wks W (objW "java/lang/String" 1)) (g := (mkF m 1 #[.val (.ref a), .val (.ref b), .val (.int (Int32.ofNat o)), .val (.int (Int32.ofNat len)), .val .null, .unset] [.ref a])) rfl (by rw [hml]; rfl) (rest := []) rfl (hb hbytes d1) (W := 0) (by show 2 * 0 + 0 ≤ _; decide) (Nat.le_of_ble_eq_true rfl) (Nat.le_of_ble_eq_true rfl)
  have hh3 := q3.trans hh0
  have c4 : Steps p.tables e below (s₁.setTop (entryFrame m #[.ref a, .ref b, .int (Int32.ofNat o), .int (Int32.ofNat len), .null] 6)) (T3.setTop (mkF m 27 #[.val (.ref a), .val (.ref b), .val (.int (Int32.ofNat o)), .val (.int (Int32.ofNat len)), .val .null, .unset] [])) := (c2.trans (st3 _ (Steps.refl _))).trans (by
    refine XS.iloadN X3.here hexec rfl (hb hbytes d4) rfl ?_
    refine XS.ifYes X3.here hexec rfl (pc0 := 5) rfl (hb hbytes d5) rfl (i0_ne_t (nz32 (by omega) l0)) (by decide) rfl ?_
    exact Steps.refl _)
  obtain ⟨T5, X5, q5, st5⟩ := X3.sget hexec hown (wk W (.fieldLink "java/lang/String" 38 "java/lang/String" "COMPACT_STRINGS" "Z")) s1 (fun _ _ h => by rw [hh3]; exact h) (g := (mkF m 27 #[.val (.ref a), .val (.ref b), .val (.int (Int32.ofNat o)), .val (.int (Int32.ofNat len)), .val .null, .unset] [])) rfl (hb hbytes d27)
  have hh5 := q5.trans hh3
  have c6 : Steps p.tables e below (s₁.setTop (entryFrame m #[.ref a, .ref b, .int (Int32.ofNat o), .int (Int32.ofNat len), .null] 6)) (T5.setTop (mkF m 30 #[.val (.ref a), .val (.ref b), .val (.int (Int32.ofNat o)), .val (.int (Int32.ofNat len)), .val .null, .unset] [.int z])) := c4.trans (st5 _ (Steps.refl _))
  have c7 : Steps p.tables e below (s₁.setTop (entryFrame m #[.ref a, .ref b, .int (Int32.ofNat o), .int (Int32.ofNat len), .null] 6)) (T5.setTop (mkF m 36 #[.val (.ref a), .val (.ref b), .val (.int (Int32.ofNat o)), .val (.int (Int32.ofNat len)), .val .null, .unset] [.int (Int32.ofNat len), .int (Int32.ofNat o), .ref b])) := c6.trans (by
    refine XS.ifNo X5.here hexec rfl (hb hbytes d30) rfl (i0_eq_f hz) ?_
    refine XS.aloadN X5.here hexec rfl (hb hbytes d33) rfl rfl ?_
    refine XS.iloadN X5.here hexec rfl (hb hbytes d34) rfl ?_
    refine XS.iloadN X5.here hexec rfl (hb hbytes d35) rfl ?_
    exact Steps.refl _)
  obtain ⟨v8, T8, X8, E8, g8⟩ := X5.callS hexec (Cmp3.law l b A o len) hown (wks W (staticW "java/lang/String" 177 Cmp3.yN)) (wk W Cmp3.tab) (W := 0) (Nat.le_of_ble_eq_true rfl) (Nat.le_of_ble_eq_true rfl) (Nat.le_refl _) (by show 0 + len ≤ len; omega) (g := (mkF m 36 #[.val (.ref a), .val (.ref b), .val (.int (Int32.ofNat o)), .val (.int (Int32.ofNat len)), .val .null, .unset] [.int (Int32.ofNat len), .int (Int32.ofNat o), .ref b])) rfl (by rw [hml]; rfl) c7 (argsL := [.ref b, .int (Int32.ofNat o), .int (Int32.ofNat len)]) (rest := []) rfl rfl (by show 2 * 0 + 0 ≤ _; decide) (hb hbytes d36) (⟨rfl, hA.mv X5.warmed.alike hh5, l1, l2, hp⟩)
  obtain ⟨e8, z8⟩ := E8
  obtain ⟨rfl, N, n1, n2, n3, n4, n5, n6⟩ := NewArr.mv _ T5 s _ _ hh5.symm (Vm.Alike.refl _) rfl e8
  rw [hh5] at z8
  have hB1 := hB.keep X8.warmed.alike (n6 _ _ hB.1)
  have hne : s.heap.size ≠ a := (Nat.ne_of_lt (Array.getElem?_eq_some_iff.mp hB.1).1).symm
  have c9 : Steps p.tables e below (s₁.setTop (entryFrame m #[.ref a, .ref b, .int (Int32.ofNat o), .int (Int32.ofNat len), .null] 6)) (T8.setTop (mkF m 39 #[.val (.ref a), .val (.ref b), .val (.int (Int32.ofNat o)), .val (.int (Int32.ofNat len)), .val .null, .unset] [.ref s.heap.size])) := g8
  have c10 : Steps p.tables e below (s₁.setTop (entryFrame m #[.ref a, .ref b, .int (Int32.ofNat o), .int (Int32.ofNat len), .null] 6)) (T8.setTop (mkF m 45 #[.val (.ref a), .val (.ref b), .val (.int (Int32.ofNat o)), .val (.int (Int32.ofNat len)), .val .null, .val (.ref s.heap.size)] [.int (Int32.ofNat N.slots.size), .ref s.heap.size, .ref a])) := by
    have hc : Steps p.tables e below (s₁.setTop (entryFrame m #[.ref a, .ref b, .int (Int32.ofNat o), .int (Int32.ofNat len), .null] 6)) (T8.setTop (mkF m 45 #[.val (.ref a), .val (.ref b), .val (.int (Int32.ofNat o)), .val (.int (Int32.ofNat len)), .val .null, .val (.ref s.heap.size)] [.int (Int32.ofNat len), .ref s.heap.size, .ref a])) := c9.trans (by
      refine XS.astore X8.here hexec rfl (hb hbytes d39) rfl rfl rfl ?_
      refine XS.aloadN X8.here hexec rfl (hb hbytes d41) rfl rfl ?_
      refine XS.aload X8.here hexec rfl (hb hbytes d42) rfl rfl ?_
      refine XS.iloadN X8.here hexec rfl (hb hbytes d44) rfl ?_
      exact Steps.refl _)
    rw [n4]; exact hc
  obtain ⟨v11, T11, X11, E11, g11⟩ := X8.callS hexec (CodL.law l s.heap.size N) hown (wks W (staticW "java/lang/String" 47 CodL.yN)) (wk W CodL.tab) (W := 1) (Nat.le_of_ble_eq_true rfl) (Nat.le_of_ble_eq_true rfl) (Nat.le_refl _) (by show 0 + len + 0 ≤ len; omega) (g := (mkF m 45 #[.val (.ref a), .val (.ref b), .val (.int (Int32.ofNat o)), .val (.int (Int32.ofNat len)), .val .null, .val (.ref s.heap.size)] [.int (Int32.ofNat N.slots.size), .ref s.heap.size, .ref a])) rfl (by rw [hml]; rfl) c10 (argsL := [.ref s.heap.size, .int (Int32.ofNat N.slots.size)]) (rest := [.ref a]) rfl rfl (by show 2 * 0 + (1 + 0) ≤ _; decide) (hb hbytes d45) (⟨rfl, n1⟩)
  obtain ⟨rfl, q11⟩ := E11
  have hB11 := hB1.mv (X8.warmed.alike.symm.trans X11.warmed.alike) q11
  have c12 : Steps p.tables e below (s₁.setTop (entryFrame m #[.ref a, .ref b, .int (Int32.ofNat o), .int (Int32.ofNat len), .null] 6)) (T11.setTop (mkF m 48 #[.val (.ref a), .val (.ref b), .val (.int (Int32.ofNat o)), .val (.int (Int32.ofNat len)), .val .null, .val (.ref s.heap.size)] [.int 0, .ref a])) := g11
  obtain ⟨T13, X13, p13, bl13, sl13, st13⟩ := X11.finit hexec hown (wk W (.fieldLink "java/lang/String" 15 "java/lang/String" "coder" "B")) (Or.inr ⟨_, (wk W (.laysFinal "java/lang/String" "java/lang/String" "coder" "B"))⟩) (Or.inl ⟨rfl, hnm⟩) f2 (Or.inl rfl) hB11 (t := .byte) (by decide +kernel) rfl (g := (mkF m 48 #[.val (.ref a), .val (.ref b), .val (.int (Int32.ofNat o)), .val (.int (Int32.ofNat len)), .val .null, .val (.ref s.heap.size)] [.int 0, .ref a])) rfl (rest := []) rfl (hb hbytes d48)
  have c14 : Steps p.tables e below (s₁.setTop (entryFrame m #[.ref a, .ref b, .int (Int32.ofNat o), .int (Int32.ofNat len), .null] 6)) (T13.setTop (mkF m 54 #[.val (.ref a), .val (.ref b), .val (.int (Int32.ofNat o)), .val (.int (Int32.ofNat len)), .val .null, .val (.ref s.heap.size)] [.ref s.heap.size, .ref a])) := (c12.trans (st13 _ (Steps.refl _))).trans (by
    refine XS.aloadN X13.here hexec rfl (hb hbytes d51) rfl rfl ?_
    refine XS.aload X13.here hexec rfl (hb hbytes d52) rfl rfl ?_
    exact Steps.refl _)
  obtain ⟨T15, X15, p15, bl15, sl15, st15⟩ := X13.finit hexec hown (wk W (.fieldLink "java/lang/String" 9 "java/lang/String" "value" "[B")) (Or.inr ⟨_, (wk W (.laysFinal "java/lang/String" "java/lang/String" "value" "[B"))⟩) (Or.inl ⟨rfl, hnm⟩) f1 (Or.inl rfl) bl13 (t := (.array .byte)) (by decide +kernel) rfl (g := (mkF m 54 #[.val (.ref a), .val (.ref b), .val (.int (Int32.ofNat o)), .val (.int (Int32.ofNat len)), .val .null, .val (.ref s.heap.size)] [.ref s.heap.size, .ref a])) rfl (rest := []) rfl (hb hbytes d54)
  have c16 : Steps p.tables e below (s₁.setTop (entryFrame m #[.ref a, .ref b, .int (Int32.ofNat o), .int (Int32.ofNat len), .null] 6)) (T15.setTop (mkF m 57 #[.val (.ref a), .val (.ref b), .val (.int (Int32.ofNat o)), .val (.int (Int32.ofNat len)), .val .null, .val (.ref s.heap.size)] [])) := c14.trans (st15 _ (Steps.refl _))
  have ap := apart (Or.inr ⟨_, (wk W (.laysFinal "java/lang/String" "java/lang/String" "value" "[B"))⟩) (Or.inr ⟨_, (wk W (.laysFinal "java/lang/String" "java/lang/String" "coder" "B"))⟩) f1 f2 (t₁ := .array .byte) (t₂ := .byte) (by decide +kernel) (by decide +kernel) (by decide)
  have al := X8.warmed.alike.symm.trans X15.warmed.alike
  have n7 : T11.heap[s.heap.size]? = some N := by rw [q11]; exact n1.1
  exact ⟨T15, none, _, _, _, X15, by simp, rfl, by omega, (fun _ => rfl), ⟨rfl, _, N, bl15, ((Same.refl D _).set _ (by simp)).set _ (by simp), sl15, (Cell.slots_setSlot_ne _ ap).trans sl13, n1.keep al (p15.other hne (p13.other hne n7)), n2, by rw [al.findClass]; exact n3, n4, n5, fun y c h1 h2 => p15.other h1 (p13.other h1 (by rw [q11]; exact n6 y c h2)), by rw [p15.2.2, p13.2.2, q11]; exact z8⟩, fun fs hl => c16.trans (X15.returnOut hexec hret (hb hbytes d57) hl)⟩
end New4
namespace New1
def yN : MethodName := ⟨"java/lang/String", "<init>", "([C)V"⟩
abbrev yB : ByteArray := jdk_42_method_3_code
theorem d0 : decode yB 0 = .ok (.aload_n 0, 1) := by decide +kernel
theorem d1 : decode yB 1 = .ok (.aload_n 1, 1) := by decide +kernel
theorem d2 : decode yB 2 = .ok (.iconst 0, 1) := by decide +kernel
theorem d3 : decode yB 3 = .ok (.aload_n 1, 1) := by decide +kernel
theorem d4 : decode yB 4 = .ok (.arraylength, 1) := by decide +kernel
theorem d5 : decode yB 5 = .ok (.aconst_null, 1) := by decide +kernel
theorem d6 : decode yB 6 = .ok (.invokespecial 27, 3) := by decide +kernel
theorem d9 : decode yB 9 = .ok (.return_, 1) := by decide +kernel
def site : List Cond := [New4.tab] ++ initW "java/lang/String" 27 New4.yN
def tab : Cond := tabOf yN yB 2 none site
def P (a : Addr) (D : Cell) (fV fC : Field) (b : Addr) (A : Cell) (z : Int32) (args : Array Value) (s : State) : Prop := args = #[.ref a, .ref b] ∧ Blank "java/lang/String" a D s ∧ Found "java/lang/String" "value" "[B" fV s ∧ Found "java/lang/String" "coder" "B" fC s ∧ Ch b A s ∧ StaticIs s "java/lang/String" "COMPACT_STRINGS" "Z" (.int z) ∧ ¬ z = 0 ∧ 0 < A.slots.size ∧ A.slots.size ≤ 536870912 ∧ ∀ i, i < A.slots.size → ¬ 255 < cv A i
def E (a : Addr) (D : Cell) (fV fC : Field) (A : Cell) (r : Option Value) (s u : State) : Prop := Got a D fV fC A 0 A.slots.size r s u
/-- new String(chars), not empty, no char above 255: a Latin-1 String of their low bytes -/
theorem law (l : Launch) (a : Addr) (D : Cell) (fV fC : Field) (b : Addr) (A : Cell) (z : Int32) : Law l yN 2 1 3 52 yB 2 none site (P a D fV fC b A z) (E a D fV fC A) [⟨a, fC.slot⟩, ⟨a, fV.slot⟩] 1 A.slots.size := by
  refine Law.of_walk (plainFor_of_name (by decide +kernel)) (by decide +kernel) (by decide +kernel) (by decide) (fun _ _ h => by rw [h.1]; rfl) (fun _ U U' hal hh h => ⟨h.1, h.2.1.mv hal hh, h.2.2.1.al hal, h.2.2.2.1.al hal, h.2.2.2.2.1.mv hal hh, h.2.2.2.2.2.1.there hal hh, h.2.2.2.2.2.2⟩) (fun r U U' V V' h1 hal h2 h => Got.mv r U U' V V' h1 hal h2 h) ?_
  intro p e s m args below meth c s₁ X0 hexec hbytes hml hret hlk hnm hown hh0 W hP
  obtain ⟨rfl, hB, f1, f2, hA, s1, hz, l0, l2, hp⟩ := hP
  have c1 : Steps p.tables e below (s₁.setTop (entryFrame m #[.ref a, .ref b] 2)) (s₁.setTop (mkF m 0 #[.val (.ref a), .val (.ref b)] [])) := entry rfl
  have c2 : Steps p.tables e below (s₁.setTop (entryFrame m #[.ref a, .ref b] 2)) (s₁.setTop (mkF m 6 #[.val (.ref a), .val (.ref b)] [.null, .int (Int32.ofNat A.slots.size), .int 0, .ref b, .ref a])) := c1.trans (by
    refine XS.aloadN X0.here hexec rfl (hb hbytes d0) rfl rfl ?_
    refine XS.aloadN X0.here hexec rfl (hb hbytes d1) rfl rfl ?_
    refine iconstV X0.here hexec rfl 0 (hb hbytes d2) (by decide) ?_
    refine XS.aloadN X0.here hexec rfl (hb hbytes d3) rfl rfl ?_
    refine X0.alen hexec (hA.1.mv X0.warmed.alike hh0) rfl rfl (hb hbytes d4) ?_
    refine XS.aconstNull X0.here hexec rfl (hb hbytes d5) ?_
    exact Steps.refl _)
  obtain ⟨v3, T3, X3, E3, g3⟩ := X0.callN hexec (New4.law l a D fV fC b A z 0 A.slots.size) rfl hown (wks W (initW "java/lang/String" 27 New4.yN)) (W New4.tab (by simp only [site, List.mem_cons, List.mem_append, true_or, or_true])) (W := 0) (Nat.le_of_ble_eq_true rfl) (Nat.le_of_ble_eq_true rfl) (Nat.le_refl _) (by show 0 + A.slots.size ≤ A.slots.size; omega) (g := (mkF m 6 #[.val (.ref a), .val (.ref b)] [.null, .int (Int32.ofNat A.slots.size), .int (Int32.ofNat 0), .ref b, .ref a])) rfl (by rw [hml]; rfl) c2 (argsL := [.ref b, .int (Int32.ofNat 0), .int (Int32.ofNat A.slots.size), .null]) (rest := []) rfl rfl (by show 2 * 0 + 0 ≤ _; decide) (hb hbytes d6) (⟨rfl, hB.mv X0.warmed.alike hh0, f1.al X0.warmed.alike, f2.al X0.warmed.alike, hA.mv X0.warmed.alike hh0, s1.there X0.warmed.alike hh0, hz, l0, by omega, l2, fun i hi => by rw [Nat.zero_add]; exact hp i hi⟩)
  have e0 := Got.mv _ s₁ s _ _ hh0.symm (Vm.Alike.refl _) rfl E3
  obtain rfl := e0.1
  have c4 : Steps p.tables e below (s₁.setTop (entryFrame m #[.ref a, .ref b] 2)) (T3.setTop (mkF m 9 #[.val (.ref a), .val (.ref b)] [])) := g3
  exact ⟨T3, none, _, _, _, X3, by simp, rfl, by omega, (fun _ => rfl), e0, fun fs hl => c4.trans (X3.returnOut hexec hret (hb hbytes d9) hl)⟩
theorem pays {l : Launch} {R : Room} {p : Program} {e : Env} {below : List Frame} {s : State} {sargs : Array Value} {len W : Nat} (a : Addr) (D : Cell) (fV fC : Field) (b : Addr) (A : Cell) (z : Int32) (htab : tab.before sargs s = true) (hfr : 4 ≤ R.frames) (hlo : W + 65 ≤ R.locals) :
    Back l R p e below s sargs yN len W (fun A₁ a₁ => A₁.cells + 1 ≤ R.cells ∧ A₁.slots + A.slots.size ≤ R.slots ∧ P a D fV fC b A z a₁ A₁.U) (fun A₁ _ v₁ B₁ => E a D fV fC A v₁ A₁.U B₁.U ∧ B₁.locs = A₁.locs ++ [⟨a, fC.slot⟩, ⟨a, fV.slot⟩] ∧ B₁.cells = A₁.cells + 1 ∧ B₁.slots = A₁.slots + A.slots.size) :=
  (law l a D fV fC b A z).pays htab hfr (by omega)
end New1
/-- the byte, read back as charAt reads it, is the char -/
theorem lo8_mask {x : Int32} (h0 : ¬ x < 0) (h1 : ¬ 255 < x) : lo8 x &&& 255 = x := by
  have t : ∀ k : Fin 256, lo8 (Int32.ofNat k.val) &&& 255 = Int32.ofNat k.val := by decide +kernel
  rw [Int32.lt_iff_toInt_lt] at h0 h1
  have e0 : (0 : Int32).toInt = 0 := rfl
  have e1 : (255 : Int32).toInt = 255 := rfl
  obtain ⟨k, hk⟩ : ∃ k : Nat, x.toInt = k := ⟨x.toInt.toNat, by omega⟩
  have hx : x = Int32.ofNat k := Int32.toInt_inj.mp (by rw [hk, Int32.toInt_ofNat_small (by omega)])
  rw [hx]
  exact t ⟨k, by omega⟩
end StrChars
namespace StrChars.Road
open Jvm Sem ClassFile Op Lib Jvm.Stand Jvm.Free Jvm.Free.XT
open Jvm.Lib.Cold (StaticIs)
abbrev ST : String := "java/lang/String"
/-- every table word that New1's law asks, flat -/
abbrev words : List Jvm.Cond := [.code New1.yN New1.yB 2 none, .initialized ST, .methodLink ST 27 New4.yN, .instanceMethod New4.yN,
  .code New4.yN New4.yB 6 none, .fieldLink ST 38 ST "COMPACT_STRINGS" "Z", .laysFinal ST ST "value" "[B", .fieldLink ST 9 ST "value" "[B", .laysFinal ST ST "coder" "B", .fieldLink ST 15 ST "coder" "B",
  .methodLink ST 1 Lib.objectInit, .instanceMethod Lib.objectInit, .code Lib.objectInit ⟨#[0xb1]⟩ 1 none, .methodLink ST 177 Cmp3.yN, .static Cmp3.yN, .methodLink ST 47 CodL.yN, .static CodL.yN,
  .code Cmp3.yN Cmp3.yB 6 (some (.array .byte)), .initialized U16, .arrayClass .byte, .methodLink U16 115 Cmp5.yN, .static Cmp5.yN, .code Cmp5.yN Cmp5.yB 7 (some .int), .code CodL.yN CodL.yB 2 (some .byte)]
theorem tab_of {a : Array Value} {s : State} (h : ∀ w ∈ words, w.before a s = true) : New1.tab.before a s = true := by
  have h5 : Cmp5.tab.before a s = true := unparts (wk h (.code Cmp5.yN Cmp5.yB 7 (some .int))) (wks h (.initialized Cmp5.yN.cls :: Cmp5.site))
  have hc : CodL.tab.before a s = true := unparts (wk h (.code CodL.yN CodL.yB 2 (some .byte))) (wks h (.initialized CodL.yN.cls :: CodL.site))
  have q5 : ∀ w ∈ Cmp5.tab :: words, w.before a s = true := fun w hw => (List.mem_cons.mp hw).elim (fun e => e ▸ h5) (h w)
  have h3 : Cmp3.tab.before a s = true := unparts (wk q5 (.code Cmp3.yN Cmp3.yB 6 (some (.array .byte)))) (wks q5 (.initialized Cmp3.yN.cls :: Cmp3.site))
  have q3 : ∀ w ∈ Cmp3.tab :: CodL.tab :: words, w.before a s = true := fun w hw => (List.mem_cons.mp hw).elim (fun e => e ▸ h3) fun hw => (List.mem_cons.mp hw).elim (fun e => e ▸ hc) (h w)
  have h4 : New4.tab.before a s = true := unparts (wk q3 (.code New4.yN New4.yB 6 none)) (wks q3 (.initialized New4.yN.cls :: New4.site))
  have q4 : ∀ w ∈ New4.tab :: words, w.before a s = true := fun w hw => (List.mem_cons.mp hw).elim (fun e => e ▸ h4) (h w)
  exact unparts (wk q4 (.code New1.yN New1.yB 2 none)) (wks q4 (.initialized New1.yN.cls :: New1.site))
/-- the words ride from the start Z to the walk's own state -/
theorem moved {Z s : State} {a0 args : Array Value} (hZ : Z.Warmed39 s.vm) (hw : ∀ d ∈ words, d.before a0 Z = true) : ∀ d ∈ words, d.before args s = true := fun d hd => by
  have q := hw d hd
  have t : ∀ d ∈ words, d = .arrayClass .byte ∨ (d.onTables && d.keepsFace) = true := by decide +kernel
  rcases t d hd with rfl | t
  · exact RoadKit.mvA hZ q
  · exact RoadKit.mv hZ q t
/-- WHAT COMES BACK, over the tables of the start Z: h the heap at the call, h' behind it -/
def Q (Z : State) (x : Addr) (A : Cell) (h : Heap) (v : Option Value) (h' : Heap) (L : List Loc) : Prop := v = none ∧ (∀ y ∈ L, y.base = x) ∧ RoadKit.Keep h h' [x] ∧ h'.size = h.size + 1 ∧ RoadKit.Exa Z h' x ST ∧ RoadKit.Fld Z h' x ST "value" "[B" (.ref h.size) ∧ RoadKit.Fld Z h' x ST "coder" "B" (.int 0) ∧
  (∃ V : Cell, RoadKit.Arr Z h' h.size V .byte ∧ V.vm = .none ∧ Z.vm.findClass "[B" = some V.cls ∧ V.slots.size = A.slots.size ∧ ∀ j, j < A.slots.size → V.slots[j]? = some (.int (lo8 (cv A j)))) ∧
  ∀ (O n d : String) (w : Value), RoadKit.Fld Z h x O n d w → RoadKit.slotOf Z O n d ≠ RoadKit.slotOf Z ST "value" "[B" → RoadKit.slotOf Z O n d ≠ RoadKit.slotOf Z ST "coder" "B" → RoadKit.Fld Z h' x O n d w
/-- **new String(chars) AT A CALL, IN THE ROAD'S FORM**: for specialBack behind newO: x the fresh String, b the char[] with the cell A -/
theorem back {p : Program} {l : Launch} {e : Env} {R : Room} {s : State} {args : Array Value} {below : List Frame} {len W : Nat} {Z : State} {a0 : Array Value} {h : Heap} (hZ : Z.Warmed39 s.vm) (hw : ∀ d ∈ words, d.before a0 Z = true) {kI : Nat} (wi : (Jvm.Cond.instantiable ST kI).before a0 Z = true)
    {x b : Addr} {A : Cell} {z : Int32} {v0 c0 : Value} (E : RoadKit.Exa Z h x ST) (V : RoadKit.Fld Z h x ST "value" "[B" v0) (C : RoadKit.Fld Z h x ST "coder" "B" c0) (K : RoadKit.Arr Z h b A .char) (hty : Typed .char A) (S : RoadKit.Sta Z h ST "COMPACT_STRINGS" "Z" (.int z)) (hz : ¬ z = 0)
    (l0 : 0 < A.slots.size) (l2 : A.slots.size ≤ 536870912) (hp : ∀ i, i < A.slots.size → ¬ 255 < cv A i) (hfr : 4 ≤ R.frames) (hlo : W + 65 ≤ R.locals) :
    Back l R p e below s args New1.yN len W (fun P a => a = #[.ref x, .ref b] ∧ P.U.heap = h ∧ P.cells + 1 ≤ R.cells ∧ P.slots + A.slots.size ≤ R.slots)
      (fun P _ v B => ∃ L, Q Z x A h v B.U.heap L ∧ B.locs = P.locs ++ L ∧ B.cells = P.cells + 1 ∧ B.slots = P.slots + A.slots.size) := by
  intro m meth c P g ig mk a X hg hsize hdg hW hn hp'
  obtain ⟨rfl, rfl, r1, r2⟩ := hp'
  have al : Z.vm.Alike P.U.vm := hZ.alike.trans X.warmed.alike
  obtain ⟨D, cfV, kV, iV, fV, hD, gV, stV, knV, obV, asV, slV⟩ := id V
  obtain ⟨D', cfC, kC, iC, fC, hD', gC, stC, -, -, asC, slC⟩ := id C
  cases hD.symm.trans hD'
  obtain ⟨D2, kD, e1, e2, e3, e4, e5⟩ := id E
  cases hD.symm.trans e1
  obtain ⟨c2, k2, i1, i2, i3, -⟩ := Cond.instantiable_spec wi
  cases e2.symm.trans i1
  cases e3.symm.trans i2
  obtain ⟨kU, u1, u2⟩ := al.2.2 _ _ e3
  have hB : Blank ST x D P.U := ⟨hD, ⟨knV, fun q hq => by rw [hq] at obV; cases obV⟩, by rw [al.findClass]; exact e2, kU, u1, by rw [u2]; exact i3, by rw [u2]; exact e5 i3⟩
  have F1 : Found ST "value" "[B" fV P.U := ⟨SBG.found_only al ⟨cfV, kV, iV, gV⟩, stV⟩
  have F2 : Found ST "coder" "B" fC P.U := ⟨SBG.found_only al ⟨cfC, kC, iC, gC⟩, stC⟩
  have hA : Ch b A P.U := ⟨⟨K.1, State.isArrayOf_alike al K.2.1, K.2.2, by omega⟩, hty⟩
  have hS : StaticIs P.U ST "COMPACT_STRINGS" "Z" (.int z) := by
    obtain ⟨cfS, iS, kS, fS, st, cS, t1, t2, t3, t4, t5, t6, t7⟩ := S
    exact StaticIs.there (s := { Z with heap := P.U.heap }) ⟨cfS, iS, kS, fS, st, cS, t1, t2, t3, t4, t5, (fun q => by rw [q] at t6; cases t6), t7⟩ al rfl
  obtain ⟨v, B, X', ⟨⟨hv, E', V', q1, q2, q3, q4, q5, q6, q7, q8, q9, q10, q11⟩, hl, hc, hs⟩, st⟩ := New1.pays x D fV fC b A z (tab_of (moved hZ hw)) hfr hlo m meth c P g ig mk _ X hg hsize hdg hW hn ⟨r1, r2, rfl, hB, F1, F2, hA, hS, hz, l0, l2, hp⟩
  have al' : Z.vm.Alike B.U.vm := hZ.alike.trans X'.warmed.alike
  have hsz : E'.slots.size = D.slots.size := by
    obtain ⟨-, -, -, kB, w1, w2, w3⟩ := q1
    obtain ⟨kB', y1, y2⟩ := al'.2.2 _ _ e3
    rw [q2.2.1] at w1
    cases w1.symm.trans y1
    rw [w3, e5 i3, y2]
  refine ⟨v, B, X', ⟨_, ⟨hv, ?_, ⟨by omega, fun y cy hy hn' => q10 y cy (by simpa using hn') hy, fun y cy hy => ?_⟩, q11, ⟨E', _, q1.1, by rw [q2.2.1]; exact e2, by rw [q2.2.1]; exact e3, by rw [q2.1]; exact obV, fun _ => by rw [hsz]; exact e5 i3⟩,
    ⟨E', cfV, kV, iV, fV, q1.1, gV, stV, by rw [q2.1]; exact knV, by rw [q2.1]; exact obV, by rw [q2.2.1]; exact asV, q3⟩, ⟨E', cfC, kC, iC, fC, q1.1, gC, stC, by rw [q2.1]; exact knV, by rw [q2.1]; exact obV, by rw [q2.2.1]; exact asC, q4⟩,
    ⟨V', ⟨q5.1, State.isArrayOf_alike al'.symm q5.2.1, q5.2.2.1⟩, q6, by rw [← al'.findClass]; exact q7, q8, fun j hj => by have := q9 j hj; rwa [Nat.zero_add] at this⟩, fun O n d w F n1 n2 => ?_⟩, hl, hc, hs⟩, st⟩
  · intro y hy
    simp only [List.mem_cons, List.not_mem_nil, or_false] at hy
    rcases hy with rfl | rfl <;> rfl
  · by_cases q : y = x
    · subst q
      cases hD.symm.trans hy
      exact ⟨E', q1.1, q2.2.1, q2.1, hsz⟩
    · exact ⟨cy, q10 y cy q hy, rfl, rfl, rfl⟩
  · obtain ⟨D3, cf, k, i, f, g1, g2, g3, g4, g5, g6, g7⟩ := F
    cases hD.symm.trans g1
    simp only [RoadKit.slotOf, g2, gV, gC, Option.map_some, Option.getD_some] at n1 n2
    exact ⟨E', cf, k, i, f, q1.1, g2, g3, by rw [q2.1]; exact g4, by rw [q2.1]; exact g5, by rw [q2.2.1]; exact g6, by rw [q2.2.2 f.slot (by simp [n1, n2])]; exact g7⟩
end StrChars.Road
namespace StrChars.Road
open Jvm Sem ClassFile Op Lib Jvm.Stand Jvm.Free Jvm.Free.XT
/-- WHAT COMES BACK, the byte[] as a list of values -/
def QA (Z : State) (x : Addr) (zn : Int32) (cs : List Int32) (h : Heap) (v : Option Value) (h' : Heap) (L : List Loc) : Prop := v = none ∧ (∀ y ∈ L, y.base = x) ∧ RoadKit.Keep h h' [x] ∧ h'.size = h.size + 1 ∧ RoadKit.Exa Z h' x ST ∧ RoadKit.Fld Z h' x ST "value" "[B" (.ref h.size) ∧ RoadKit.Fld Z h' x ST "coder" "B" (.int 0) ∧
  (∃ kb, Z.vm.findClass "[B" = some kb ∧ RoadKit.Arv Z h' h.size kb .byte zn (cs.map fun c => .int (lo8 c)) (.int 0)) ∧
  ∀ (O n d : String) (w : Value), RoadKit.Fld Z h x O n d w → RoadKit.slotOf Z O n d ≠ RoadKit.slotOf Z ST "value" "[B" → RoadKit.slotOf Z O n d ≠ RoadKit.slotOf Z ST "coder" "B" → RoadKit.Fld Z h' x O n d w
/-- **new String(chars) AT A CALL, THE ARRAYS AS LISTS**: the char[] at b holds cs, not empty, no char above 255 -/
theorem backArv {p : Program} {l : Launch} {e : Env} {R : Room} {s : State} {args : Array Value} {below : List Frame} {len W : Nat} {Z : State} {a0 : Array Value} {h : Heap} (hZ : Z.Warmed39 s.vm) (hw : ∀ d ∈ words, d.before a0 Z = true) {kI : Nat} (wi : (Jvm.Cond.instantiable ST kI).before a0 Z = true)
    {x b : Addr} {k : ClassId} {zn z : Int32} {cs : List Int32} {dv v0 c0 : Value} (E : RoadKit.Exa Z h x ST) (V : RoadKit.Fld Z h x ST "value" "[B" v0) (C : RoadKit.Fld Z h x ST "coder" "B" c0) (K : RoadKit.Arv Z h b k .char zn (cs.map Value.int) dv) (S : RoadKit.Sta Z h ST "COMPACT_STRINGS" "Z" (.int z)) (hz : ¬ z = 0)
    (hlen : zn.toNatClampNeg = cs.length) (h0 : 0 < cs.length) (hbig : cs.length ≤ 536870912) (hall : ∀ c ∈ cs, ¬ 255 < c) (hfr : 4 ≤ R.frames) (hlo : W + 65 ≤ R.locals) :
    Back l R p e below s args New1.yN len W (fun P a => a = #[.ref x, .ref b] ∧ P.U.heap = h ∧ P.cells + 1 ≤ R.cells ∧ P.slots + cs.length ≤ R.slots)
      (fun P _ v B => ∃ L, QA Z x zn cs h v B.U.heap L ∧ B.locs = P.locs ++ L ∧ B.cells = P.cells + 1 ∧ B.slots = P.slots + cs.length) := by
  obtain ⟨A, K1, K2, K3, K4, K5, K6⟩ := K
  have e : A.slots.size = cs.length := K3.trans hlen
  have hat : ∀ (i : Nat) (hi : i < cs.length), A.slots[i]? = some (.int cs[i]) := fun i hi => by rw [K5 i (by omega)]; simp [List.getD_eq_getElem?_getD, hi]
  have hcv : ∀ (i : Nat) (hi : i < cs.length), cv A i = cs[i] := fun i hi => by unfold cv; rw [hat i hi]
  have hty : Typed .char A := fun i v hv => by
    have hi : i < A.slots.size := (Array.getElem?_eq_some_iff.mp hv).1
    have q := K5 i hi
    rw [hv] at q
    rw [Option.some.inj q]
    exact K6 i hi
  refine Back.mono (back hZ hw wi E V C K1 hty S hz (by omega) (by omega) (fun i hi => by rw [hcv i (by omega)]; exact hall _ (List.getElem_mem _)) hfr hlo) (fun P a hp => ⟨hp.1, hp.2.1, hp.2.2.1, by rw [e]; exact hp.2.2.2⟩) (fun P a v B hp hq => ?_)
  obtain ⟨L, ⟨q1, q2, q3, q4, q5, q6, q7, ⟨V', v1, v2, v3, v4, v5⟩, q9⟩, hl, hc, hs⟩ := hq
  refine ⟨L, ⟨q1, q2, q3, q4, q5, q6, q7, ⟨V'.cls, v3, V', v1, rfl, by rw [v4, e, hlen], K4, fun i hi => ?_, fun i hi => ?_⟩, q9⟩, hl, hc, by rw [hs, e]⟩
  · have hi' : i < cs.length := by omega
    rw [v5 i (by omega), hcv i hi']; simp [List.getD_eq_getElem?_getD, hi']
  · have hi' : i < cs.length := by omega
    simp only [List.getD_eq_getElem?_getD, List.getElem?_map, List.getElem?_eq_getElem hi', Option.map_some, Option.getD_some]
    exact fits_lo8 _
end StrChars.Road
namespace StrChars.Road
open Jvm Sem ClassFile Op Lib Jvm.Stand Jvm.Free Jvm.Free.XT
/-- WHAT COMES BACK, in the writer's own shape -/
def QV (Z : State) (x : Addr) (N : Int32) (bs : List Int32) (h : Heap) (n0 : Nat) (v : Option Value) (h' : Heap) (L : List Loc) : Prop := v = none ∧ RoadKit.Fr n0 L ∧ RoadKit.Keep h h' [x] ∧ RoadKit.Exa Z h' x ST ∧ RoadKit.Fld Z h' x ST "coder" "B" (.int 0) ∧
  ∃ (t : Addr) (kb : ClassId), n0 ≤ t ∧ h.size ≤ t ∧ ¬ t = x ∧ RoadKit.Fld Z h' x ST "value" "[B" (.ref t) ∧ RoadKit.Arv Z h' t kb .byte N (bs.map Value.int) (.int 0)
/-- **new String(chars) AT A CALL, FOR THE WRITER**: a char[] of n known ints, each 0 to 255 -/
theorem backV {p : Program} {l : Launch} {e : Env} {R : Room} {s : State} {args : Array Value} {below : List Frame} {len W : Nat} {Z : State} {a0 : Array Value} {h : Heap} (hZ : Z.Warmed39 s.vm) (hw : ∀ d ∈ words, d.before a0 Z = true) {kI : Nat} (wi : (Jvm.Cond.instantiable ST kI).before a0 Z = true)
    {x b : Addr} {kC : ClassId} {cs bs : List Int32} {d v0 c0 : Value} {z N : Int32} {n n0 : Nat} (hx0 : n0 ≤ x) (hh0 : n0 ≤ h.size) (E : RoadKit.Exa Z h x ST) (V : RoadKit.Fld Z h x ST "value" "[B" v0) (C : RoadKit.Fld Z h x ST "coder" "B" c0) (K : RoadKit.Arv Z h b kC .char N (cs.map Value.int) d) (S : RoadKit.Sta Z h ST "COMPACT_STRINGS" "Z" (.int z)) (hz : ¬ z = 0)
    (hn : cs.length = n) (hN : N = Int32.ofNat n) (l0 : 0 < n) (l2 : n ≤ 4000) (hp : ∀ c ∈ cs, ¬ c < 0 ∧ ¬ (255 : Int32) < c) (hb : bs = cs.map (fun c => c.toInt8.toInt32)) (hfr : 4 ≤ R.frames) (hlo : W + 65 ≤ R.locals) :
    Back l R p e below s args (⟨"java/lang/String", "<init>", "([C)V"⟩ : MethodName) len W (fun P a => a = #[.ref x, .ref b] ∧ P.U.heap = h ∧ P.cells + 1 ≤ R.cells ∧ P.slots + n ≤ R.slots)
      (fun P _ v B => ∃ L, QV Z x N bs h n0 v B.U.heap L ∧ B.locs = P.locs ++ L ∧ B.cells = P.cells + 1 ∧ B.slots = P.slots + n) := by
  subst hn hN hb
  refine Back.mono (backArv hZ hw wi E V C K S hz (n32 (by omega)) l0 (by omega) (fun c hc => (hp c hc).2) hfr hlo) (fun P a hp => hp) (fun P a v B hp hq => ?_)
  obtain ⟨L, ⟨q1, q2, q3, q4, q5, q6, q7, ⟨kb, v1, v2⟩, q9⟩, hl, hc, hs⟩ := hq
  exact ⟨L, ⟨q1, fun y hy => by rw [q2 y hy]; exact hx0, q3, q5, q7, h.size, kb, hh0, Nat.le_refl _, Nat.ne_of_gt E.lt, q6, by rw [List.map_map]; exact v2⟩, hl, hc, hs⟩
end StrChars.Road
namespace StrChars
open Jvm Sem ClassFile Op Lib Jvm.Stand Jvm.Free.XT Jvm.Free.ALB Jvm.Free.JM Jvm.Free
open Jvm.Lib.Cold (StaticIs)
def hi8 (x : Int32) : Int32 := lo8 (x >>> ((8 : Int32) &&& 31))
/-- what StringUTF16.getChar makes of two bytes -/
def pairCh (u v : Int32) : Int32 := (((u &&& 255) <<< ((0 : Int32) &&& 31)) ||| ((v &&& 255) <<< ((8 : Int32) &&& 31))).toUInt32.toUInt16.toUInt32.toInt32
theorem lo8_and (x : Int32) : (lo8 x &&& 255).toBitVec.toNat = x.toBitVec.toNat % 256 := by
  have h : (lo8 x).toBitVec = (x.toBitVec.signExtend 8).signExtend 32 := by rw [lo8, Int8.toBitVec_toInt32, Int32.toBitVec_toInt8]
  rw [Int32.toBitVec_and, BitVec.toNat_and, h]
  have e : ((x.toBitVec.signExtend 8).signExtend 32).toNat % 256 = x.toBitVec.toNat % 256 := by
    rw [BitVec.toNat_signExtend]
    have hlt := x.toBitVec.isLt
    simp only [BitVec.toNat_setWidth, BitVec.toNat_signExtend]
    split <;> split <;> omega
  rw [← e]
  exact Nat.and_two_pow_sub_one_eq_mod _ 8
theorem pair_says {c : Int32} (h0 : ¬ c < 0) (h1 : ¬ 65535 < c) : pairCh (lo8 c) (hi8 c) = c := by
  rw [Int32.lt_iff_toInt_lt] at h0 h1
  have e0 : (0 : Int32).toInt = 0 := rfl
  have e1 : (65535 : Int32).toInt = 65535 := rfl
  have hc : c.toInt = c.toBitVec.toNat := by
    have := c.toBitVec.isLt
    have e : c.toInt = c.toBitVec.toInt := rfl
    rw [e] at h0 h1
    rw [e]
    rw [BitVec.toInt_eq_toNat_cond] at h0 h1 ⊢
    split at h0 <;> split <;> omega
  have hn : c.toBitVec.toNat < 65536 := by omega
  have a1 := lo8_and c
  have a2 : (hi8 c &&& 255).toBitVec.toNat = c.toBitVec.toNat / 256 := by
    rw [hi8, lo8_and]
    have e : ((8 : Int32) &&& 31) = 8 := by decide
    rw [e, Int32.toBitVec_shiftRight]
    have e2 : ((8 : Int32).toBitVec.smod 32) = 8#32 := by decide
    rw [e2, BitVec.sshiftRight_eq', BitVec.toNat_sshiftRight_of_msb_false (by rw [BitVec.msb_eq_false_iff_two_mul_lt]; omega)]
    show c.toBitVec.toNat >>> 8 % 256 = _
    rw [Nat.shiftRight_eq_div_pow]
    omega
  unfold pairCh
  apply Int32.toBitVec_inj.mp
  apply BitVec.eq_of_toNat_eq
  have f0 : ((0 : Int32) &&& 31) = 0 := by decide
  have f8 : ((8 : Int32) &&& 31) = 8 := by decide
  rw [f0, f8]
  have g : (((lo8 c &&& 255) <<< (0 : Int32)) ||| ((hi8 c &&& 255) <<< (8 : Int32))).toBitVec.toNat = c.toBitVec.toNat := by
    rw [Int32.toBitVec_or, Int32.toBitVec_shiftLeft, Int32.toBitVec_shiftLeft]
    have s0 : ((0 : Int32).toBitVec.smod 32) = 0#32 := by decide
    have s8 : ((8 : Int32).toBitVec.smod 32) = 8#32 := by decide
    rw [s0, s8, BitVec.toNat_or]
    simp only [BitVec.shiftLeft_eq', BitVec.toNat_shiftLeft, a1, a2]
    show (c.toBitVec.toNat % 256) <<< 0 % 2 ^ 32 ||| (c.toBitVec.toNat / 256) <<< 8 % 2 ^ 32 = _
    rw [Nat.shiftLeft_zero, Nat.mod_eq_of_lt (show c.toBitVec.toNat % 256 < 2 ^ 32 by omega), Nat.mod_eq_of_lt (show (c.toBitVec.toNat / 256) <<< 8 < 2 ^ 32 by rw [Nat.shiftLeft_eq]; omega), Nat.or_comm, ← Nat.shiftLeft_add_eq_or_of_lt (by omega), Nat.shiftLeft_eq]
    omega
  show BitVec.toNat (((((lo8 c &&& 255) <<< (0 : Int32)) ||| ((hi8 c &&& 255) <<< (8 : Int32))).toBitVec.setWidth 16).setWidth 32) = _
  rw [BitVec.toNat_setWidth, BitVec.toNat_setWidth, g]
  omega
end StrChars
namespace StrChars
open Jvm Sem ClassFile Op Lib Jvm.Stand Jvm.Free.XT Jvm.Free.ALB Jvm.Free.JM Jvm.Free
open Jvm.Lib.Cold (StaticIs)
/-- charAt's cast of a byte read back -/
def chr8 (u : Int32) : Int32 := (u &&& 255).toUInt32.toUInt16.toUInt32.toInt32
theorem chr8_lo8 {c : Int32} (h0 : ¬ c < 0) (h1 : ¬ 255 < c) : chr8 (lo8 c) = c := by
  have t : ∀ k : Fin 256, (Int32.ofNat k.val).toUInt32.toUInt16.toUInt32.toInt32 = Int32.ofNat k.val := by decide +kernel
  unfold chr8
  rw [lo8_mask h0 h1]
  rw [Int32.lt_iff_toInt_lt] at h0 h1
  have e0 : (0 : Int32).toInt = 0 := rfl
  have e1 : (255 : Int32).toInt = 255 := rfl
  obtain ⟨k, hk⟩ : ∃ k : Nat, c.toInt = k := ⟨c.toInt.toNat, by omega⟩
  have hx : c = Int32.ofNat k := Int32.toInt_inj.mp (by rw [hk, Int32.toInt_ofNat_small (by omega)])
  rw [hx]
  exact t ⟨k, by omega⟩
theorem narrow_ch {c : Int32} (h0 : ¬ c < 0) (h1 : ¬ 65535 < c) : narrow .char (.int c) = .int c := by
  have q : narrow .char (.int (pairCh (lo8 c) (hi8 c))) = .int (pairCh (lo8 c) (hi8 c)) := narrow_c _
  rwa [pair_says h0 h1] at q
/-- the array's cell V codes the n chars f 0 .. f (n - 1) by the coder cd, as the JDK does: coder 1 just where some char is above 255 -/
def Cod (cd : Int32) (n : Nat) (f : Nat → Int32) (V : Cell) : Prop := (cd = 0 ∧ V.slots.size = n ∧ ∀ j, j < n → V.slots[j]? = some (.int (lo8 (f j))) ∧ ¬ 255 < f j) ∨ (cd = 1 ∧ V.slots.size = 2 * n ∧ (∀ j, j < n → V.slots[2 * j]? = some (.int (lo8 (f j))) ∧ V.slots[2 * j + 1]? = some (.int (hi8 (f j)))) ∧ ∃ j, j < n ∧ 255 < f j)
theorem Cod.cd {cd : Int32} {n : Nat} {f : Nat → Int32} {V : Cell} (h : Cod cd n f V) : cd = 0 ∨ cd = 1 := h.imp (fun q => q.1) fun q => q.1
/-- **x is a String of the n chars f 0 .. f (n - 1)**, Latin-1 or UTF-16; its array at t has the cell V -/
def Txt (x t : Addr) (V : Cell) (cd : Int32) (n : Nat) (f : Nat → Int32) (U : State) : Prop := Exact "java/lang/String" x U ∧ Has x "java/lang/String" "value" "[B" (.ref t) U ∧ Has x "java/lang/String" "coder" "B" (.int cd) U ∧ XT.Arr .byte t V U ∧ Cod cd n f V ∧ ∀ j, j < n → ¬ f j < 0 ∧ ¬ 65535 < f j
theorem Txt.mv {x t : Addr} {V : Cell} {cd : Int32} {n : Nat} {f : Nat → Int32} {U U' : State} (h : Txt x t V cd n f U) (hal : U.vm.Alike U'.vm) (hh : U'.heap = U.heap) : Txt x t V cd n f U' := ⟨h.1.mv hal hh, h.2.1.mv hal hh, h.2.2.1.mv hal hh, h.2.2.2.1.mv hal hh, h.2.2.2.2⟩
namespace IsL
def yN : MethodName := ⟨"java/lang/String", "isLatin1", "()Z"⟩
abbrev yB : ByteArray := jdk_42_method_154_code
theorem d0 : decode yB 0 = .ok (.getstatic 38, 3) := by decide +kernel
theorem d3 : decode yB 3 = .ok (.ifCond (.eq) 14, 3) := by decide +kernel
theorem d6 : decode yB 6 = .ok (.aload_n 0, 1) := by decide +kernel
theorem d7 : decode yB 7 = .ok (.getfield 15, 3) := by decide +kernel
theorem d10 : decode yB 10 = .ok (.ifCond (.ne) 7, 3) := by decide +kernel
theorem d13 : decode yB 13 = .ok (.iconst 1, 1) := by decide +kernel
theorem d14 : decode yB 14 = .ok (.goto 4, 3) := by decide +kernel
theorem d17 : decode yB 17 = .ok (.iconst 0, 1) := by decide +kernel
theorem d18 : decode yB 18 = .ok (.ireturn, 1) := by decide +kernel
def site : List Cond := [.fieldLink "java/lang/String" 38 "java/lang/String" "COMPACT_STRINGS" "Z", .fieldLink "java/lang/String" 15 "java/lang/String" "coder" "B"]
def tab : Cond := tabOf yN yB 1 (some .boolean) site
def P (x : Addr) (cd z : Int32) (args : Array Value) (s : State) : Prop := args = #[.ref x] ∧ Has x "java/lang/String" "coder" "B" (.int cd) s ∧ (cd = 0 ∨ cd = 1) ∧ StaticIs s "java/lang/String" "COMPACT_STRINGS" "Z" (.int z) ∧ ¬ z = 0
def E (cd : Int32) (r : Option Value) (s u : State) : Prop := XT.PureE (some (.int (1 - cd))) r s u
theorem law (l : Launch) (x : Addr) (cd z : Int32) : Law l yN 1 0 0 0 yB 1 (some .boolean) site (P x cd z) (E cd) [] 0 0 := by
  refine Law.of_walk (plainFor_of_name (by decide +kernel)) (by decide +kernel) (by decide +kernel) (by decide) (fun _ _ h => by rw [h.1]; rfl) (fun _ U U' hal hh h => ⟨h.1, h.2.1.mv hal hh, h.2.2.1, h.2.2.2.1.there hal hh, h.2.2.2.2⟩) (fun r U U' V V' h1 hal h2 h => XT.PureE.mv r U U' V V' h1 hal h2 h) ?_
  intro p e s m args below meth c s₁ X0 hexec hbytes hml hret hlk hnm hown hh0 W hP
  obtain ⟨rfl, hx, hc, s1, hz⟩ := hP
  have c1 : Steps p.tables e below (s₁.setTop (entryFrame m #[.ref x] 1)) (s₁.setTop (mkF m 0 #[.val (.ref x)] [])) := entry rfl
  obtain ⟨T2, X2, q2, st2⟩ := X0.sget hexec hown (wk W (.fieldLink "java/lang/String" 38 "java/lang/String" "COMPACT_STRINGS" "Z")) s1 (fun _ _ h => by rw [hh0]; exact h) (g := (mkF m 0 #[.val (.ref x)] [])) rfl (hb hbytes d0)
  have hh2 := q2.trans hh0
  have c3 : Steps p.tables e below (s₁.setTop (entryFrame m #[.ref x] 1)) (T2.setTop (mkF m 7 #[.val (.ref x)] [.ref x])) := (c1.trans (st2 _ (Steps.refl _))).trans (by
    refine XS.ifNo X2.here hexec rfl (hb hbytes d3) rfl (i0_eq_f hz) ?_
    refine XS.aloadN X2.here hexec rfl (hb hbytes d6) rfl rfl ?_
    exact Steps.refl _)
  obtain ⟨T4, X4, q4, st4⟩ := X2.hget hexec hown (wk W (.fieldLink "java/lang/String" 15 "java/lang/String" "coder" "B")) (hx.mv X2.warmed.alike hh2) (g := (mkF m 7 #[.val (.ref x)] [.ref x])) rfl (rest := []) rfl (hb hbytes d7)
  have c5 : Steps p.tables e below (s₁.setTop (entryFrame m #[.ref x] 1)) (T4.setTop (mkF m 10 #[.val (.ref x)] [.int cd])) := c3.trans (st4 _ (Steps.refl _))
  have c6 : Steps p.tables e below (s₁.setTop (entryFrame m #[.ref x] 1)) (T4.setTop (mkF m 18 #[.val (.ref x)] [.int (1 - cd)])) := by
    rcases hc with rfl | rfl
    · exact c5.trans (by
        refine XS.ifNo X4.here hexec rfl (hb hbytes d10) rfl (i0_ne_f rfl) ?_
        refine iconstV X4.here hexec rfl 1 (hb hbytes d13) (by decide) ?_
        refine XS.goto X4.here hexec rfl (pc0 := 14) rfl (hb hbytes d14) (by decide) rfl ?_
        exact Steps.refl _)
    · exact c5.trans (by
        refine XS.ifYes X4.here hexec rfl (pc0 := 10) rfl (hb hbytes d10) rfl (i0_ne_t (by decide)) (by decide) rfl ?_
        refine iconstV X4.here hexec rfl 0 (hb hbytes d17) (by decide) ?_
        exact Steps.refl _)
  exact ⟨T4, some (.int (1 - cd)), _, _, _, X4, rfl, rfl, rfl, (fun h => by cases h), ⟨rfl, q4.trans hh2⟩, fun fs hl => c6.trans (X4.ireturnOut hexec hret (by rcases hc with rfl | rfl <;> rfl) (Or.inr (Or.inl rfl)) (hb hbytes d18) hl)⟩
end IsL
namespace LChA
def yN : MethodName := ⟨"java/lang/StringLatin1", "charAt", "([BI)C"⟩
abbrev yB : ByteArray := jdk_43_method_2_code
theorem d0 : decode yB 0 = .ok (.iload_n 1, 1) := by decide +kernel
theorem d1 : decode yB 1 = .ok (.aload_n 0, 1) := by decide +kernel
theorem d2 : decode yB 2 = .ok (.arraylength, 1) := by decide +kernel
theorem d3 : decode yB 3 = .ok (.invokestatic 9, 3) := by decide +kernel
theorem d6 : decode yB 6 = .ok (.aload_n 0, 1) := by decide +kernel
theorem d7 : decode yB 7 = .ok (.iload_n 1, 1) := by decide +kernel
theorem d8 : decode yB 8 = .ok (.baload, 1) := by decide +kernel
theorem d9 : decode yB 9 = .ok (.sipush 255, 3) := by decide +kernel
theorem d12 : decode yB 12 = .ok (.iand, 1) := by decide +kernel
theorem d13 : decode yB 13 = .ok (.i2c, 1) := by decide +kernel
theorem d14 : decode yB 14 = .ok (.ireturn, 1) := by decide +kernel
def site : List Cond := [JO.Str_checkIndex.tab] ++ staticW "java/lang/StringLatin1" 9 JO.Str_checkIndex.yN
def tab : Cond := tabOf yN yB 2 (some .char) site
def P (t : Addr) (V : Cell) (i : Nat) (u : Int32) (fm : Value) (args : Array Value) (s : State) : Prop := args = #[.ref t, .int (Int32.ofNat i)] ∧ XT.Arr .byte t V s ∧ V.slots[i]? = some (.int u) ∧ (StaticIs s "jdk/internal/util/Preconditions" "SIOOBE_FORMATTER" "Ljava/util/function/BiFunction;" fm ∧ fm.isRef = true)
def E (u : Int32) (r : Option Value) (s w : State) : Prop := XT.PureE (some (.int (chr8 u))) r s w
theorem law (l : Launch) (t : Addr) (V : Cell) (i : Nat) (u : Int32) (fm : Value) : Law l yN 2 2 2 27 yB 2 (some .char) site (P t V i u fm) (E u) [] 0 0 := by
  refine Law.of_walk (plainFor_of_name (by decide +kernel)) (by decide +kernel) (by decide +kernel) (by decide) (fun _ _ h => by rw [h.1]; rfl) (fun _ U U' hal hh h => ⟨h.1, h.2.1.mv hal hh, h.2.2.1, h.2.2.2.1.there hal hh, h.2.2.2.2⟩) (fun r U U' V V' h1 hal h2 h => XT.PureE.mv r U U' V V' h1 hal h2 h) ?_
  intro p e s m args below meth c s₁ X0 hexec hbytes hml hret hlk hnm hown hh0 W hP
  obtain ⟨rfl, hV, hu, s1, rf⟩ := hP
  have v31 := hV.2.2.2
  have hi : i < V.slots.size := (Array.getElem?_eq_some_iff.mp hu).1
  have c1 : Steps p.tables e below (s₁.setTop (entryFrame m #[.ref t, .int (Int32.ofNat i)] 2)) (s₁.setTop (mkF m 0 #[.val (.ref t), .val (.int (Int32.ofNat i))] [])) := entry rfl
  have c2 : Steps p.tables e below (s₁.setTop (entryFrame m #[.ref t, .int (Int32.ofNat i)] 2)) (s₁.setTop (mkF m 3 #[.val (.ref t), .val (.int (Int32.ofNat i))] [.int (Int32.ofNat V.slots.size), .int (Int32.ofNat i)])) := c1.trans (by
    refine XS.iloadN X0.here hexec rfl (hb hbytes d0) rfl ?_
    refine XS.aloadN X0.here hexec rfl (hb hbytes d1) rfl rfl ?_
    refine X0.alen hexec (hV.mv X0.warmed.alike hh0) rfl rfl (hb hbytes d2) ?_
    exact Steps.refl _)
  obtain ⟨v3, T3, X3, E3, g3⟩ := X0.callS hexec (JO.Str_checkIndex.law l (Int32.ofNat i) (Int32.ofNat V.slots.size) fm) hown (wks W (staticW "java/lang/StringLatin1" 9 JO.Str_checkIndex.yN)) (wk W JO.Str_checkIndex.tab) (W := 0) (Nat.le_of_ble_eq_true rfl) (Nat.le_of_ble_eq_true rfl) (Nat.le_refl _) (Nat.le_refl _) (g := (mkF m 3 #[.val (.ref t), .val (.int (Int32.ofNat i))] [.int (Int32.ofNat V.slots.size), .int (Int32.ofNat i)])) rfl (by rw [hml]; rfl) c2 (argsL := [.int (Int32.ofNat i), .int (Int32.ofNat V.slots.size)]) (rest := []) rfl rfl (by show 2 * 0 + 0 ≤ _; decide) (hb hbytes d3) (⟨rfl, rf, s1.there X0.warmed.alike hh0, Int32.ofNat_not_neg (by omega), lt32 v31 hi⟩)
  obtain ⟨rfl, q3⟩ := E3
  have hh3 := q3.trans hh0
  have c4 : Steps p.tables e below (s₁.setTop (entryFrame m #[.ref t, .int (Int32.ofNat i)] 2)) (T3.setTop (mkF m 14 #[.val (.ref t), .val (.int (Int32.ofNat i))] [.int (chr8 u)])) := Steps.trans g3 (by
    refine XS.aloadN X3.here hexec rfl (hb hbytes d6) rfl rfl ?_
    refine XS.iloadN X3.here hexec rfl (hb hbytes d7) rfl ?_
    refine X3.aget hexec (hV.mv X3.warmed.alike hh3) rfl hu rfl rfl (hb hbytes d8) ?_
    refine sipushV X3.here hexec rfl 255 (hb hbytes d9) (by decide) ?_
    refine XS.iand X3.here hexec rfl (hb hbytes d12) rfl ?_
    refine i2c X3.here hexec rfl (hb hbytes d13) rfl ?_
    exact Steps.refl _)
  exact ⟨T3, some (.int (chr8 u)), _, _, _, X3, rfl, rfl, rfl, (fun h => by cases h), ⟨rfl, hh3⟩, fun fs hl => c4.trans (X3.ireturnOut hexec hret (narrow_c _) (Or.inr (Or.inr (Or.inr (Or.inl rfl)))) (hb hbytes d14) hl)⟩
end LChA
end StrChars
namespace StrChars.Road
open Jvm Sem ClassFile Op Lib Jvm.Stand Jvm.Free Jvm.Free.XT
open Jvm.Lib.Cold (StaticIs)
theorem consq {a : Array Value} {s : State} {c : Jvm.Cond} {L : List Jvm.Cond} (h0 : c.before a s = true) (h : ∀ w ∈ L, w.before a s = true) : ∀ w ∈ c :: L, w.before a s = true := fun w hw => (List.mem_cons.mp hw).elim (fun e => e ▸ h0) (h w)
/-- the bytes of the chars cs, low before high -/
def wideBytes : List Int32 → List Value
  | [] => []
  | c :: cs => .int (lo8 c) :: .int (hi8 c) :: wideBytes cs
theorem wide_lo (d : Value) : ∀ (cs : List Int32) (j : Nat), j < cs.length → (wideBytes cs).getD (2 * j) d = .int (lo8 (cs.getD j 0))
  | [], j, h => absurd h (Nat.not_lt_zero j)
  | c :: cs, 0, _ => rfl
  | c :: cs, j + 1, h => by
    have q := wide_lo d cs j (by simpa using h)
    rw [show 2 * (j + 1) = 2 * j + 1 + 1 from by omega]
    simpa [wideBytes] using q
theorem wide_hi (d : Value) : ∀ (cs : List Int32) (j : Nat), j < cs.length → (wideBytes cs).getD (2 * j + 1) d = .int (hi8 (cs.getD j 0))
  | [], j, h => absurd h (Nat.not_lt_zero j)
  | c :: cs, 0, _ => rfl
  | c :: cs, j + 1, h => by
    have q := wide_hi d cs j (by simpa using h)
    rw [show 2 * (j + 1) + 1 = 2 * j + 1 + 1 + 1 from by omega]
    simpa [wideBytes] using q
theorem low_at (d : Value) (cs : List Int32) (j : Nat) (h : j < cs.length) : (cs.map fun c => Value.int (lo8 c)).getD j d = .int (lo8 (cs.getD j 0)) := by
  simp [List.getD_eq_getElem?_getD, h]
/-- an array of N2 bytes vs codes the chars cs by the coder cd -/
def CodA (cs : List Int32) (cd N2 : Int32) (vs : List Value) : Prop := (cd = 0 ∧ N2 = Int32.ofNat cs.length ∧ vs = (cs.map fun c => Value.int (lo8 c)) ∧ ∀ c ∈ cs, ¬ 255 < c) ∨ (cd = 1 ∧ N2 = Int32.ofNat (2 * cs.length) ∧ vs = wideBytes cs ∧ ∃ c ∈ cs, 255 < c)
theorem CodA.cod {cs : List Int32} {cd N2 : Int32} {vs : List Value} {V : Cell} (h : CodA cs cd N2 vs) (hn : 2 * cs.length < 2 ^ 31) (hs : V.slots.size = N2.toNatClampNeg) (hv : RoadKit.Has V vs (.int 0)) : Cod cd cs.length (fun j => cs.getD j 0) V := by
  rcases h with ⟨rfl, rfl, rfl, h⟩ | ⟨rfl, rfl, rfl, c, hc, hw⟩
  · rw [n32 (by omega)] at hs
    exact Or.inl ⟨rfl, hs, fun j hj => ⟨by rw [hv j (by omega), low_at _ _ _ hj], by
      have e : cs.getD j 0 = cs[j] := by simp [List.getD_eq_getElem?_getD, hj]
      show ¬ 255 < cs.getD j 0
      rw [e]; exact h _ (List.getElem_mem _)⟩⟩
  · rw [n32 (by omega)] at hs
    obtain ⟨j, hj, rfl⟩ := List.getElem_of_mem hc
    exact Or.inr ⟨rfl, hs, fun j hj => ⟨by rw [hv _ (by omega), wide_lo _ _ _ hj], by rw [hv _ (by omega), wide_hi _ _ _ hj]⟩, j, hj, by
      have e : cs.getD j 0 = cs[j] := by simp [List.getD_eq_getElem?_getD, hj]
      show 255 < cs.getD j 0
      rw [e]; exact hw⟩
/-- an object of exactly java/lang/String, its two fields found: as the laws ask it -/
theorem strObj {Z U : State} {a0 : Array Value} {kI : Nat} (wi : (Jvm.Cond.instantiable ST kI).before a0 Z = true) (al : Z.vm.Alike U.vm) {x : Addr} {v0 c0 : Value} (E : RoadKit.Exa Z U.heap x ST) (V : RoadKit.Fld Z U.heap x ST "value" "[B" v0) (C : RoadKit.Fld Z U.heap x ST "coder" "B" c0) :
    ∃ (D : Cell) (fV fC : Field), Blank ST x D U ∧ Found ST "value" "[B" fV U ∧ Found ST "coder" "B" fC U ∧ D.slots[fV.slot]? = some v0 ∧ D.slots[fC.slot]? = some c0 ∧ RoadKit.slotOf Z ST "value" "[B" = fV.slot ∧ RoadKit.slotOf Z ST "coder" "B" = fC.slot := by
  obtain ⟨D, cfV, kV, iV, fV, hD, gV, stV, knV, obV, asV, slV⟩ := V
  obtain ⟨D', cfC, kC, iC, fC, hD', gC, stC, -, -, asC, slC⟩ := C
  cases hD.symm.trans hD'
  obtain ⟨D2, kD, e1, e2, e3, e4, e5⟩ := E
  cases hD.symm.trans e1
  obtain ⟨c2, k2, i1, i2, i3, -⟩ := Cond.instantiable_spec wi
  cases e2.symm.trans i1
  cases e3.symm.trans i2
  obtain ⟨kU, u1, u2⟩ := al.2.2 _ _ e3
  exact ⟨D, fV, fC, ⟨hD, ⟨knV, fun q hq => by rw [hq] at obV; cases obV⟩, by rw [al.findClass]; exact e2, kU, u1, by rw [u2]; exact i3, by rw [u2]; exact e5 i3⟩, ⟨SBG.found_only al ⟨cfV, kV, iV, gV⟩, stV⟩, ⟨SBG.found_only al ⟨cfC, kC, iC, gC⟩, stC⟩, slV, slC, by simp [RoadKit.slotOf, gV], by simp [RoadKit.slotOf, gC]⟩
theorem sta_is {Z U : State} (al : Z.vm.Alike U.vm) {C n d : String} {v : Value} (S : RoadKit.Sta Z U.heap C n d v) : StaticIs U C n d v := by
  obtain ⟨cfS, iS, kS, fS, st, cS, t1, t2, t3, t4, t5, t6, t7⟩ := S
  exact StaticIs.there (s := { Z with heap := U.heap }) ⟨cfS, iS, kS, fS, st, cS, t1, t2, t3, t4, t5, (fun q => by rw [q] at t6; cases t6), t7⟩ al rfl
end StrChars.Road
namespace StrChars.Road
open Jvm Sem ClassFile Op Lib Jvm.Stand Jvm.Free Jvm.Free.XT
open Jvm.Lib.Cold (StaticIs)
/-- the road's facts of a String, as the laws ask it -/
theorem txt_of {Z U : State} {a0 : Array Value} {kI : Nat} (wi : (Jvm.Cond.instantiable ST kI).before a0 Z = true) (al : Z.vm.Alike U.vm) {x t : Addr} {kb : ClassId} {cs : List Int32} {cd N2 : Int32} {vs : List Value} (E : RoadKit.Exa Z U.heap x ST) (V : RoadKit.Fld Z U.heap x ST "value" "[B" (.ref t)) (C : RoadKit.Fld Z U.heap x ST "coder" "B" (.int cd)) (K : RoadKit.Arv Z U.heap t kb .byte N2 vs (.int 0)) (hc : CodA cs cd N2 vs) (hb : ∀ c ∈ cs, ¬ c < 0 ∧ ¬ (65535 : Int32) < c) (l2 : cs.length ≤ 4000) :
    ∃ A, Txt x t A cd cs.length (fun j => cs.getD j 0) U := by
  obtain ⟨A, K1, K2, K3, K4, K5, K6⟩ := K
  have hcod := hc.cod (by omega) K3 K5
  obtain ⟨D, fV, fC, hB, F1, F2, g1, g2, -, -⟩ := strObj wi al E V C
  exact ⟨A, ⟨_, hB.2.2.1, D, hB.1, rfl, by cases q : D.vm <;> first | rfl | exact absurd q (hB.2.1.2 _)⟩, Has.of hB F1 g1, Has.of hB F2 g2, ⟨K1.1, State.isArrayOf_alike al K1.2.1, K1.2.2, by rcases hcod with ⟨-, q, -⟩ | ⟨-, q, -⟩ <;> omega⟩, hcod, fun j hj => by
    have e : cs.getD j 0 = cs[j] := by simp [List.getD_eq_getElem?_getD, hj]
    show ¬ cs.getD j 0 < 0 ∧ ¬ 65535 < cs.getD j 0
    rw [e]; exact hb _ (List.getElem_mem _)⟩
end StrChars.Road
namespace StrChars
open Jvm Sem ClassFile Op Lib Jvm.Stand Jvm.Free.XT Jvm.Free.ALB Jvm.Free.JM Jvm.Free
open Jvm.Lib.Cold (StaticIs)
namespace ChN
def yN : MethodName := ⟨"java/lang/String", "charAt", "(I)C"⟩
abbrev yB : ByteArray := jdk_42_method_56_code
theorem d0 : decode yB 0 = .ok (.aload_n 0, 1) := by decide +kernel
theorem d1 : decode yB 1 = .ok (.invokevirtual 492, 3) := by decide +kernel
theorem d4 : decode yB 4 = .ok (.ifCond (.eq) 12, 3) := by decide +kernel
theorem d7 : decode yB 7 = .ok (.aload_n 0, 1) := by decide +kernel
theorem d8 : decode yB 8 = .ok (.getfield 9, 3) := by decide +kernel
theorem d11 : decode yB 11 = .ok (.iload_n 1, 1) := by decide +kernel
theorem d12 : decode yB 12 = .ok (.invokestatic 495, 3) := by decide +kernel
theorem d15 : decode yB 15 = .ok (.ireturn, 1) := by decide +kernel
def site : List Cond := [.fieldLink "java/lang/String" 9 "java/lang/String" "value" "[B", IsL.tab, LChA.tab] ++ virtW "java/lang/String" 492 "java/lang/String" IsL.yN IsL.yN ++ staticW "java/lang/String" 495 LChA.yN
def tab : Cond := tabOf yN yB 2 (some .char) site
def P (x t : Addr) (V : Cell) (n : Nat) (f : Nat → Int32) (z : Int32) (fm : Value) (i : Nat) (args : Array Value) (s : State) : Prop := args = #[.ref x, .int (Int32.ofNat i)] ∧ Txt x t V 0 n f s ∧ i < n ∧ StaticIs s "java/lang/String" "COMPACT_STRINGS" "Z" (.int z) ∧ ¬ z = 0 ∧ StaticIs s "jdk/internal/util/Preconditions" "SIOOBE_FORMATTER" "Ljava/util/function/BiFunction;" fm ∧ fm.isRef = true
def E (f : Nat → Int32) (i : Nat) (r : Option Value) (s u : State) : Prop := XT.PureE (some (.int (f i))) r s u
/-- charAt(i) of a Latin-1 String of n chars, i < n: f i -/
theorem law (l : Launch) (x t : Addr) (V : Cell) (n : Nat) (f : Nat → Int32) (z : Int32) (fm : Value) (i : Nat) : Law l yN 2 1 3 40 yB 2 (some .char) site (P x t V n f z fm i) (E f i) [] 0 0 := by
  refine Law.of_walk (plainFor_of_name (by decide +kernel)) (by decide +kernel) (by decide +kernel) (by decide) (fun _ _ h => by rw [h.1]; rfl) (fun _ U U' hal hh h => ⟨h.1, h.2.1.mv hal hh, h.2.2.1, h.2.2.2.1.there hal hh, h.2.2.2.2.1, h.2.2.2.2.2.1.there hal hh, h.2.2.2.2.2.2⟩) (fun r U U' V V' h1 hal h2 h => XT.PureE.mv r U U' V V' h1 hal h2 h) ?_
  intro p e s m args below meth c s₁ X0 hexec hbytes hml hret hlk hnm hown hh0 W hP
  obtain ⟨rfl, hx, hi, s1, hz, s3, rf⟩ := hP
  have v31 := hx.2.2.2.1.2.2.2
  have hr := hx.2.2.2.2.2 i hi
  have hx0 := hx.mv X0.warmed.alike hh0
  have c1 : Steps p.tables e below (s₁.setTop (entryFrame m #[.ref x, .int (Int32.ofNat i)] 2)) (s₁.setTop (mkF m 1 #[.val (.ref x), .val (.int (Int32.ofNat i))] [.ref x])) := Steps.trans (entry rfl) (by
    show Steps p.tables e below (s₁.setTop (mkF m 0 #[.val (.ref x), .val (.int (Int32.ofNat i))] [])) _
    refine XS.aloadN X0.here hexec rfl (hb hbytes d0) rfl rfl ?_
    exact Steps.refl _)
  obtain ⟨v2, T2, X2, E2, g2⟩ := X0.callV hexec (IsL.law l x 0 z) hown (wks W (virtW "java/lang/String" 492 "java/lang/String" IsL.yN IsL.yN)) rfl (by decide) (wk W IsL.tab) (W := 0) (Nat.le_of_ble_eq_true rfl) (Nat.le_of_ble_eq_true rfl) (Nat.le_refl _) (Nat.le_refl _) (hx0.1.fc X0.warmed.alike) hx0.1.is (g := (mkF m 1 #[.val (.ref x), .val (.int (Int32.ofNat i))] [.ref x])) rfl (by rw [hml]; rfl) c1 (argsL := []) (rest := []) rfl rfl (by show 2 * 0 + 0 ≤ _; decide) (hb hbytes d1) (⟨rfl, hx0.2.2.1, hx.2.2.2.2.1.cd, s1.there X0.warmed.alike hh0, hz⟩)
  obtain ⟨rfl, q2⟩ := E2
  have hh2 := q2.trans hh0
  have hx2 := hx.mv X2.warmed.alike hh2
  obtain ⟨-, k1, k2⟩ | ⟨k0, -⟩ := hx.2.2.2.2.1
  · have c3 : Steps p.tables e below (s₁.setTop (entryFrame m #[.ref x, .int (Int32.ofNat i)] 2)) (T2.setTop (mkF m 8 #[.val (.ref x), .val (.int (Int32.ofNat i))] [.ref x])) := Steps.trans g2 (by
      refine XS.ifNo X2.here hexec rfl (hb hbytes d4) rfl (i0_eq_f (by decide)) ?_
      refine XS.aloadN X2.here hexec rfl (hb hbytes d7) rfl rfl ?_
      exact Steps.refl _)
    obtain ⟨T4, X4, q4, st4⟩ := X2.hget hexec hown (wk W (.fieldLink "java/lang/String" 9 "java/lang/String" "value" "[B")) hx2.2.1 (g := (mkF m 8 #[.val (.ref x), .val (.int (Int32.ofNat i))] [.ref x])) rfl (rest := []) rfl (hb hbytes d8)
    have hh4 := q4.trans hh2
    have c5 : Steps p.tables e below (s₁.setTop (entryFrame m #[.ref x, .int (Int32.ofNat i)] 2)) (T4.setTop (mkF m 12 #[.val (.ref x), .val (.int (Int32.ofNat i))] [.int (Int32.ofNat i), .ref t])) := (c3.trans (st4 _ (Steps.refl _))).trans (by
      refine XS.iloadN X4.here hexec rfl (hb hbytes d11) rfl ?_
      exact Steps.refl _)
    obtain ⟨v6, T6, X6, E6, g6⟩ := X4.callS hexec (LChA.law l t V i (lo8 (f i)) fm) hown (wks W (staticW "java/lang/String" 495 LChA.yN)) (wk W LChA.tab) (W := 0) (Nat.le_of_ble_eq_true rfl) (Nat.le_of_ble_eq_true rfl) (Nat.le_refl _) (Nat.le_refl _) (g := (mkF m 12 #[.val (.ref x), .val (.int (Int32.ofNat i))] [.int (Int32.ofNat i), .ref t])) rfl (by rw [hml]; rfl) c5 (argsL := [.ref t, .int (Int32.ofNat i)]) (rest := []) rfl rfl (by show 2 * 0 + 0 ≤ _; decide) (hb hbytes d12) (⟨rfl, hx.2.2.2.1.mv X4.warmed.alike hh4, (k2 i hi).1, s3.there X4.warmed.alike hh4, rf⟩)
    obtain ⟨rfl, q6⟩ := E6
    rw [chr8_lo8 hr.1 (k2 i hi).2] at g6
    exact ⟨T6, some (.int (f i)), _, _, _, X6, rfl, rfl, rfl, (fun h => by cases h), ⟨rfl, q6.trans hh4⟩, fun fs hl => Steps.trans g6 (X6.ireturnOut hexec hret (narrow_ch hr.1 hr.2) (Or.inr (Or.inr (Or.inr (Or.inl rfl)))) (hb hbytes d15) hl)⟩
  · exact absurd k0 (by decide)
theorem pays {l : Launch} {R : Room} {p : Program} {e : Env} {below : List Frame} {s : State} {sargs : Array Value} {len W : Nat} (x t : Addr) (V : Cell) (n : Nat) (f : Nat → Int32) (z : Int32) (fm : Value) (i : Nat) (htab : tab.before sargs s = true) (hfr : 4 ≤ R.frames) (hlo : W + 53 ≤ R.locals) :
    Back l R p e below s sargs yN len W (fun A₁ a₁ => A₁.cells + 0 ≤ R.cells ∧ A₁.slots + 0 ≤ R.slots ∧ P x t V n f z fm i a₁ A₁.U) (fun A₁ _ v₁ B₁ => E f i v₁ A₁.U B₁.U ∧ B₁.locs = A₁.locs ++ [] ∧ B₁.cells = A₁.cells + 0 ∧ B₁.slots = A₁.slots + 0) :=
  (law l x t V n f z fm i).pays htab hfr (by omega)
end ChN
end StrChars
namespace StrChars.Road
open Jvm Sem ClassFile Op Lib Jvm.Stand Jvm.Free Jvm.Free.XT
open Jvm.Lib.Cold (StaticIs)
/-- the words of String.charAt(int), the Latin-1 road alone -/
abbrev wordsChN : List Jvm.Cond := [.code ChN.yN ChN.yB 2 (some .char), .initialized ST, .fieldLink ST 9 ST "value" "[B", .fieldLink ST 38 ST "COMPACT_STRINGS" "Z", .fieldLink ST 15 ST "coder" "B", .code IsL.yN IsL.yB 1 (some .boolean), .methodLink ST 492 IsL.yN, .declares IsL.yN, .selects ST IsL.yN IsL.yN, .instanceMethod IsL.yN,
  .methodLink ST 495 LChA.yN, .static LChA.yN, .code LChA.yN LChA.yB 2 (some .char), .initialized "java/lang/StringLatin1", .methodLink "java/lang/StringLatin1" 9 JO.Str_checkIndex.yN, .static JO.Str_checkIndex.yN, .code JO.Str_checkIndex.yN JO.Str_checkIndex.yB 2 none,
  .fieldLink ST 1053 "jdk/internal/util/Preconditions" "SIOOBE_FORMATTER" "Ljava/util/function/BiFunction;", .methodLink ST 1059 JC.PreCheck.yN, .static JC.PreCheck.yN, .code JC.PreCheck.yN JC.PreCheck.yB 3 (some .int), .initialized "jdk/internal/util/Preconditions"]
theorem tabChN_of {a : Array Value} {s : State} (h : ∀ w ∈ wordsChN, w.before a s = true) : ChN.tab.before a s = true := by
  have hp : JC.PreCheck.tab.before a s = true := unparts (wk h (.code JC.PreCheck.yN JC.PreCheck.yB 3 (some .int))) (wks h (.initialized JC.PreCheck.yN.cls :: JC.PreCheck.site))
  have qk := consq hp h
  have hk : JO.Str_checkIndex.tab.before a s = true := unparts (wk qk (.code JO.Str_checkIndex.yN JO.Str_checkIndex.yB 2 none)) (wks qk (.initialized JO.Str_checkIndex.yN.cls :: JO.Str_checkIndex.site))
  have ql := consq hk h
  have hl : LChA.tab.before a s = true := unparts (wk ql (.code LChA.yN LChA.yB 2 (some .char))) (wks ql (.initialized LChA.yN.cls :: LChA.site))
  have hi : IsL.tab.before a s = true := unparts (wk h (.code IsL.yN IsL.yB 1 (some .boolean))) (wks h (.initialized IsL.yN.cls :: IsL.site))
  have q := consq hi (consq hl h)
  exact unparts (wk q (.code ChN.yN ChN.yB 2 (some .char))) (wks q (.initialized ChN.yN.cls :: ChN.site))
theorem movedChN {Z s : State} {a0 args : Array Value} (hZ : Z.Warmed39 s.vm) (hw : ∀ d ∈ wordsChN, d.before a0 Z = true) : ∀ d ∈ wordsChN, d.before args s = true := fun d hd => by
  have t : ∀ d ∈ wordsChN, (d.onTables && d.keepsFace) = true := by decide +kernel
  exact RoadKit.mv hZ (hw d hd) (t d hd)
/-- **charAt(i) OF A LATIN-1 STRING**, i < n: the char -/
theorem chN {p : Program} {l : Launch} {e : Env} {R : Room} {s : State} {args : Array Value} {below : List Frame} {len W : Nat} {Z : State} {a0 : Array Value} {h : Heap} (hZ : Z.Warmed39 s.vm) (hw : ∀ d ∈ wordsChN, d.before a0 Z = true) {kI : Nat} (wi : (Jvm.Cond.instantiable ST kI).before a0 Z = true)
    {x t : Addr} {kb : ClassId} {cs : List Int32} {N2 z : Int32} {vs : List Value} {fm : Value} {i : Nat} {j : Int32} (E : RoadKit.Exa Z h x ST) (V : RoadKit.Fld Z h x ST "value" "[B" (.ref t)) (C : RoadKit.Fld Z h x ST "coder" "B" (.int 0)) (K : RoadKit.Arv Z h t kb .byte N2 vs (.int 0)) (hc : CodA cs 0 N2 vs) (hb : ∀ c ∈ cs, ¬ c < 0 ∧ ¬ (65535 : Int32) < c)
    (S : RoadKit.Sta Z h ST "COMPACT_STRINGS" "Z" (.int z)) (hz : ¬ z = 0) (F : RoadKit.Sta Z h "jdk/internal/util/Preconditions" "SIOOBE_FORMATTER" "Ljava/util/function/BiFunction;" fm) (rf : fm.isRef = true) (l2 : cs.length ≤ 4000) (hi : i < cs.length) (hj : j = Int32.ofNat i) (hfr : 4 ≤ R.frames) (hlo : W + 53 ≤ R.locals) :
    Back l R p e below s args (⟨"java/lang/String", "charAt", "(I)C"⟩ : MethodName) len W (fun P a => a = #[.ref x, .int j] ∧ P.U.heap = h ∧ P.cells + 0 ≤ R.cells ∧ P.slots + 0 ≤ R.slots)
      (fun P _ v B => ∃ L, (v = some (.int (cs.getD i 0)) ∧ L = [] ∧ B.U.heap = h) ∧ B.locs = P.locs ++ L ∧ B.cells = P.cells + 0 ∧ B.slots = P.slots + 0) := by
  subst hj
  intro m meth c P g ig mk a X hg hsize hdg hW hn hp'
  obtain ⟨rfl, rfl, r1, r2⟩ := hp'
  have al : Z.vm.Alike P.U.vm := hZ.alike.trans X.warmed.alike
  obtain ⟨A, hx⟩ := txt_of wi al E V C K hc hb l2
  obtain ⟨v, B, X', ⟨⟨hv, hh⟩, hl, hk, hs⟩, st⟩ := ChN.pays x t A cs.length (fun j => cs.getD j 0) z fm i (tabChN_of (movedChN hZ hw)) hfr hlo m meth c P g ig mk _ X hg hsize hdg hW hn ⟨r1, r2, rfl, hx, hi, sta_is al S, hz, sta_is al F, rf⟩
  exact ⟨v, B, X', ⟨[], ⟨hv, rfl, hh⟩, hl, hk, hs⟩, st⟩
/-- what backV says of its String, as the contracts of this text ask it: cs's low bytes, coder 0 -/
theorem codOf {cs : List Int32} {n : Nat} (hn : cs.length = n) (hb : ∀ c ∈ cs, ¬ 255 < c) : CodA cs 0 (Int32.ofNat n) ((cs.map lo8).map Value.int) := Or.inl ⟨rfl, by rw [hn], by simp [List.map_map, Function.comp_def], hb⟩
end StrChars.Road
end Jvm.Pilot.@@N@@
namespace Jvm.Pilot.@@N@@
open Jvm Jvm.ClassFile Sem Op Lib Jvm.Free Jvm.Stand Jvm.LawKit Jvm.RoadKit Jvm.OwnKit Bundle Jvm.Pilot.@@N@@.Jvm.D
def EL1 : List (String × Nat) := [("java/lang/String", 7)]
abbrev HW (a0 : Array Value) (Z : State) : Prop := ∀ d ∈ tables_1, d.before a0 Z = true
theorem w0 {a0 : Array Value} {Z : State} (hw : HW a0 Z) : (Jvm.Cond.constant "com/example/converge_to_schema/convergetoschema/schema/TokenIsSymbolPinLaw" (28 : Nat) (2147483647 : Int32) : Jvm.Cond).before a0 Z = true := hw _ (List.mem_of_getElem? (i := 0) rfl)
theorem w1 {a0 : Array Value} {Z : State} (hw : HW a0 Z) : (Jvm.Cond.methodLink "com/example/converge_to_schema/convergetoschema/schema/TokenIsSymbolPinLaw" (29 : Nat) ({ cls := "com/example/converge_to_schema/convergetoschema/schema/TokenIsSymbolPinLaw", name := "kindOf", desc := "(I)Lcom/example/converge_to_schema/convergetoschema/schema/Token$Kind;" } : Jvm.MethodName) : Jvm.Cond).before a0 Z = true := hw _ (List.mem_of_getElem? (i := 1) rfl)
theorem w2 {a0 : Array Value} {Z : State} (hw : HW a0 Z) : (Jvm.Cond.static ({ cls := "com/example/converge_to_schema/convergetoschema/schema/TokenIsSymbolPinLaw", name := "kindOf", desc := "(I)Lcom/example/converge_to_schema/convergetoschema/schema/Token$Kind;" } : Jvm.MethodName) : Jvm.Cond).before a0 Z = true := hw _ (List.mem_of_getElem? (i := 2) rfl)
theorem w3 {a0 : Array Value} {Z : State} (hw : HW a0 Z) : (Jvm.Cond.initialized "com/example/converge_to_schema/convergetoschema/schema/TokenIsSymbolPinLaw" : Jvm.Cond).before a0 Z = true := hw _ (List.mem_of_getElem? (i := 3) rfl)
theorem w4 {a0 : Array Value} {Z : State} (hw : HW a0 Z) : (Jvm.Cond.code ({ cls := "com/example/converge_to_schema/convergetoschema/schema/TokenIsSymbolPinLaw", name := "kindOf", desc := "(I)Lcom/example/converge_to_schema/convergetoschema/schema/Token$Kind;" } : Jvm.MethodName) method_2_code (1 : Nat) (Option.some (Jvm.ClassFile.FieldType.object "com/example/converge_to_schema/convergetoschema/schema/Token$Kind")) : Jvm.Cond).before a0 Z = true := hw _ (List.mem_of_getElem? (i := 4) rfl)
theorem w5 {a0 : Array Value} {Z : State} (hw : HW a0 Z) : (Jvm.Cond.fieldLink "com/example/converge_to_schema/convergetoschema/schema/TokenIsSymbolPinLaw" (7 : Nat) "com/example/converge_to_schema/convergetoschema/schema/Token$Kind" "WORD" "Lcom/example/converge_to_schema/convergetoschema/schema/Token$Kind;" : Jvm.Cond).before a0 Z = true := hw _ (List.mem_of_getElem? (i := 5) rfl)
theorem w6 {a0 : Array Value} {Z : State} (hw : HW a0 Z) : (Jvm.Cond.initialized "com/example/converge_to_schema/convergetoschema/schema/Token$Kind" : Jvm.Cond).before a0 Z = true := hw _ (List.mem_of_getElem? (i := 6) rfl)
theorem w7 {a0 : Array Value} {Z : State} (hw : HW a0 Z) : (Jvm.Cond.laysStatic "com/example/converge_to_schema/convergetoschema/schema/Token$Kind" "WORD" "Lcom/example/converge_to_schema/convergetoschema/schema/Token$Kind;" : Jvm.Cond).before a0 Z = true := hw _ (List.mem_of_getElem? (i := 7) rfl)
theorem w8 {a0 : Array Value} {Z : State} (hw : HW a0 Z) : (Jvm.Cond.constant "com/example/converge_to_schema/convergetoschema/schema/TokenIsSymbolPinLaw" (35 : Nat) (65535 : Int32) : Jvm.Cond).before a0 Z = true := hw _ (List.mem_of_getElem? (i := 8) rfl)
theorem w9 {a0 : Array Value} {Z : State} (hw : HW a0 Z) : (Jvm.Cond.arrayClass Jvm.ClassFile.FieldType.char : Jvm.Cond).before a0 Z = true := hw _ (List.mem_of_getElem? (i := 9) rfl)
theorem w10 {a0 : Array Value} {Z : State} (hw : HW a0 Z) : (Jvm.Cond.classLink "com/example/converge_to_schema/convergetoschema/schema/TokenIsSymbolPinLaw" (36 : Nat) "java/lang/String" : Jvm.Cond).before a0 Z = true := hw _ (List.mem_of_getElem? (i := 10) rfl)
theorem w11 {a0 : Array Value} {Z : State} (hw : HW a0 Z) : (Jvm.Cond.instantiable "java/lang/String" (4 : Nat) : Jvm.Cond).before a0 Z = true := hw _ (List.mem_of_getElem? (i := 11) rfl)
theorem w12 {a0 : Array Value} {Z : State} (hw : HW a0 Z) : (Jvm.Cond.initialized "java/lang/String" : Jvm.Cond).before a0 Z = true := hw _ (List.mem_of_getElem? (i := 12) rfl)
theorem w13 {a0 : Array Value} {Z : State} (hw : HW a0 Z) : (Jvm.Cond.methodLink "com/example/converge_to_schema/convergetoschema/schema/TokenIsSymbolPinLaw" (38 : Nat) ({ cls := "java/lang/String", name := "<init>", desc := "([C)V" } : Jvm.MethodName) : Jvm.Cond).before a0 Z = true := hw _ (List.mem_of_getElem? (i := 13) rfl)
theorem w14 {a0 : Array Value} {Z : State} (hw : HW a0 Z) : (Jvm.Cond.instanceMethod ({ cls := "java/lang/String", name := "<init>", desc := "([C)V" } : Jvm.MethodName) : Jvm.Cond).before a0 Z = true := hw _ (List.mem_of_getElem? (i := 14) rfl)
theorem w15 {a0 : Array Value} {Z : State} (hw : HW a0 Z) : (Jvm.Cond.code ({ cls := "java/lang/String", name := "<init>", desc := "([C)V" } : Jvm.MethodName) jdk_42_method_3_code (2 : Nat) (Option.none : Option Jvm.ClassFile.FieldType) : Jvm.Cond).before a0 Z = true := hw _ (List.mem_of_getElem? (i := 15) rfl)
theorem w16 {a0 : Array Value} {Z : State} (hw : HW a0 Z) : (Jvm.Cond.methodLink "java/lang/String" (27 : Nat) ({ cls := "java/lang/String", name := "<init>", desc := "([CIILjava/lang/Void;)V" } : Jvm.MethodName) : Jvm.Cond).before a0 Z = true := hw _ (List.mem_of_getElem? (i := 16) rfl)
theorem w17 {a0 : Array Value} {Z : State} (hw : HW a0 Z) : (Jvm.Cond.instanceMethod ({ cls := "java/lang/String", name := "<init>", desc := "([CIILjava/lang/Void;)V" } : Jvm.MethodName) : Jvm.Cond).before a0 Z = true := hw _ (List.mem_of_getElem? (i := 17) rfl)
theorem w19 {a0 : Array Value} {Z : State} (hw : HW a0 Z) : (Jvm.Cond.code ({ cls := "java/lang/String", name := "<init>", desc := "([CIILjava/lang/Void;)V" } : Jvm.MethodName) jdk_42_method_149_code (6 : Nat) (Option.none : Option Jvm.ClassFile.FieldType) : Jvm.Cond).before a0 Z = true := hw _ (List.mem_of_getElem? (i := 19) rfl)
theorem w20 {a0 : Array Value} {Z : State} (hw : HW a0 Z) : (Jvm.Cond.methodLink "java/lang/String" (1 : Nat) ({ cls := "java/lang/Object", name := "<init>", desc := "()V" } : Jvm.MethodName) : Jvm.Cond).before a0 Z = true := hw _ (List.mem_of_getElem? (i := 20) rfl)
theorem w21 {a0 : Array Value} {Z : State} (hw : HW a0 Z) : (Jvm.Cond.instanceMethod ({ cls := "java/lang/Object", name := "<init>", desc := "()V" } : Jvm.MethodName) : Jvm.Cond).before a0 Z = true := hw _ (List.mem_of_getElem? (i := 21) rfl)
theorem w22 {a0 : Array Value} {Z : State} (hw : HW a0 Z) : (Jvm.Cond.code ({ cls := "java/lang/Object", name := "<init>", desc := "()V" } : Jvm.MethodName) object_method_1_code (1 : Nat) (Option.none : Option Jvm.ClassFile.FieldType) : Jvm.Cond).before a0 Z = true := hw _ (List.mem_of_getElem? (i := 22) rfl)
theorem w24 {a0 : Array Value} {Z : State} (hw : HW a0 Z) : (Jvm.Cond.arrayClass Jvm.ClassFile.FieldType.byte : Jvm.Cond).before a0 Z = true := hw _ (List.mem_of_getElem? (i := 24) rfl)
theorem w25 {a0 : Array Value} {Z : State} (hw : HW a0 Z) : (Jvm.Cond.laysFinal "java/lang/String" "java/lang/String" "value" "[B" : Jvm.Cond).before a0 Z = true := hw _ (List.mem_of_getElem? (i := 25) rfl)
theorem w26 {a0 : Array Value} {Z : State} (hw : HW a0 Z) : (Jvm.Cond.laysFinal "java/lang/String" "java/lang/String" "coder" "B" : Jvm.Cond).before a0 Z = true := hw _ (List.mem_of_getElem? (i := 26) rfl)
theorem w29 {a0 : Array Value} {Z : State} (hw : HW a0 Z) : (Jvm.Cond.fieldLink "java/lang/String" (9 : Nat) "java/lang/String" "value" "[B" : Jvm.Cond).before a0 Z = true := hw _ (List.mem_of_getElem? (i := 29) rfl)
theorem w30 {a0 : Array Value} {Z : State} (hw : HW a0 Z) : (Jvm.Cond.fieldLink "java/lang/String" (15 : Nat) "java/lang/String" "coder" "B" : Jvm.Cond).before a0 Z = true := hw _ (List.mem_of_getElem? (i := 30) rfl)
theorem w31 {a0 : Array Value} {Z : State} (hw : HW a0 Z) : (Jvm.Cond.classLink "com/example/converge_to_schema/convergetoschema/schema/TokenIsSymbolPinLaw" (41 : Nat) "com/example/converge_to_schema/convergetoschema/schema/Token" : Jvm.Cond).before a0 Z = true := hw _ (List.mem_of_getElem? (i := 31) rfl)
theorem w32 {a0 : Array Value} {Z : State} (hw : HW a0 Z) : (Jvm.Cond.instantiable "com/example/converge_to_schema/convergetoschema/schema/Token" (4 : Nat) : Jvm.Cond).before a0 Z = true := hw _ (List.mem_of_getElem? (i := 32) rfl)
theorem w33 {a0 : Array Value} {Z : State} (hw : HW a0 Z) : (Jvm.Cond.initialized "com/example/converge_to_schema/convergetoschema/schema/Token" : Jvm.Cond).before a0 Z = true := hw _ (List.mem_of_getElem? (i := 33) rfl)
theorem w34 {a0 : Array Value} {Z : State} (hw : HW a0 Z) : (Jvm.Cond.methodLink "com/example/converge_to_schema/convergetoschema/schema/TokenIsSymbolPinLaw" (43 : Nat) ({ cls := "com/example/converge_to_schema/convergetoschema/schema/Token", name := "<init>", desc := "(Lcom/example/converge_to_schema/convergetoschema/schema/Token$Kind;Ljava/lang/String;II)V" } : Jvm.MethodName) : Jvm.Cond).before a0 Z = true := hw _ (List.mem_of_getElem? (i := 34) rfl)
theorem w35 {a0 : Array Value} {Z : State} (hw : HW a0 Z) : (Jvm.Cond.instanceMethod ({ cls := "com/example/converge_to_schema/convergetoschema/schema/Token", name := "<init>", desc := "(Lcom/example/converge_to_schema/convergetoschema/schema/Token$Kind;Ljava/lang/String;II)V" } : Jvm.MethodName) : Jvm.Cond).before a0 Z = true := hw _ (List.mem_of_getElem? (i := 35) rfl)
theorem w36 {a0 : Array Value} {Z : State} (hw : HW a0 Z) : (Jvm.Cond.code ({ cls := "com/example/converge_to_schema/convergetoschema/schema/Token", name := "<init>", desc := "(Lcom/example/converge_to_schema/convergetoschema/schema/Token$Kind;Ljava/lang/String;II)V" } : Jvm.MethodName) prog_68_method_1_code (5 : Nat) (Option.none : Option Jvm.ClassFile.FieldType) : Jvm.Cond).before a0 Z = true := hw _ (List.mem_of_getElem? (i := 36) rfl)
theorem w37 {a0 : Array Value} {Z : State} (hw : HW a0 Z) : (Jvm.Cond.methodLink "com/example/converge_to_schema/convergetoschema/schema/Token" (1 : Nat) ({ cls := "java/lang/Object", name := "<init>", desc := "()V" } : Jvm.MethodName) : Jvm.Cond).before a0 Z = true := hw _ (List.mem_of_getElem? (i := 37) rfl)
theorem w38 {a0 : Array Value} {Z : State} (hw : HW a0 Z) : (Jvm.Cond.fieldLink "com/example/converge_to_schema/convergetoschema/schema/Token" (7 : Nat) "com/example/converge_to_schema/convergetoschema/schema/Token" "kind" "Lcom/example/converge_to_schema/convergetoschema/schema/Token$Kind;" : Jvm.Cond).before a0 Z = true := hw _ (List.mem_of_getElem? (i := 38) rfl)
theorem w39 {a0 : Array Value} {Z : State} (hw : HW a0 Z) : (Jvm.Cond.laysFinal "com/example/converge_to_schema/convergetoschema/schema/Token" "com/example/converge_to_schema/convergetoschema/schema/Token" "kind" "Lcom/example/converge_to_schema/convergetoschema/schema/Token$Kind;" : Jvm.Cond).before a0 Z = true := hw _ (List.mem_of_getElem? (i := 39) rfl)
theorem w40 {a0 : Array Value} {Z : State} (hw : HW a0 Z) : (Jvm.Cond.fieldLink "com/example/converge_to_schema/convergetoschema/schema/Token" (13 : Nat) "com/example/converge_to_schema/convergetoschema/schema/Token" "text" "Ljava/lang/String;" : Jvm.Cond).before a0 Z = true := hw _ (List.mem_of_getElem? (i := 40) rfl)
theorem w41 {a0 : Array Value} {Z : State} (hw : HW a0 Z) : (Jvm.Cond.laysFinal "com/example/converge_to_schema/convergetoschema/schema/Token" "com/example/converge_to_schema/convergetoschema/schema/Token" "text" "Ljava/lang/String;" : Jvm.Cond).before a0 Z = true := hw _ (List.mem_of_getElem? (i := 41) rfl)
theorem w42 {a0 : Array Value} {Z : State} (hw : HW a0 Z) : (Jvm.Cond.fieldLink "com/example/converge_to_schema/convergetoschema/schema/Token" (17 : Nat) "com/example/converge_to_schema/convergetoschema/schema/Token" "line" "I" : Jvm.Cond).before a0 Z = true := hw _ (List.mem_of_getElem? (i := 42) rfl)
theorem w43 {a0 : Array Value} {Z : State} (hw : HW a0 Z) : (Jvm.Cond.laysFinal "com/example/converge_to_schema/convergetoschema/schema/Token" "com/example/converge_to_schema/convergetoschema/schema/Token" "line" "I" : Jvm.Cond).before a0 Z = true := hw _ (List.mem_of_getElem? (i := 43) rfl)
theorem w44 {a0 : Array Value} {Z : State} (hw : HW a0 Z) : (Jvm.Cond.fieldLink "com/example/converge_to_schema/convergetoschema/schema/Token" (21 : Nat) "com/example/converge_to_schema/convergetoschema/schema/Token" "column" "I" : Jvm.Cond).before a0 Z = true := hw _ (List.mem_of_getElem? (i := 44) rfl)
theorem w45 {a0 : Array Value} {Z : State} (hw : HW a0 Z) : (Jvm.Cond.laysFinal "com/example/converge_to_schema/convergetoschema/schema/Token" "com/example/converge_to_schema/convergetoschema/schema/Token" "column" "I" : Jvm.Cond).before a0 Z = true := hw _ (List.mem_of_getElem? (i := 45) rfl)
theorem w46 {a0 : Array Value} {Z : State} (hw : HW a0 Z) : (Jvm.Cond.methodLink "com/example/converge_to_schema/convergetoschema/schema/TokenIsSymbolPinLaw" (46 : Nat) ({ cls := "com/example/converge_to_schema/convergetoschema/schema/Token", name := "isSymbol", desc := "(C)Z" } : Jvm.MethodName) : Jvm.Cond).before a0 Z = true := hw _ (List.mem_of_getElem? (i := 46) rfl)
theorem w47 {a0 : Array Value} {Z : State} (hw : HW a0 Z) : (Jvm.Cond.declares ({ cls := "com/example/converge_to_schema/convergetoschema/schema/Token", name := "isSymbol", desc := "(C)Z" } : Jvm.MethodName) : Jvm.Cond).before a0 Z = true := hw _ (List.mem_of_getElem? (i := 47) rfl)
theorem w48 {a0 : Array Value} {Z : State} (hw : HW a0 Z) : (Jvm.Cond.instanceMethod ({ cls := "com/example/converge_to_schema/convergetoschema/schema/Token", name := "isSymbol", desc := "(C)Z" } : Jvm.MethodName) : Jvm.Cond).before a0 Z = true := hw _ (List.mem_of_getElem? (i := 48) rfl)
theorem w49 {a0 : Array Value} {Z : State} (hw : HW a0 Z) : (Jvm.Cond.selects "com/example/converge_to_schema/convergetoschema/schema/Token" ({ cls := "com/example/converge_to_schema/convergetoschema/schema/Token", name := "isSymbol", desc := "(C)Z" } : Jvm.MethodName) ({ cls := "com/example/converge_to_schema/convergetoschema/schema/Token", name := "isSymbol", desc := "(C)Z" } : Jvm.MethodName) : Jvm.Cond).before a0 Z = true := hw _ (List.mem_of_getElem? (i := 49) rfl)
theorem w50 {a0 : Array Value} {Z : State} (hw : HW a0 Z) : (Jvm.Cond.code ({ cls := "com/example/converge_to_schema/convergetoschema/schema/Token", name := "isSymbol", desc := "(C)Z" } : Jvm.MethodName) prog_68_method_7_code (2 : Nat) (Option.some Jvm.ClassFile.FieldType.boolean) : Jvm.Cond).before a0 Z = true := hw _ (List.mem_of_getElem? (i := 50) rfl)
theorem w51 {a0 : Array Value} {Z : State} (hw : HW a0 Z) : (Jvm.Cond.fieldLink "com/example/converge_to_schema/convergetoschema/schema/Token" (35 : Nat) "com/example/converge_to_schema/convergetoschema/schema/Token$Kind" "SYMBOL" "Lcom/example/converge_to_schema/convergetoschema/schema/Token$Kind;" : Jvm.Cond).before a0 Z = true := hw _ (List.mem_of_getElem? (i := 51) rfl)
theorem w52 {a0 : Array Value} {Z : State} (hw : HW a0 Z) : (Jvm.Cond.laysStatic "com/example/converge_to_schema/convergetoschema/schema/Token$Kind" "SYMBOL" "Lcom/example/converge_to_schema/convergetoschema/schema/Token$Kind;" : Jvm.Cond).before a0 Z = true := hw _ (List.mem_of_getElem? (i := 52) rfl)
theorem w53 {a0 : Array Value} {Z : State} (hw : HW a0 Z) : (Jvm.Cond.fieldLink "com/example/converge_to_schema/convergetoschema/schema/TokenIsSymbolPinLaw" (19 : Nat) "com/example/converge_to_schema/convergetoschema/schema/Token$Kind" "SYMBOL" "Lcom/example/converge_to_schema/convergetoschema/schema/Token$Kind;" : Jvm.Cond).before a0 Z = true := hw _ (List.mem_of_getElem? (i := 53) rfl)
theorem w54 {a0 : Array Value} {Z : State} (hw : HW a0 Z) : (Jvm.Cond.fieldLink "java/lang/String" (38 : Nat) "java/lang/String" "COMPACT_STRINGS" "Z" : Jvm.Cond).before a0 Z = true := hw _ (List.mem_of_getElem? (i := 54) rfl)
theorem w55 {a0 : Array Value} {Z : State} (hw : HW a0 Z) : (Jvm.Cond.methodLink "java/lang/String" (177 : Nat) ({ cls := "java/lang/StringUTF16", name := "compress", desc := "([CII)[B" } : Jvm.MethodName) : Jvm.Cond).before a0 Z = true := hw _ (List.mem_of_getElem? (i := 55) rfl)
theorem w56 {a0 : Array Value} {Z : State} (hw : HW a0 Z) : (Jvm.Cond.static ({ cls := "java/lang/StringUTF16", name := "compress", desc := "([CII)[B" } : Jvm.MethodName) : Jvm.Cond).before a0 Z = true := hw _ (List.mem_of_getElem? (i := 56) rfl)
theorem w57 {a0 : Array Value} {Z : State} (hw : HW a0 Z) : (Jvm.Cond.initialized "java/lang/StringUTF16" : Jvm.Cond).before a0 Z = true := hw _ (List.mem_of_getElem? (i := 57) rfl)
theorem w58 {a0 : Array Value} {Z : State} (hw : HW a0 Z) : (Jvm.Cond.code ({ cls := "java/lang/StringUTF16", name := "compress", desc := "([CII)[B" } : Jvm.MethodName) jdk_52_method_16_code (6 : Nat) (Option.some (Jvm.ClassFile.FieldType.array Jvm.ClassFile.FieldType.byte)) : Jvm.Cond).before a0 Z = true := hw _ (List.mem_of_getElem? (i := 58) rfl)
theorem w59 {a0 : Array Value} {Z : State} (hw : HW a0 Z) : (Jvm.Cond.methodLink "java/lang/StringUTF16" (115 : Nat) ({ cls := "java/lang/StringUTF16", name := "compress", desc := "([CI[BII)I" } : Jvm.MethodName) : Jvm.Cond).before a0 Z = true := hw _ (List.mem_of_getElem? (i := 59) rfl)
theorem w60 {a0 : Array Value} {Z : State} (hw : HW a0 Z) : (Jvm.Cond.static ({ cls := "java/lang/StringUTF16", name := "compress", desc := "([CI[BII)I" } : Jvm.MethodName) : Jvm.Cond).before a0 Z = true := hw _ (List.mem_of_getElem? (i := 60) rfl)
theorem w61 {a0 : Array Value} {Z : State} (hw : HW a0 Z) : (Jvm.Cond.code ({ cls := "java/lang/StringUTF16", name := "compress", desc := "([CI[BII)I" } : Jvm.MethodName) jdk_52_method_21_code (7 : Nat) (Option.some Jvm.ClassFile.FieldType.int) : Jvm.Cond).before a0 Z = true := hw _ (List.mem_of_getElem? (i := 61) rfl)
theorem w62 {a0 : Array Value} {Z : State} (hw : HW a0 Z) : (Jvm.Cond.methodLink "java/lang/String" (47 : Nat) ({ cls := "java/lang/StringUTF16", name := "coderFromArrayLen", desc := "([BI)B" } : Jvm.MethodName) : Jvm.Cond).before a0 Z = true := hw _ (List.mem_of_getElem? (i := 62) rfl)
theorem w63 {a0 : Array Value} {Z : State} (hw : HW a0 Z) : (Jvm.Cond.static ({ cls := "java/lang/StringUTF16", name := "coderFromArrayLen", desc := "([BI)B" } : Jvm.MethodName) : Jvm.Cond).before a0 Z = true := hw _ (List.mem_of_getElem? (i := 63) rfl)
theorem w64 {a0 : Array Value} {Z : State} (hw : HW a0 Z) : (Jvm.Cond.code ({ cls := "java/lang/StringUTF16", name := "coderFromArrayLen", desc := "([BI)B" } : Jvm.MethodName) jdk_52_method_15_code (2 : Nat) (Option.some Jvm.ClassFile.FieldType.byte) : Jvm.Cond).before a0 Z = true := hw _ (List.mem_of_getElem? (i := 64) rfl)
theorem w65 {a0 : Array Value} {Z : State} (hw : HW a0 Z) : (Jvm.Cond.methodLink "com/example/converge_to_schema/convergetoschema/schema/Token" (38 : Nat) ({ cls := "java/lang/String", name := "charAt", desc := "(I)C" } : Jvm.MethodName) : Jvm.Cond).before a0 Z = true := hw _ (List.mem_of_getElem? (i := 65) rfl)
theorem w66 {a0 : Array Value} {Z : State} (hw : HW a0 Z) : (Jvm.Cond.declares ({ cls := "java/lang/String", name := "charAt", desc := "(I)C" } : Jvm.MethodName) : Jvm.Cond).before a0 Z = true := hw _ (List.mem_of_getElem? (i := 66) rfl)
theorem w67 {a0 : Array Value} {Z : State} (hw : HW a0 Z) : (Jvm.Cond.instanceMethod ({ cls := "java/lang/String", name := "charAt", desc := "(I)C" } : Jvm.MethodName) : Jvm.Cond).before a0 Z = true := hw _ (List.mem_of_getElem? (i := 67) rfl)
theorem w68 {a0 : Array Value} {Z : State} (hw : HW a0 Z) : (Jvm.Cond.selects "java/lang/String" ({ cls := "java/lang/String", name := "charAt", desc := "(I)C" } : Jvm.MethodName) ({ cls := "java/lang/String", name := "charAt", desc := "(I)C" } : Jvm.MethodName) : Jvm.Cond).before a0 Z = true := hw _ (List.mem_of_getElem? (i := 68) rfl)
theorem w69 {a0 : Array Value} {Z : State} (hw : HW a0 Z) : (Jvm.Cond.code ({ cls := "java/lang/String", name := "charAt", desc := "(I)C" } : Jvm.MethodName) jdk_42_method_56_code (2 : Nat) (Option.some Jvm.ClassFile.FieldType.char) : Jvm.Cond).before a0 Z = true := hw _ (List.mem_of_getElem? (i := 69) rfl)
theorem w70 {a0 : Array Value} {Z : State} (hw : HW a0 Z) : (Jvm.Cond.methodLink "java/lang/String" (492 : Nat) ({ cls := "java/lang/String", name := "isLatin1", desc := "()Z" } : Jvm.MethodName) : Jvm.Cond).before a0 Z = true := hw _ (List.mem_of_getElem? (i := 70) rfl)
theorem w71 {a0 : Array Value} {Z : State} (hw : HW a0 Z) : (Jvm.Cond.declares ({ cls := "java/lang/String", name := "isLatin1", desc := "()Z" } : Jvm.MethodName) : Jvm.Cond).before a0 Z = true := hw _ (List.mem_of_getElem? (i := 71) rfl)
theorem w72 {a0 : Array Value} {Z : State} (hw : HW a0 Z) : (Jvm.Cond.instanceMethod ({ cls := "java/lang/String", name := "isLatin1", desc := "()Z" } : Jvm.MethodName) : Jvm.Cond).before a0 Z = true := hw _ (List.mem_of_getElem? (i := 72) rfl)
theorem w73 {a0 : Array Value} {Z : State} (hw : HW a0 Z) : (Jvm.Cond.selects "java/lang/String" ({ cls := "java/lang/String", name := "isLatin1", desc := "()Z" } : Jvm.MethodName) ({ cls := "java/lang/String", name := "isLatin1", desc := "()Z" } : Jvm.MethodName) : Jvm.Cond).before a0 Z = true := hw _ (List.mem_of_getElem? (i := 73) rfl)
theorem w74 {a0 : Array Value} {Z : State} (hw : HW a0 Z) : (Jvm.Cond.code ({ cls := "java/lang/String", name := "isLatin1", desc := "()Z" } : Jvm.MethodName) jdk_42_method_154_code (1 : Nat) (Option.some Jvm.ClassFile.FieldType.boolean) : Jvm.Cond).before a0 Z = true := hw _ (List.mem_of_getElem? (i := 74) rfl)
theorem w80 {a0 : Array Value} {Z : State} (hw : HW a0 Z) : (Jvm.Cond.static ({ cls := "java/lang/String", name := "checkIndex", desc := "(II)V" } : Jvm.MethodName) : Jvm.Cond).before a0 Z = true := hw _ (List.mem_of_getElem? (i := 80) rfl)
theorem w81 {a0 : Array Value} {Z : State} (hw : HW a0 Z) : (Jvm.Cond.code ({ cls := "java/lang/String", name := "checkIndex", desc := "(II)V" } : Jvm.MethodName) jdk_42_method_155_code (2 : Nat) (Option.none : Option Jvm.ClassFile.FieldType) : Jvm.Cond).before a0 Z = true := hw _ (List.mem_of_getElem? (i := 81) rfl)
theorem w82 {a0 : Array Value} {Z : State} (hw : HW a0 Z) : (Jvm.Cond.fieldLink "java/lang/String" (1053 : Nat) "jdk/internal/util/Preconditions" "SIOOBE_FORMATTER" "Ljava/util/function/BiFunction;" : Jvm.Cond).before a0 Z = true := hw _ (List.mem_of_getElem? (i := 82) rfl)
theorem w83 {a0 : Array Value} {Z : State} (hw : HW a0 Z) : (Jvm.Cond.initialized "jdk/internal/util/Preconditions" : Jvm.Cond).before a0 Z = true := hw _ (List.mem_of_getElem? (i := 83) rfl)
theorem w84 {a0 : Array Value} {Z : State} (hw : HW a0 Z) : (Jvm.Cond.methodLink "java/lang/String" (1059 : Nat) ({ cls := "jdk/internal/util/Preconditions", name := "checkIndex", desc := "(IILjava/util/function/BiFunction;)I" } : Jvm.MethodName) : Jvm.Cond).before a0 Z = true := hw _ (List.mem_of_getElem? (i := 84) rfl)
theorem w85 {a0 : Array Value} {Z : State} (hw : HW a0 Z) : (Jvm.Cond.static ({ cls := "jdk/internal/util/Preconditions", name := "checkIndex", desc := "(IILjava/util/function/BiFunction;)I" } : Jvm.MethodName) : Jvm.Cond).before a0 Z = true := hw _ (List.mem_of_getElem? (i := 85) rfl)
theorem w86 {a0 : Array Value} {Z : State} (hw : HW a0 Z) : (Jvm.Cond.code ({ cls := "jdk/internal/util/Preconditions", name := "checkIndex", desc := "(IILjava/util/function/BiFunction;)I" } : Jvm.MethodName) jdk_41_method_11_code (3 : Nat) (Option.some Jvm.ClassFile.FieldType.int) : Jvm.Cond).before a0 Z = true := hw _ (List.mem_of_getElem? (i := 86) rfl)
theorem w87 {a0 : Array Value} {Z : State} (hw : HW a0 Z) : (Jvm.Cond.fieldLink "com/example/converge_to_schema/convergetoschema/schema/TokenIsSymbolPinLaw" (16 : Nat) "com/example/converge_to_schema/convergetoschema/schema/Token$Kind" "STRING" "Lcom/example/converge_to_schema/convergetoschema/schema/Token$Kind;" : Jvm.Cond).before a0 Z = true := hw _ (List.mem_of_getElem? (i := 87) rfl)
theorem w88 {a0 : Array Value} {Z : State} (hw : HW a0 Z) : (Jvm.Cond.laysStatic "com/example/converge_to_schema/convergetoschema/schema/Token$Kind" "STRING" "Lcom/example/converge_to_schema/convergetoschema/schema/Token$Kind;" : Jvm.Cond).before a0 Z = true := hw _ (List.mem_of_getElem? (i := 88) rfl)
theorem w89 {a0 : Array Value} {Z : State} (hw : HW a0 Z) : (Jvm.Cond.fieldLink "com/example/converge_to_schema/convergetoschema/schema/TokenIsSymbolPinLaw" (22 : Nat) "com/example/converge_to_schema/convergetoschema/schema/Token$Kind" "DOCUMENTATION" "Lcom/example/converge_to_schema/convergetoschema/schema/Token$Kind;" : Jvm.Cond).before a0 Z = true := hw _ (List.mem_of_getElem? (i := 89) rfl)
theorem w90 {a0 : Array Value} {Z : State} (hw : HW a0 Z) : (Jvm.Cond.laysStatic "com/example/converge_to_schema/convergetoschema/schema/Token$Kind" "DOCUMENTATION" "Lcom/example/converge_to_schema/convergetoschema/schema/Token$Kind;" : Jvm.Cond).before a0 Z = true := hw _ (List.mem_of_getElem? (i := 90) rfl)
theorem w91 {a0 : Array Value} {Z : State} (hw : HW a0 Z) : (Jvm.Cond.methodLink "java/lang/StringUTF16" (119 : Nat) ({ cls := "java/lang/StringUTF16", name := "toBytes", desc := "([CII)[B" } : Jvm.MethodName) : Jvm.Cond).before a0 Z = true := hw _ (List.mem_of_getElem? (i := 91) rfl)
theorem w92 {a0 : Array Value} {Z : State} (hw : HW a0 Z) : (Jvm.Cond.static ({ cls := "java/lang/StringUTF16", name := "toBytes", desc := "([CII)[B" } : Jvm.MethodName) : Jvm.Cond).before a0 Z = true := hw _ (List.mem_of_getElem? (i := 92) rfl)
theorem w93 {a0 : Array Value} {Z : State} (hw : HW a0 Z) : (Jvm.Cond.code ({ cls := "java/lang/StringUTF16", name := "toBytes", desc := "([CII)[B" } : Jvm.MethodName) jdk_52_method_14_code (5 : Nat) (Option.some (Jvm.ClassFile.FieldType.array Jvm.ClassFile.FieldType.byte)) : Jvm.Cond).before a0 Z = true := hw _ (List.mem_of_getElem? (i := 93) rfl)
theorem w94 {a0 : Array Value} {Z : State} (hw : HW a0 Z) : (Jvm.Cond.methodLink "java/lang/StringUTF16" (107 : Nat) ({ cls := "java/lang/StringUTF16", name := "newBytesFor", desc := "(I)[B" } : Jvm.MethodName) : Jvm.Cond).before a0 Z = true := hw _ (List.mem_of_getElem? (i := 94) rfl)
theorem w95 {a0 : Array Value} {Z : State} (hw : HW a0 Z) : (Jvm.Cond.static ({ cls := "java/lang/StringUTF16", name := "newBytesFor", desc := "(I)[B" } : Jvm.MethodName) : Jvm.Cond).before a0 Z = true := hw _ (List.mem_of_getElem? (i := 95) rfl)
theorem w96 {a0 : Array Value} {Z : State} (hw : HW a0 Z) : (Jvm.Cond.code ({ cls := "java/lang/StringUTF16", name := "newBytesFor", desc := "(I)[B" } : Jvm.MethodName) jdk_52_method_2_code (1 : Nat) (Option.some (Jvm.ClassFile.FieldType.array Jvm.ClassFile.FieldType.byte)) : Jvm.Cond).before a0 Z = true := hw _ (List.mem_of_getElem? (i := 96) rfl)
theorem w97 {a0 : Array Value} {Z : State} (hw : HW a0 Z) : (Jvm.Cond.methodLink "java/lang/StringUTF16" (11 : Nat) ({ cls := "java/lang/StringUTF16", name := "newBytesLength", desc := "(I)I" } : Jvm.MethodName) : Jvm.Cond).before a0 Z = true := hw _ (List.mem_of_getElem? (i := 97) rfl)
theorem w98 {a0 : Array Value} {Z : State} (hw : HW a0 Z) : (Jvm.Cond.static ({ cls := "java/lang/StringUTF16", name := "newBytesLength", desc := "(I)I" } : Jvm.MethodName) : Jvm.Cond).before a0 Z = true := hw _ (List.mem_of_getElem? (i := 98) rfl)
theorem w99 {a0 : Array Value} {Z : State} (hw : HW a0 Z) : (Jvm.Cond.code ({ cls := "java/lang/StringUTF16", name := "newBytesLength", desc := "(I)I" } : Jvm.MethodName) jdk_52_method_3_code (1 : Nat) (Option.some Jvm.ClassFile.FieldType.int) : Jvm.Cond).before a0 Z = true := hw _ (List.mem_of_getElem? (i := 99) rfl)
theorem w100 {a0 : Array Value} {Z : State} (hw : HW a0 Z) : (Jvm.Cond.constant "java/lang/StringUTF16" (20 : Nat) (1073741823 : Int32) : Jvm.Cond).before a0 Z = true := hw _ (List.mem_of_getElem? (i := 100) rfl)
theorem w101 {a0 : Array Value} {Z : State} (hw : HW a0 Z) : (Jvm.Cond.methodLink "java/lang/StringUTF16" (111 : Nat) ({ cls := "java/lang/StringUTF16", name := "putChar", desc := "([BII)V" } : Jvm.MethodName) : Jvm.Cond).before a0 Z = true := hw _ (List.mem_of_getElem? (i := 101) rfl)
theorem w102 {a0 : Array Value} {Z : State} (hw : HW a0 Z) : (Jvm.Cond.static ({ cls := "java/lang/StringUTF16", name := "putChar", desc := "([BII)V" } : Jvm.MethodName) : Jvm.Cond).before a0 Z = true := hw _ (List.mem_of_getElem? (i := 102) rfl)
theorem w103 {a0 : Array Value} {Z : State} (hw : HW a0 Z) : (Jvm.Cond.code ({ cls := "java/lang/StringUTF16", name := "putChar", desc := "([BII)V" } : Jvm.MethodName) jdk_52_method_4_code (3 : Nat) (Option.none : Option Jvm.ClassFile.FieldType) : Jvm.Cond).before a0 Z = true := hw _ (List.mem_of_getElem? (i := 103) rfl)
theorem w104 {a0 : Array Value} {Z : State} (hw : HW a0 Z) : (Jvm.Cond.fieldLink "java/lang/StringUTF16" (44 : Nat) "java/lang/StringUTF16" "$assertionsDisabled" "Z" : Jvm.Cond).before a0 Z = true := hw _ (List.mem_of_getElem? (i := 104) rfl)
theorem w105 {a0 : Array Value} {Z : State} (hw : HW a0 Z) : (Jvm.Cond.fieldLink "java/lang/StringUTF16" (59 : Nat) "java/lang/StringUTF16" "HI_BYTE_SHIFT" "I" : Jvm.Cond).before a0 Z = true := hw _ (List.mem_of_getElem? (i := 105) rfl)
theorem w106 {a0 : Array Value} {Z : State} (hw : HW a0 Z) : (Jvm.Cond.fieldLink "java/lang/StringUTF16" (63 : Nat) "java/lang/StringUTF16" "LO_BYTE_SHIFT" "I" : Jvm.Cond).before a0 Z = true := hw _ (List.mem_of_getElem? (i := 106) rfl)
theorem w107 {a0 : Array Value} {Z : State} (hw : HW a0 Z) : (Jvm.Cond.methodLink "java/lang/StringUTF16" (71 : Nat) ({ cls := "java/lang/StringUTF16", name := "getChar", desc := "([BI)C" } : Jvm.MethodName) : Jvm.Cond).before a0 Z = true := hw _ (List.mem_of_getElem? (i := 107) rfl)
theorem w108 {a0 : Array Value} {Z : State} (hw : HW a0 Z) : (Jvm.Cond.static ({ cls := "java/lang/StringUTF16", name := "getChar", desc := "([BI)C" } : Jvm.MethodName) : Jvm.Cond).before a0 Z = true := hw _ (List.mem_of_getElem? (i := 108) rfl)
theorem w109 {a0 : Array Value} {Z : State} (hw : HW a0 Z) : (Jvm.Cond.code ({ cls := "java/lang/StringUTF16", name := "getChar", desc := "([BI)C" } : Jvm.MethodName) jdk_52_method_5_code (2 : Nat) (Option.some Jvm.ClassFile.FieldType.char) : Jvm.Cond).before a0 Z = true := hw _ (List.mem_of_getElem? (i := 109) rfl)
theorem w110 {a0 : Array Value} {Z : State} (hw : HW a0 Z) : (Jvm.Cond.methodLink "java/lang/String" (498 : Nat) ({ cls := "java/lang/StringUTF16", name := "charAt", desc := "([BI)C" } : Jvm.MethodName) : Jvm.Cond).before a0 Z = true := hw _ (List.mem_of_getElem? (i := 110) rfl)
theorem w111 {a0 : Array Value} {Z : State} (hw : HW a0 Z) : (Jvm.Cond.static ({ cls := "java/lang/StringUTF16", name := "charAt", desc := "([BI)C" } : Jvm.MethodName) : Jvm.Cond).before a0 Z = true := hw _ (List.mem_of_getElem? (i := 111) rfl)
theorem w112 {a0 : Array Value} {Z : State} (hw : HW a0 Z) : (Jvm.Cond.code ({ cls := "java/lang/StringUTF16", name := "charAt", desc := "([BI)C" } : Jvm.MethodName) jdk_52_method_83_code (2 : Nat) (Option.some Jvm.ClassFile.FieldType.char) : Jvm.Cond).before a0 Z = true := hw _ (List.mem_of_getElem? (i := 112) rfl)
theorem w113 {a0 : Array Value} {Z : State} (hw : HW a0 Z) : (Jvm.Cond.methodLink "java/lang/StringUTF16" (67 : Nat) ({ cls := "java/lang/StringUTF16", name := "checkIndex", desc := "(I[B)V" } : Jvm.MethodName) : Jvm.Cond).before a0 Z = true := hw _ (List.mem_of_getElem? (i := 113) rfl)
theorem w114 {a0 : Array Value} {Z : State} (hw : HW a0 Z) : (Jvm.Cond.static ({ cls := "java/lang/StringUTF16", name := "checkIndex", desc := "(I[B)V" } : Jvm.MethodName) : Jvm.Cond).before a0 Z = true := hw _ (List.mem_of_getElem? (i := 114) rfl)
theorem w115 {a0 : Array Value} {Z : State} (hw : HW a0 Z) : (Jvm.Cond.code ({ cls := "java/lang/StringUTF16", name := "checkIndex", desc := "(I[B)V" } : Jvm.MethodName) jdk_52_method_91_code (2 : Nat) (Option.none : Option Jvm.ClassFile.FieldType) : Jvm.Cond).before a0 Z = true := hw _ (List.mem_of_getElem? (i := 115) rfl)
theorem w116 {a0 : Array Value} {Z : State} (hw : HW a0 Z) : (Jvm.Cond.methodLink "java/lang/StringUTF16" (48 : Nat) ({ cls := "java/lang/StringUTF16", name := "length", desc := "([B)I" } : Jvm.MethodName) : Jvm.Cond).before a0 Z = true := hw _ (List.mem_of_getElem? (i := 116) rfl)
theorem w117 {a0 : Array Value} {Z : State} (hw : HW a0 Z) : (Jvm.Cond.static ({ cls := "java/lang/StringUTF16", name := "length", desc := "([B)I" } : Jvm.MethodName) : Jvm.Cond).before a0 Z = true := hw _ (List.mem_of_getElem? (i := 117) rfl)
theorem w118 {a0 : Array Value} {Z : State} (hw : HW a0 Z) : (Jvm.Cond.code ({ cls := "java/lang/StringUTF16", name := "length", desc := "([B)I" } : Jvm.MethodName) jdk_52_method_6_code (1 : Nat) (Option.some Jvm.ClassFile.FieldType.int) : Jvm.Cond).before a0 Z = true := hw _ (List.mem_of_getElem? (i := 118) rfl)
theorem w119 {a0 : Array Value} {Z : State} (hw : HW a0 Z) : (Jvm.Cond.methodLink "java/lang/StringUTF16" (414 : Nat) ({ cls := "java/lang/String", name := "checkIndex", desc := "(II)V" } : Jvm.MethodName) : Jvm.Cond).before a0 Z = true := hw _ (List.mem_of_getElem? (i := 119) rfl)
theorem w120 {a0 : Array Value} {Z : State} (hw : HW a0 Z) : (Jvm.Cond.fieldLink "com/example/converge_to_schema/convergetoschema/schema/TokenIsSymbolPinLaw" (13 : Nat) "com/example/converge_to_schema/convergetoschema/schema/Token$Kind" "NUMBER" "Lcom/example/converge_to_schema/convergetoschema/schema/Token$Kind;" : Jvm.Cond).before a0 Z = true := hw _ (List.mem_of_getElem? (i := 120) rfl)
theorem w121 {a0 : Array Value} {Z : State} (hw : HW a0 Z) : (Jvm.Cond.laysStatic "com/example/converge_to_schema/convergetoschema/schema/Token$Kind" "NUMBER" "Lcom/example/converge_to_schema/convergetoschema/schema/Token$Kind;" : Jvm.Cond).before a0 Z = true := hw _ (List.mem_of_getElem? (i := 121) rfl)
theorem w122 {a0 : Array Value} {Z : State} (hw : HW a0 Z) : (Jvm.Cond.fieldLink "com/example/converge_to_schema/convergetoschema/schema/TokenIsSymbolPinLaw" (25 : Nat) "com/example/converge_to_schema/convergetoschema/schema/Token$Kind" "END" "Lcom/example/converge_to_schema/convergetoschema/schema/Token$Kind;" : Jvm.Cond).before a0 Z = true := hw _ (List.mem_of_getElem? (i := 122) rfl)
theorem w123 {a0 : Array Value} {Z : State} (hw : HW a0 Z) : (Jvm.Cond.laysStatic "com/example/converge_to_schema/convergetoschema/schema/Token$Kind" "END" "Lcom/example/converge_to_schema/convergetoschema/schema/Token$Kind;" : Jvm.Cond).before a0 Z = true := hw _ (List.mem_of_getElem? (i := 123) rfl)
theorem pd0 : parseMethodDescriptor "(I)I" = some ⟨[.int], some .int⟩ := by decide +kernel
theorem pd1 : parseMethodDescriptor "(I)[B" = some ⟨[.int], some (.array .byte)⟩ := by decide +kernel
theorem pd2 : parseMethodDescriptor "([BII)V" = some ⟨[(.array .byte), .int, .int], none⟩ := by decide +kernel
theorem pd3 : parseMethodDescriptor "([CI[BII)I" = some ⟨[(.array .char), .int, (.array .byte), .int, .int], some .int⟩ := by decide +kernel
theorem pd4 : parseMethodDescriptor "([CII)[B" = some ⟨[(.array .char), .int, .int], some (.array .byte)⟩ := by decide +kernel
theorem pd5 : parseMethodDescriptor "([BI)C" = some ⟨[(.array .byte), .int], some .char⟩ := by decide +kernel
theorem pd6 : parseMethodDescriptor "([BI)B" = some ⟨[(.array .byte), .int], some .byte⟩ := by decide +kernel
theorem pd7 : parseMethodDescriptor "([CIILjava/lang/Void;)V" = some ⟨[(.array .char), .int, .int, (.object "java/lang/Void")], none⟩ := by decide +kernel
theorem pd8 : parseMethodDescriptor "(IILjava/util/function/BiFunction;)I" = some ⟨[.int, .int, (.object "java/util/function/BiFunction")], some .int⟩ := by decide +kernel
theorem pd9 : parseMethodDescriptor "([B)I" = some ⟨[(.array .byte)], some .int⟩ := by decide +kernel
theorem pd10 : parseMethodDescriptor "(II)V" = some ⟨[.int, .int], none⟩ := by decide +kernel
theorem pd11 : parseMethodDescriptor "(I[B)V" = some ⟨[.int, (.array .byte)], none⟩ := by decide +kernel
theorem pd12 : parseMethodDescriptor "()Z" = some ⟨[], some .boolean⟩ := by decide +kernel
theorem pd13 : parseMethodDescriptor "(I)C" = some ⟨[.int], some .char⟩ := by decide +kernel
theorem pd14 : parseMethodDescriptor "([C)V" = some ⟨[(.array .char)], none⟩ := by decide +kernel
theorem pd15 : parseMethodDescriptor "(Lcom/example/converge_to_schema/convergetoschema/schema/Token$Kind;Ljava/lang/String;II)V" = some ⟨[(.object "com/example/converge_to_schema/convergetoschema/schema/Token$Kind"), (.object "java/lang/String"), .int, .int], none⟩ := by decide +kernel
theorem pd16 : parseMethodDescriptor "(C)Z" = some ⟨[.char], some .boolean⟩ := by decide +kernel
theorem pd17 : parseMethodDescriptor "(I)Lcom/example/converge_to_schema/convergetoschema/schema/Token$Kind;" = some ⟨[.int], some (.object "com/example/converge_to_schema/convergetoschema/schema/Token$Kind")⟩ := by decide +kernel
theorem pn0 : plainName "java/lang/StringUTF16" = true := by first | (simp [plainName, overriddenIn]; done) | decide +kernel
theorem pn1 : plainName "java/lang/String" = true := by first | (simp [plainName, overriddenIn]; done) | decide +kernel
theorem pn2 : plainName "jdk/internal/util/Preconditions" = true := by first | (simp [plainName, overriddenIn]; done) | decide +kernel
theorem pn3 : plainName "com/example/converge_to_schema/convergetoschema/schema/TokenIsSymbolPinLaw" = true := by first | (simp [plainName, overriddenIn]; done) | decide +kernel
theorem pn4 : plainName "com/example/converge_to_schema/convergetoschema/schema/Token" = true := by first | (simp [plainName, overriddenIn]; done) | decide +kernel
theorem ef0 (m : MethodId) (x0 : Addr) : entryFrame m #[(.ref x0)] 1 = mkF m 0 #[.val (.ref x0)] [] := by first | (simp [entryFrame, mkF, argsToLocals, Value.category]; done) | rfl
theorem ef1 (m : MethodId) (x0 : Addr) (x1 : Int32) : entryFrame m #[(.ref x0), (.int x1)] 2 = mkF m 0 #[.val (.ref x0), .val (.int x1)] [] := by first | (simp [entryFrame, mkF, argsToLocals, Value.category]; done) | rfl
theorem ef2 (m : MethodId) (x0 : Addr) (x1 : Int32) (x2 : Int32) : entryFrame m #[(.ref x0), (.int x1), (.int x2)] 3 = mkF m 0 #[.val (.ref x0), .val (.int x1), .val (.int x2)] [] := by first | (simp [entryFrame, mkF, argsToLocals, Value.category]; done) | rfl
theorem ef3 (m : MethodId) (x0 : Int32) : entryFrame m #[(.int x0)] 1 = mkF m 0 #[.val (.int x0)] [] := by first | (simp [entryFrame, mkF, argsToLocals, Value.category]; done) | rfl
theorem ef4 (m : MethodId) (x0 : Addr) (x1 : Int32) (x2 : Int32) : entryFrame m #[(.ref x0), (.int x1), (.int x2)] 5 = mkF m 0 #[.val (.ref x0), .val (.int x1), .val (.int x2), .unset, .unset] [] := by first | (simp [entryFrame, mkF, argsToLocals, Value.category]; done) | rfl
theorem ef5 (m : MethodId) (x0 : Addr) (x1 : Int32) (x2 : Addr) (x3 : Int32) (x4 : Int32) : entryFrame m #[(.ref x0), (.int x1), (.ref x2), (.int x3), (.int x4)] 7 = mkF m 0 #[.val (.ref x0), .val (.int x1), .val (.ref x2), .val (.int x3), .val (.int x4), .unset, .unset] [] := by first | (simp [entryFrame, mkF, argsToLocals, Value.category]; done) | rfl
theorem ef6 (m : MethodId) (x0 : Addr) (x1 : Int32) (x2 : Int32) : entryFrame m #[(.ref x0), (.int x1), (.int x2)] 6 = mkF m 0 #[.val (.ref x0), .val (.int x1), .val (.int x2), .unset, .unset, .unset] [] := by first | (simp [entryFrame, mkF, argsToLocals, Value.category]; done) | rfl
theorem ef7 (m : MethodId) (x0 : Addr) (x1 : Addr) (x2 : Int32) (x3 : Int32) : entryFrame m #[(.ref x0), (.ref x1), (.int x2), (.int x3), .null] 6 = mkF m 0 #[.val (.ref x0), .val (.ref x1), .val (.int x2), .val (.int x3), .val .null, .unset] [] := by first | (simp [entryFrame, mkF, argsToLocals, Value.category]; done) | rfl
theorem ef8 (m : MethodId) (x0 : Addr) (x1 : Addr) : entryFrame m #[(.ref x0), (.ref x1)] 2 = mkF m 0 #[.val (.ref x0), .val (.ref x1)] [] := by first | (simp [entryFrame, mkF, argsToLocals, Value.category]; done) | rfl
theorem ef9 (m : MethodId) (x0 : Int32) (x1 : Int32) (x2 : Addr) : entryFrame m #[(.int x0), (.int x1), (.ref x2)] 3 = mkF m 0 #[.val (.int x0), .val (.int x1), .val (.ref x2)] [] := by first | (simp [entryFrame, mkF, argsToLocals, Value.category]; done) | rfl
theorem ef10 (m : MethodId) (x0 : Int32) (x1 : Int32) : entryFrame m #[(.int x0), (.int x1), .null] 3 = mkF m 0 #[.val (.int x0), .val (.int x1), .val .null] [] := by first | (simp [entryFrame, mkF, argsToLocals, Value.category]; done) | rfl
theorem ef11 (m : MethodId) (x0 : Int32) (x1 : Int32) : entryFrame m #[(.int x0), (.int x1)] 2 = mkF m 0 #[.val (.int x0), .val (.int x1)] [] := by first | (simp [entryFrame, mkF, argsToLocals, Value.category]; done) | rfl
theorem ef12 (m : MethodId) (x0 : Int32) (x1 : Addr) : entryFrame m #[(.int x0), (.ref x1)] 2 = mkF m 0 #[.val (.int x0), .val (.ref x1)] [] := by first | (simp [entryFrame, mkF, argsToLocals, Value.category]; done) | rfl
theorem ef13 (m : MethodId) (x0 : Addr) (x1 : Addr) (x2 : Addr) (x3 : Int32) (x4 : Int32) : entryFrame m #[(.ref x0), (.ref x1), (.ref x2), (.int x3), (.int x4)] 5 = mkF m 0 #[.val (.ref x0), .val (.ref x1), .val (.ref x2), .val (.int x3), .val (.int x4)] [] := by first | (simp [entryFrame, mkF, argsToLocals, Value.category]; done) | rfl
theorem ef14 (m : MethodId) (x0 : Int32) (x1 : Int32) (x2 : Int32) (x3 : Int32) (x4 : Int32) : entryFrame m #[(.int x0), (.int x1), (.int x2), (.int x3), (.int x4)] maxLocals = mkF m 0 #[.val (.int x0), .val (.int x1), .val (.int x2), .val (.int x3), .val (.int x4), .unset, .unset, .unset, .unset, .unset, .unset, .unset, .unset, .unset, .unset, .unset, .unset] [] := by first | (simp [entryFrame, mkF, argsToLocals, Value.category, maxLocals]; done) | rfl
abbrev ST : String := "java/lang/String"
def Ctx (Z : State) (a0 : Array Value) : Prop := HW a0 Z ∧ EW Z a0 EL1 ∧ (∃ z1 : Int32, Sta Z Z.heap "java/lang/String" "COMPACT_STRINGS" "Z" (.int z1) ∧ ¬ z1 = 0) ∧ (∃ fm : Value, Sta Z Z.heap "jdk/internal/util/Preconditions" "SIOOBE_FORMATTER" "Ljava/util/function/BiFunction;" fm ∧ fm.isRef = true) ∧ (Sta Z Z.heap "java/lang/StringUTF16" "$assertionsDisabled" "Z" (.int (1 : Int32)) ∧ Sta Z Z.heap "java/lang/StringUTF16" "HI_BYTE_SHIFT" "I" (.int (0 : Int32)) ∧ Sta Z Z.heap "java/lang/StringUTF16" "LO_BYTE_SHIFT" "I" (.int (8 : Int32)) ∧ (∃ k0_ k1_ k2_ k3_ k4_ k5_ : Addr, Sta Z Z.heap "com/example/converge_to_schema/convergetoschema/schema/Token$Kind" "WORD" "Lcom/example/converge_to_schema/convergetoschema/schema/Token$Kind;" (.ref k0_) ∧ Sta Z Z.heap "com/example/converge_to_schema/convergetoschema/schema/Token$Kind" "NUMBER" "Lcom/example/converge_to_schema/convergetoschema/schema/Token$Kind;" (.ref k1_) ∧ Sta Z Z.heap "com/example/converge_to_schema/convergetoschema/schema/Token$Kind" "STRING" "Lcom/example/converge_to_schema/convergetoschema/schema/Token$Kind;" (.ref k2_) ∧ Sta Z Z.heap "com/example/converge_to_schema/convergetoschema/schema/Token$Kind" "SYMBOL" "Lcom/example/converge_to_schema/convergetoschema/schema/Token$Kind;" (.ref k3_) ∧ Sta Z Z.heap "com/example/converge_to_schema/convergetoschema/schema/Token$Kind" "DOCUMENTATION" "Lcom/example/converge_to_schema/convergetoschema/schema/Token$Kind;" (.ref k4_) ∧ Sta Z Z.heap "com/example/converge_to_schema/convergetoschema/schema/Token$Kind" "END" "Lcom/example/converge_to_schema/convergetoschema/schema/Token$Kind;" (.ref k5_) ∧ k0_ ≠ k3_ ∧ k1_ ≠ k3_ ∧ k2_ ≠ k3_ ∧ k4_ ≠ k3_ ∧ k5_ ≠ k3_))
theorem Ctx.fm {Z : State} {a0 : Array Value} (X : Ctx Z a0) : ∃ fm : Value, Sta Z Z.heap "jdk/internal/util/Preconditions" "SIOOBE_FORMATTER" "Ljava/util/function/BiFunction;" fm ∧ fm.isRef = true := X.2.2.2.1
theorem Ctx.hw {Z : State} {a0 : Array Value} (X : Ctx Z a0) : HW a0 Z := X.1
theorem Ctx.ew {Z : State} {a0 : Array Value} (X : Ctx Z a0) : EW Z a0 EL1 := X.2.1
theorem sAtoms {Z : State} {a0 : Array Value} (hw : HW a0 Z) : ∀ a ∈ Bundle.stringAtoms, a.before a0 Z = true := fun d hd => hw d ((by decide +kernel : ∀ d ∈ Bundle.stringAtoms, d ∈ tables_1) d hd)
/-- the String at a spells cs -/
def StrF (Z : State) (h : Heap) (a : Addr) (cs : List Int32) : Prop := ∃ (t : Addr) (kb : ClassId) (cd N2 : Int32) (vs : List Value), Exa Z h a ST ∧ Fld Z h a ST "value" "[B" (.ref t) ∧ Fld Z h a ST "coder" "B" (.int cd) ∧ Arv Z h t kb .byte N2 vs (.int 0) ∧ StrChars.Road.CodA cs cd N2 vs ∧ (∀ c ∈ cs, ¬ c < 0 ∧ ¬ (65535 : Int32) < c) ∧ cs.length ≤ 4000
theorem StrF.ext {Z : State} {h h' : Heap} {a : Addr} {cs : List Int32} (F : StrF Z h a cs) (E : Ext h h') : StrF Z h' a cs := by
  obtain ⟨t, kb, cd, N2, vs, f1, f2, f3, f4, r⟩ := F; exact ⟨t, kb, cd, N2, vs, f1.ext E, f2.ext E, f3.ext E, f4.ext E, r⟩
theorem StrF.keep {Z : State} {h h' : Heap} {a x : Addr} {cs : List Int32} {C : String} {a0 : Array Value} {kk : Nat} (F : StrF Z h a cs) (K : Keep h h' [x]) (Ex : Exa Z h x C) (hC : C ≠ "java/lang/String") (wi : (Jvm.Cond.instantiable C kk).before a0 Z = true) : StrF Z h' a cs := by
  obtain ⟨t, kb, cd, N2, vs, f1, f2, f3, f4, r⟩ := F
  have n1 : a ∉ [x] := ninS (fun e => ne_exa Ex f1 hC e.symm) nin0
  have n2 : t ∉ [x] := ninS (fun e => by obtain ⟨c, A, -⟩ := f4; exact ne_arr Ex wi A e.symm) nin0
  exact ⟨t, kb, cd, N2, vs, f1.keep K, f2.keep K n1, f3.keep K n1, f4.keep K n2, r⟩
theorem StrF.exa {Z : State} {h : Heap} {a : Addr} {cs : List Int32} (F : StrF Z h a cs) : Exa Z h a ST := by obtain ⟨t, kb, cd, N2, vs, f1, r⟩ := F; exact f1
theorem StrF.lt {Z : State} {h : Heap} {a : Addr} {cs : List Int32} (F : StrF Z h a cs) : a < h.size := F.exa.lt
theorem up255 {cs : List Int32} (h : ∀ c ∈ cs, ¬ c < 0 ∧ ¬ (255 : Int32) < c) : ∀ c ∈ cs, ¬ c < 0 ∧ ¬ (65535 : Int32) < c := fun c hc => ⟨(h c hc).1, fun q => (h c hc).2 (by rw [Int32.lt_iff_toInt_lt] at q ⊢; have e1 : (65535 : Int32).toInt = 65535 := rfl; have e2 : (255 : Int32).toInt = 255 := rfl; omega)⟩
/-- a literal of EL1 is such a String -/
theorem StrF.lit {Z : State} {h : Heap} {a t : Addr} {kt : ClassId} {cs : List Int32} {z : Int32} {vs : List Value} (f1 : Exa Z h a ST) (f2 : Fld Z h a ST "coder" "B" (.int 0)) (f3 : Fld Z h a ST "value" "[B" (.ref t)) (f4 : Arv Z h t kt .byte z vs (.int 0)) (hz : z = Int32.ofNat cs.length) (hv : vs = (cs.map StrChars.lo8).map Value.int) (hp : ∀ c ∈ cs, ¬ c < 0 ∧ ¬ (255 : Int32) < c) (hl : cs.length ≤ 4000) : StrF Z h a cs := by
  subst hz hv
  exact ⟨t, kt, 0, _, _, f1, f3, f2, f4, StrChars.Road.codOf rfl (fun c hc => (hp c hc).2), up255 hp, hl⟩
theorem wdsV {Z : State} {a0 : Array Value} (hw : HW a0 Z) : ∀ d ∈ StrChars.Road.words, d.before a0 Z = true := fun d hd => hw d ((by decide +kernel : ∀ d ∈ StrChars.Road.words, d ∈ tables_1) d hd)
theorem g_newStr {p : Program} {l : Launch} {e : Env} {R : Room} {s : State} {m : MethodId} {args : Array Value} {below : List Frame} {meth : Method} {c : Code} {Z : State} {a0 : Array Value} {EL : List (String × Nat)} {n0 : Nat} {own : String} {T : State} {V : Vm} {h : Heap} {k n : Nat} {Q : Outcome → State → Prop} {pc : Nat} {Ls : Array Slot} {rest : List Value} (S : St p l e R s m args below meth c Z a0 EL n0 own T V h k n) (X : Ctx Z a0) {x b : Addr} {kC : ClassId} {cs : List Int32} {N : Int32} {dv v0 c0 : Value} {index : Nat} (l0 : 0 < cs.length) (l2 : cs.length ≤ 4000) (hN : N = Int32.ofNat cs.length) (na : n0 ≤ x) (sf : Safe Z EL V h x) (E : Exa Z h x ST) (Fv : Fld Z h x ST "value" "[B" v0) (Fc : Fld Z h x ST "coder" "B" c0) (K : Arv Z h b kC .char N (cs.map Value.int) dv) (hp : ∀ c ∈ cs, ¬ c < 0 ∧ ¬ (255 : Int32) < c)
    (wl : (Jvm.Cond.methodLink own index (⟨"java/lang/String", "<init>", "([C)V"⟩ : MethodName)).before a0 Z = true) (hd : decode c.code pc = .ok (.invokespecial index, 3)) (hsz : Ls.size = c.maxLocals) (hfr : 4 ≤ R.frames) (hlo : (rest.map fun v => v.category).sum + 65 ≤ R.locals) (hc : k + 1 ≤ R.cells) (hs : n + cs.length ≤ R.slots)
    (go : ∀ T' h', St p l e R s m args below meth c Z a0 EL n0 own T' V h' (k + 1) (n + cs.length) → Keep h h' [x] → StrF Z h' x cs → Go p e below Q (T'.setTop (mkF m (pc + 3) Ls rest))) : Go p e below Q (T.setTop (mkF m pc Ls (.ref b :: .ref x :: rest))) := by
  have hw := X.hw
  obtain ⟨z1, hz1, hz2⟩ := X.2.2.1
  refine g_specialB S (rc := 1) (rs := cs.length) (as' := #[.ref x, .ref b]) (W := (rest.map fun v => v.category).sum) (fun s' hZ' => StrChars.Road.backV hZ' (wdsV hw) (w11 hw) (n0 := n0) na S.le E Fv Fc K (hz1.ext S.old.2) hz2 rfl hN l0 l2 hp rfl hfr hlo) rfl wl (w14 hw) (w15 hw) (by decide) hd hsz x [.ref b] (lenOf pd14 rfl) rfl rfl (Nat.le_refl _) hc hs ?_ ?_
  · intro v h' L q
    exact ⟨q.2.1, [x], q.2.2.1, sfS sf sf0, allS na all0⟩
  · intro v T' h' L S' q
    obtain ⟨rfl, -, K', f1, f2, t, kb, -, -, -, f3, f4⟩ := q
    refine go T' h' S' K' ?_
    subst hN
    exact ⟨t, kb, 0, _, _, f1, f3, f2, f4, StrChars.Road.codOf rfl (fun c hc => (hp c hc).2), up255 hp, l2⟩
theorem wdsCh {Z : State} {a0 : Array Value} (hw : HW a0 Z) : ∀ d ∈ StrChars.Road.wordsChN, d.before a0 Z = true := fun d hd => hw d ((by decide +kernel : ∀ d ∈ StrChars.Road.wordsChN, d ∈ tables_1) d hd)
theorem g_strChar {p : Program} {l : Launch} {e : Env} {R : Room} {s : State} {m : MethodId} {args : Array Value} {below : List Frame} {meth : Method} {c : Code} {Z : State} {a0 : Array Value} {EL : List (String × Nat)} {n0 : Nat} {own : String} {T : State} {V : Vm} {h : Heap} {k n : Nat} {Q : Outcome → State → Prop} {pc : Nat} {Ls : Array Slot} {rest : List Value} (S : St p l e R s m args below meth c Z a0 EL n0 own T V h k n) (X : Ctx Z a0) {x : Addr} {cs : List Int32} {index i : Nat} {j : Int32} (F : StrF Z h x cs) (hlat : ∀ c ∈ cs, ¬ (255 : Int32) < c) (hi : i < cs.length) (hj : j = Int32.ofNat i) (wl : (Jvm.Cond.methodLink own index (⟨"java/lang/String", "charAt", "(I)C"⟩ : MethodName)).before a0 Z = true) (hd : decode c.code pc = .ok (.invokevirtual index, 3)) (hsz : Ls.size = c.maxLocals) (hfr : 4 ≤ R.frames) (hlo : (rest.map fun v => v.category).sum + 53 ≤ R.locals) (hc : k ≤ R.cells) (hs : n ≤ R.slots)
    (go : ∀ T', St p l e R s m args below meth c Z a0 EL n0 own T' V h k n → Go p e below Q (T'.setTop (mkF m (pc + 3) Ls (.int (cs.getD i 0) :: rest)))) : Go p e below Q (T.setTop (mkF m pc Ls (.int j :: .ref x :: rest))) := by
  have hw := X.hw
  obtain ⟨z1, hz1, hz2⟩ := X.2.2.1
  obtain ⟨fm, hfm, rfm⟩ := X.fm
  obtain ⟨t, kb, cd, N2, vs, f1, f2, f3, f4, f5, f6, f7⟩ := F
  have hcd : cd = 0 := by
    rcases f5 with ⟨q, -⟩ | ⟨-, -, -, c, hc, hb⟩
    · exact q
    · exact absurd hb (hlat c hc)
  subst hcd
  refine g_virtualB S (rc := 0) (rs := 0) (QB := fun v h' L => v = some (.int (cs.getD i 0)) ∧ L = [] ∧ h' = h) (as' := #[.ref x, .int j]) (W := (rest.map fun v => v.category).sum) (fun s' hZ' => StrChars.Road.chN hZ' (wdsCh hw) (w11 hw) f1 f2 f3 f4 f5 f6 (hz1.ext S.old.2) hz2 (hfm.ext S.old.2) rfm f7 hi hj hfr hlo) wl (w66 hw) (w68 hw) (w67 hw) (by decide) (fun _ h => notFace_of_selects h) hd hsz x f1 [.int j] (lenOf pd13 rfl) rfl rfl (Nat.le_refl _) hc hs ?_ ?_
  · intro v h' L q
    obtain ⟨-, rfl, rfl⟩ := q
    exact ⟨Fr.nil n0, [], Keep.refl _ _, sf0, all0⟩
  · intro v T' h' L S' q
    obtain ⟨rfl, rfl, rfl⟩ := q
    exact go T' S'
theorem tlt_no {x y : Int32} (h : ¬ y < x) : if_icmp.holds .gt x y = false := (flt h).2.2.1
theorem lo8_lo8 (x : Int32) : StrChars.lo8 (StrChars.lo8 x) = StrChars.lo8 x := by simp [StrChars.lo8]
theorem own_shr0 (c : Int32) : c >>> ((0 : Int32) &&& 31) = c := by
  apply Int32.toBitVec_inj.mp
  rw [Int32.toBitVec_shiftRight]
  have e : (((0 : Int32) &&& 31).toBitVec.smod 32) = 0#32 := by decide
  rw [e]
  exact BitVec.sshiftRight_zero
theorem own_pcLo (c : Int32) : nar .byte ((c >>> ((0 : Int32) &&& 31)).toInt8.toInt32) = StrChars.lo8 c := by
  show StrChars.lo8 (StrChars.lo8 (c >>> ((0 : Int32) &&& 31))) = _
  rw [lo8_lo8, own_shr0]
theorem own_pcHi (c : Int32) : nar .byte ((c >>> ((8 : Int32) &&& 31)).toInt8.toInt32) = StrChars.hi8 c := lo8_lo8 _
theorem own_nb (c : Int32) : nar .byte (c.toInt8.toInt32) = StrChars.lo8 c := lo8_lo8 c
theorem own_pair {c : Int32} (h : ¬ c < 0 ∧ ¬ (65535 : Int32) < c) : (((StrChars.lo8 c &&& (255 : Int32)) <<< ((0 : Int32) &&& 31)) ||| ((StrChars.hi8 c &&& (255 : Int32)) <<< ((8 : Int32) &&& 31))).toUInt32.toUInt16.toUInt32.toInt32 = c := StrChars.pair_says h.1 h.2
theorem own_ex1 {c0 : Int32} (h : (255 : Int32) < c0) : ∃ c ∈ [c0], (255 : Int32) < c := by
  exact ⟨c0, by simp, h⟩
theorem own_ex2 {c0 c1 : Int32} (h : (255 : Int32) < c0 ∨ (255 : Int32) < c1) : ∃ c ∈ [c0, c1], (255 : Int32) < c := by
  rcases h with h | h
  · exact ⟨c0, by simp, h⟩
  · exact ⟨c1, by simp, h⟩
theorem own_mod6 (k n : Int32) (e : (k &&& (2147483647 : Int32)) % (6 : Int32) = n) : n = 0 ∨ n = 1 ∨ n = 2 ∨ n = 3 ∨ n = 4 ∨ n = 5 := by
  subst e
  have q := c_mask k 2147483647 31 (by decide) (by decide)
  have r := (c_irem (k &&& 2147483647) 6 6 rfl).1
  have hlt : ∀ x : Int32, 0 ≤ x.toInt → x.toInt < 6 → x = 0 ∨ x = 1 ∨ x = 2 ∨ x = 3 ∨ x = 4 ∨ x = 5 := fun x h1 h2 => by
    have e0 : (0 : Int32).toInt = 0 := rfl
    have e1 : (1 : Int32).toInt = 1 := rfl
    have e2 : (2 : Int32).toInt = 2 := rfl
    have e3 : (3 : Int32).toInt = 3 := rfl
    have e4 : (4 : Int32).toInt = 4 := rfl
    have e5 : (5 : Int32).toInt = 5 := rfl
    simp only [← Int32.toInt_inj, e0, e1, e2, e3, e4, e5]
    omega
  exact hlt _ (by rw [r (by omega)]; omega) (by rw [r (by omega)]; omega)
theorem own_i2c (x : Int32) : ¬ x.toUInt32.toUInt16.toUInt32.toInt32 < 0 ∧ ¬ (65535 : Int32) < x.toUInt32.toUInt16.toUInt32.toInt32 := by
  have q := c_i2c x
  have e1 : (65535 : Int32).toInt = 65535 := rfl
  have e2 : (0 : Int32).toInt = 0 := rfl
  rw [Int32.lt_iff_toInt_lt, Int32.lt_iff_toInt_lt]
  omega
theorem own_mod3 (k n : Int32) (e : (k &&& (3 : Int32)) % (3 : Int32) = n) : n = 0 ∨ n = 1 ∨ n = 2 := by
  subst e
  have q := c_mask k 3 2 (by decide) (by decide)
  have r := (c_irem (k &&& 3) 3 3 rfl).1
  have hlt : ∀ x : Int32, 0 ≤ x.toInt → x.toInt < 3 → x = 0 ∨ x = 1 ∨ x = 2 := fun x h1 h2 => by
    have e0 : (0 : Int32).toInt = 0 := rfl
    have e1 : (1 : Int32).toInt = 1 := rfl
    have e2 : (2 : Int32).toInt = 2 := rfl
    simp only [← Int32.toInt_inj, e0, e1, e2]
    omega
  exact hlt _ (by rw [r (by omega)]; omega) (by rw [r (by omega)]; omega)

end Jvm.Pilot.@@N@@

namespace Jvm.Pilot.@@N@@
open Jvm Jvm.ClassFile Sem Op Lib Jvm.Free Jvm.Stand Jvm.LawKit Jvm.RoadKit Jvm.OwnKit Bundle Jvm.Pilot.@@N@@.Jvm.D
theorem dN4_0 : decode jdk_42_method_149_code 0 = .ok (.aload_n 0, 1) := by decide +kernel
theorem dN4_1 : decode jdk_42_method_149_code 1 = .ok (.invokespecial 1, 3) := by decide +kernel
theorem dN4_4 : decode jdk_42_method_149_code 4 = .ok (.iload_n 3, 1) := by decide +kernel
theorem dN4_5 : decode jdk_42_method_149_code 5 = .ok (.ifCond .ne 22, 3) := by decide +kernel
theorem dN4_8 : decode jdk_42_method_149_code 8 = .ok (.aload_n 0, 1) := by decide +kernel
theorem dN4_9 : decode jdk_42_method_149_code 9 = .ok (.ldc 7, 2) := by decide +kernel
theorem dN4_11 : decode jdk_42_method_149_code 11 = .ok (.getfield 9, 3) := by decide +kernel
theorem dN4_14 : decode jdk_42_method_149_code 14 = .ok (.putfield 9, 3) := by decide +kernel
theorem dN4_17 : decode jdk_42_method_149_code 17 = .ok (.aload_n 0, 1) := by decide +kernel
theorem dN4_18 : decode jdk_42_method_149_code 18 = .ok (.ldc 7, 2) := by decide +kernel
theorem dN4_20 : decode jdk_42_method_149_code 20 = .ok (.getfield 15, 3) := by decide +kernel
theorem dN4_23 : decode jdk_42_method_149_code 23 = .ok (.putfield 15, 3) := by decide +kernel
theorem dN4_26 : decode jdk_42_method_149_code 26 = .ok (.return_, 1) := by decide +kernel
set_option maxRecDepth 65536 in
set_option maxHeartbeats 40000000 in
theorem rmN4 {l : Launch} {Z : State} {a0 : Array Value} {n0 : Nat} (X : Ctx Z a0) {x b : Addr} {v0 c0 : Value} (na : n0 ≤ x) {h : Heap} (hO : Old Z n0 h) (E : Exa Z h x ST) (Fv : Fld Z h x ST "value" "[B" v0) (Fc : Fld Z h x ST "coder" "B" c0) :
    Ctr l Z EL1 n0 (⟨"java/lang/String", "<init>", "([CIILjava/lang/Void;)V"⟩ : MethodName) jdk_42_method_149_code 6 none ({ frames := 1, cells := 4, slots := 8, locals := 14 } : Room) #[(.ref x), (.ref b), (.int (0 : Int32)), (.int (0 : Int32)), .null] h [x] (fun v h' => v = none ∧ Keep h h' [x] ∧ StrF Z h' x []) := by
  have hw := X.hw
  obtain ⟨z1, hz1, hz2⟩ := X.2.2.1
  refine Ctr.intro (a0 := a0) (plainFor_of_name pn1) hO X.ew ?_
  intro p e s m below meth c T0 V0 S0 hby hml hret hnm hsf
  rw [ef7]
  refine s_aloadN S0 (hb hby dN4_0) rfl rfl (pc' := 1) rfl ?_
  refine g_initO S0 (w20 hw) (w21 hw) (w22 hw) (by rw [hml]; rfl) (hb hby dN4_1) (Nat.le_of_ble_eq_true rfl) (Nat.le_of_ble_eq_true rfl) ?_
  intro T305 ST305
  show Go p e below _ (T305.setTop (mkF m 4 #[.val (.ref x), .val (.ref b), .val (.int (0 : Int32)), .val (.int (0 : Int32)), .val .null, .unset] []))
  refine s_iloadN ST305 (hb hby dN4_4) rfl (pc' := 5) rfl ?_
  refine s_ifN ST305 (hb hby dN4_5) (by decide) (pc' := 8) rfl ?_
  refine s_aloadN ST305 (hb hby dN4_8) rfl rfl (pc' := 9) rfl ?_
  show Go p e below _ (T305.setTop (mkF m 9 #[.val (.ref x), .val (.ref b), .val (.int (0 : Int32)), .val (.int (0 : Int32)), .val .null, .unset] [(.ref x)]))
  refine g_ldcS ST305 (hw _ (List.mem_of_getElem? (i := 23) rfl)) (sAtoms hw) (by decide) (vs := []) (z := (0 : Int32)) ⟨by decide +kernel, by decide +kernel⟩ (by decide) rfl (hb hby dN4_9) (b := 0) (by decide +kernel) (by decide) (Nat.le_of_ble_eq_true rfl) (Nat.le_of_ble_eq_true rfl) ?_
  intro b306 T306 V306 h306 t306 kt306 S306 E306 C306 f306a f306b f306c f306d f306e
  have sf307 := C306.safe E.lt (hsf x List.mem_cons_self)
  have F306 : StrF Z h306 b306 [] := StrF.lit f306a f306b f306c f306d rfl rfl (by decide) (by decide)
  show Go p e below _ (T306.setTop (mkF m 11 #[.val (.ref x), .val (.ref b), .val (.int (0 : Int32)), .val (.int (0 : Int32)), .val .null, .unset] [(.ref b306), (.ref x)]))
  refine g_getF S306 (w29 hw) Via.refl f306c (hb hby dN4_11) ?_
  intro T91 S91
  show Go p e below _ (T91.setTop (mkF m 14 #[.val (.ref x), .val (.ref b), .val (.int (0 : Int32)), .val (.int (0 : Int32)), .val .null, .unset] [(.ref t306), (.ref x)]))
  have Ex1 := E.ext E306
  have Fv1 := Fv.ext E306
  have Fc1 := Fc.ext E306
  have ne1 := f306e x sf307
  refine g_putF S91 (w29 hw) Via.refl Fv1 Ex1 (Or.inr ⟨(w25 hw), rfl, hnm⟩) (w11 hw) (ty := .array .byte) (by decide) rfl rfl na sf307 (hb hby dN4_14) ?_
  intro T92 h92 S92 K92 W92 Ex2 Fv2 sf92
  have Fc2 := Fc1.other W92 (Or.inr (slot_ne (Or.inr (w26 hw)) (Or.inr (w25 hw)) (by decide) (t := .byte) (t' := .array .byte) (by decide) (by decide)))
  have At2 := f306d.keep K92 (ninS (Ne.symm ne1.2) nin0)
  show Go p e below _ (T92.setTop (mkF m 17 #[.val (.ref x), .val (.ref b), .val (.int (0 : Int32)), .val (.int (0 : Int32)), .val .null, .unset] []))
  refine s_aloadN S92 (hb hby dN4_17) rfl rfl (pc' := 18) rfl ?_
  show Go p e below _ (T92.setTop (mkF m 18 #[.val (.ref x), .val (.ref b), .val (.int (0 : Int32)), .val (.int (0 : Int32)), .val .null, .unset] [(.ref x)]))
  refine g_ldcS S92 (hw _ (List.mem_of_getElem? (i := 23) rfl)) (sAtoms hw) (by decide) (vs := []) (z := (0 : Int32)) ⟨by decide +kernel, by decide +kernel⟩ (by decide) rfl (hb hby dN4_18) (b := 0) (by decide +kernel) (by decide) (Nat.le_of_ble_eq_true rfl) (Nat.le_of_ble_eq_true rfl) ?_
  intro b308 T308 V308 h308 t308 kt308 S308 E308 C308 f308a f308b f308c f308d f308e
  have sf309 := C308.safe Ex2.lt sf92
  have F308 : StrF Z h308 b308 [] := StrF.lit f308a f308b f308c f308d rfl rfl (by decide) (by decide)
  show Go p e below _ (T308.setTop (mkF m 20 #[.val (.ref x), .val (.ref b), .val (.int (0 : Int32)), .val (.int (0 : Int32)), .val .null, .unset] [(.ref b308), (.ref x)]))
  refine g_getF S308 (w30 hw) Via.refl f308b (hb hby dN4_20) ?_
  intro T93 S93
  show Go p e below _ (T93.setTop (mkF m 23 #[.val (.ref x), .val (.ref b), .val (.int (0 : Int32)), .val (.int (0 : Int32)), .val .null, .unset] [(.int (0 : Int32)), (.ref x)]))
  refine g_putF S93 (w30 hw) Via.refl (Fc2.ext E308) (Ex2.ext E308) (Or.inr ⟨(w26 hw), rfl, hnm⟩) (w11 hw) (ty := .byte) (v' := .int 0) (by decide) rfl rfl na sf309 (hb hby dN4_23) ?_
  intro T94 h94 S94 K94 W94 Ex4 Fc4 sf94
  have Fv4 := (Fv2.ext E308).other W94 (Or.inr (slot_ne (Or.inr (w25 hw)) (Or.inr (w26 hw)) (by decide) (t := .array .byte) (t' := .byte) (by decide) (by decide)))
  have ne2 : t306 ≠ x := Ne.symm ne1.2
  have At4 := (At2.ext E308).keep K94 (ninS ne2 nin0)
  have KK : Keep h h94 [x] := ((((Keep.refl h [x]).ext E306).trans K92 (fun y hy => Or.inl hy)).ext E308).trans K94 (fun y hy => Or.inl hy)
  show Go p e below _ (T94.setTop (mkF m 26 #[.val (.ref x), .val (.ref b), .val (.int (0 : Int32)), .val (.int (0 : Int32)), .val .null, .unset] []))
  exact g_ret S94 (hb hby dN4_26) hret ⟨rfl, KK, t306, kt306, 0, _, _, Ex4, Fv4, Fc4, At4, StrChars.Road.codOf (cs := []) rfl fa0, fa0, by decide⟩
theorem dN1_0 : decode jdk_42_method_3_code 0 = .ok (.aload_n 0, 1) := by decide +kernel
theorem dN1_1 : decode jdk_42_method_3_code 1 = .ok (.aload_n 1, 1) := by decide +kernel
theorem dN1_2 : decode jdk_42_method_3_code 2 = .ok (.iconst 0, 1) := by decide +kernel
theorem dN1_3 : decode jdk_42_method_3_code 3 = .ok (.aload_n 1, 1) := by decide +kernel
theorem dN1_4 : decode jdk_42_method_3_code 4 = .ok (.arraylength, 1) := by decide +kernel
theorem dN1_5 : decode jdk_42_method_3_code 5 = .ok (.aconst_null, 1) := by decide +kernel
theorem dN1_6 : decode jdk_42_method_3_code 6 = .ok (.invokespecial 27, 3) := by decide +kernel
theorem dN1_9 : decode jdk_42_method_3_code 9 = .ok (.return_, 1) := by decide +kernel
set_option maxRecDepth 65536 in
set_option maxHeartbeats 40000000 in
theorem rmN1 {l : Launch} {Z : State} {a0 : Array Value} {n0 : Nat} (X : Ctx Z a0) {x b : Addr} {kb : ClassId} {v0 c0 dv : Value} {vs : List Value} (na : n0 ≤ x) {h : Heap} (hO : Old Z n0 h) (E : Exa Z h x ST) (Fv : Fld Z h x ST "value" "[B" v0) (Fc : Fld Z h x ST "coder" "B" c0) (Vb : Arv Z h b kb .char (0 : Int32) vs dv) :
    Ctr l Z EL1 n0 (⟨"java/lang/String", "<init>", "([C)V"⟩ : MethodName) jdk_42_method_3_code 2 none ({ frames := 2, cells := 4, slots := 8, locals := 33 } : Room) #[(.ref x), (.ref b)] h [x] (fun v h' => v = none ∧ Keep h h' [x] ∧ StrF Z h' x []) := by
  have hw := X.hw
  obtain ⟨z1, hz1, hz2⟩ := X.2.2.1
  refine Ctr.intro (a0 := a0) (plainFor_of_name pn1) hO X.ew ?_
  intro p e s m below meth c T0 V0 S0 hby hml hret hnm hsf
  rw [ef8]
  refine s_aloadN S0 (hb hby dN1_0) rfl rfl (pc' := 1) rfl ?_
  refine s_aloadN S0 (hb hby dN1_1) rfl rfl (pc' := 2) rfl ?_
  refine s_iconst S0 (hb hby dN1_2) (v := (0 : Int32)) rfl (pc' := 3) rfl ?_
  refine s_aloadN S0 (hb hby dN1_3) rfl rfl (pc' := 4) rfl ?_
  refine g_len S0 Vb (hb hby dN1_4) ?_
  show Go p e below _ (T0.setTop (mkF m 5 #[.val (.ref x), .val (.ref b)] [(.int (0 : Int32)), (.int (0 : Int32)), (.ref b), (.ref x)]))
  refine s_null S0 (hb hby dN1_5) (pc' := 6) rfl ?_
  show Go p e below _ (T0.setTop (mkF m 6 #[.val (.ref x), .val (.ref b)] [.null, (.int (0 : Int32)), (.int (0 : Int32)), (.ref b), (.ref x)]))
  refine g_special S0 (rmN4 X na S0.old E Fv Fc) (sf1 E.lt (hsf x List.mem_cons_self)) rfl (w16 hw) (w17 hw) (w12 hw) (w19 hw) (by decide) (hb hby dN1_6) (by rw [hml]; rfl) x [(.ref b), (.int (0 : Int32)), (.int (0 : Int32)), .null] (lenOf pd7 rfl) rfl rfl (Nat.le_of_ble_eq_true rfl) (Nat.le_of_ble_eq_true rfl) (Nat.le_of_ble_eq_true rfl) (Nat.le_of_ble_eq_true rfl) ?_
  intro v310 T310 V310 h310 S310 C310 q310
  obtain ⟨rfl, K61, F61⟩ := q310
  show Go p e below _ (T310.setTop (mkF m 9 #[.val (.ref x), .val (.ref b)] []))
  exact g_ret S310 (hb hby dN1_9) hret ⟨rfl, K61, F61⟩
theorem dUL1_0 : decode jdk_52_method_6_code 0 = .ok (.aload_n 0, 1) := by decide +kernel
theorem dUL1_1 : decode jdk_52_method_6_code 1 = .ok (.arraylength, 1) := by decide +kernel
theorem dUL1_2 : decode jdk_52_method_6_code 2 = .ok (.iconst 1, 1) := by decide +kernel
theorem dUL1_3 : decode jdk_52_method_6_code 3 = .ok (.ishr, 1) := by decide +kernel
theorem dUL1_4 : decode jdk_52_method_6_code 4 = .ok (.ireturn, 1) := by decide +kernel
set_option maxRecDepth 65536 in
set_option maxHeartbeats 40000000 in
theorem rmUL1 {l : Launch} {Z : State} {a0 : Array Value} {n0 : Nat} (X : Ctx Z a0) {u : Addr} {ku : ClassId} {vs : List Value} {dv : Value} {h : Heap} (hO : Old Z n0 h) (Vu : Arv Z h u ku .byte (2 : Int32) vs dv) :
    Ctr l Z EL1 n0 (⟨"java/lang/StringUTF16", "length", "([B)I"⟩ : MethodName) jdk_52_method_6_code 1 (some .int) ({ frames := 0, cells := 0, slots := 0, locals := 0 } : Room) #[(.ref u)] h [] (fun v h' => v = some (.int (1 : Int32)) ∧ h' = h) := by
  have hw := X.hw
  obtain ⟨z1, hz1, hz2⟩ := X.2.2.1
  refine Ctr.intro (a0 := a0) (plainFor_of_name pn0) hO X.ew ?_
  intro p e s m below meth c T0 V0 S0 hby hml hret hnm hsf
  rw [ef0]
  refine s_aloadN S0 (hb hby dUL1_0) rfl rfl (pc' := 1) rfl ?_
  refine g_len S0 Vu (hb hby dUL1_1) ?_
  show Go p e below _ (T0.setTop (mkF m 2 #[.val (.ref u)] [(.int (2 : Int32))]))
  refine s_iconst S0 (hb hby dUL1_2) (v := (1 : Int32)) rfl (pc' := 3) rfl ?_
  refine s_ishr S0 (hb hby dUL1_3) (z := (1 : Int32)) (by decide) (pc' := 4) rfl ?_
  exact g_iret S0 (hb hby dUL1_4) hret ⟨rfl, rfl⟩
theorem dUL2_0 : decode jdk_52_method_6_code 0 = .ok (.aload_n 0, 1) := by decide +kernel
theorem dUL2_1 : decode jdk_52_method_6_code 1 = .ok (.arraylength, 1) := by decide +kernel
theorem dUL2_2 : decode jdk_52_method_6_code 2 = .ok (.iconst 1, 1) := by decide +kernel
theorem dUL2_3 : decode jdk_52_method_6_code 3 = .ok (.ishr, 1) := by decide +kernel
theorem dUL2_4 : decode jdk_52_method_6_code 4 = .ok (.ireturn, 1) := by decide +kernel
set_option maxRecDepth 65536 in
set_option maxHeartbeats 40000000 in
theorem rmUL2 {l : Launch} {Z : State} {a0 : Array Value} {n0 : Nat} (X : Ctx Z a0) {u : Addr} {ku : ClassId} {vs : List Value} {dv : Value} {h : Heap} (hO : Old Z n0 h) (Vu : Arv Z h u ku .byte (4 : Int32) vs dv) :
    Ctr l Z EL1 n0 (⟨"java/lang/StringUTF16", "length", "([B)I"⟩ : MethodName) jdk_52_method_6_code 1 (some .int) ({ frames := 0, cells := 0, slots := 0, locals := 0 } : Room) #[(.ref u)] h [] (fun v h' => v = some (.int (2 : Int32)) ∧ h' = h) := by
  have hw := X.hw
  obtain ⟨z1, hz1, hz2⟩ := X.2.2.1
  refine Ctr.intro (a0 := a0) (plainFor_of_name pn0) hO X.ew ?_
  intro p e s m below meth c T0 V0 S0 hby hml hret hnm hsf
  rw [ef0]
  refine s_aloadN S0 (hb hby dUL2_0) rfl rfl (pc' := 1) rfl ?_
  refine g_len S0 Vu (hb hby dUL2_1) ?_
  show Go p e below _ (T0.setTop (mkF m 2 #[.val (.ref u)] [(.int (4 : Int32))]))
  refine s_iconst S0 (hb hby dUL2_2) (v := (1 : Int32)) rfl (pc' := 3) rfl ?_
  refine s_ishr S0 (hb hby dUL2_3) (z := (2 : Int32)) (by decide) (pc' := 4) rfl ?_
  exact g_iret S0 (hb hby dUL2_4) hret ⟨rfl, rfl⟩
theorem dGC10_0 : decode jdk_52_method_5_code 0 = .ok (.getstatic 44, 3) := by decide +kernel
theorem dGC10_3 : decode jdk_52_method_5_code 3 = .ok (.ifCond .ne 25, 3) := by decide +kernel
theorem dGC10_28 : decode jdk_52_method_5_code 28 = .ok (.iload_n 1, 1) := by decide +kernel
theorem dGC10_29 : decode jdk_52_method_5_code 29 = .ok (.iconst 1, 1) := by decide +kernel
theorem dGC10_30 : decode jdk_52_method_5_code 30 = .ok (.ishl, 1) := by decide +kernel
theorem dGC10_31 : decode jdk_52_method_5_code 31 = .ok (.istore_n 1, 1) := by decide +kernel
theorem dGC10_32 : decode jdk_52_method_5_code 32 = .ok (.aload_n 0, 1) := by decide +kernel
theorem dGC10_33 : decode jdk_52_method_5_code 33 = .ok (.iload_n 1, 1) := by decide +kernel
theorem dGC10_34 : decode jdk_52_method_5_code 34 = .ok (.iinc 1 1, 3) := by decide +kernel
theorem dGC10_37 : decode jdk_52_method_5_code 37 = .ok (.baload, 1) := by decide +kernel
theorem dGC10_38 : decode jdk_52_method_5_code 38 = .ok (.sipush 255, 3) := by decide +kernel
theorem dGC10_41 : decode jdk_52_method_5_code 41 = .ok (.iand, 1) := by decide +kernel
theorem dGC10_42 : decode jdk_52_method_5_code 42 = .ok (.getstatic 59, 3) := by decide +kernel
theorem dGC10_45 : decode jdk_52_method_5_code 45 = .ok (.ishl, 1) := by decide +kernel
theorem dGC10_46 : decode jdk_52_method_5_code 46 = .ok (.aload_n 0, 1) := by decide +kernel
theorem dGC10_47 : decode jdk_52_method_5_code 47 = .ok (.iload_n 1, 1) := by decide +kernel
theorem dGC10_48 : decode jdk_52_method_5_code 48 = .ok (.baload, 1) := by decide +kernel
theorem dGC10_49 : decode jdk_52_method_5_code 49 = .ok (.sipush 255, 3) := by decide +kernel
theorem dGC10_52 : decode jdk_52_method_5_code 52 = .ok (.iand, 1) := by decide +kernel
theorem dGC10_53 : decode jdk_52_method_5_code 53 = .ok (.getstatic 63, 3) := by decide +kernel
theorem dGC10_56 : decode jdk_52_method_5_code 56 = .ok (.ishl, 1) := by decide +kernel
theorem dGC10_57 : decode jdk_52_method_5_code 57 = .ok (.ior, 1) := by decide +kernel
theorem dGC10_58 : decode jdk_52_method_5_code 58 = .ok (.i2c, 1) := by decide +kernel
theorem dGC10_59 : decode jdk_52_method_5_code 59 = .ok (.ireturn, 1) := by decide +kernel
set_option maxRecDepth 65536 in
set_option maxHeartbeats 40000000 in
theorem rmGC10 {l : Launch} {Z : State} {a0 : Array Value} {n0 : Nat} (X : Ctx Z a0) {u : Addr} {ku : ClassId} {c0 : Int32} {h : Heap} (hO : Old Z n0 h) (Vu : Arv Z h u ku .byte (2 : Int32) [(.int (StrChars.lo8 c0)), (.int (StrChars.hi8 c0))] (.int (0 : Int32))) (r : ¬ c0 < 0 ∧ ¬ (65535 : Int32) < c0) :
    Ctr l Z EL1 n0 (⟨"java/lang/StringUTF16", "getChar", "([BI)C"⟩ : MethodName) jdk_52_method_5_code 2 (some .char) ({ frames := 0, cells := 0, slots := 0, locals := 0 } : Room) #[(.ref u), (.int (0 : Int32))] h [] (fun v h' => v = some (.int c0) ∧ h' = h) := by
  have hw := X.hw
  obtain ⟨z1, hz1, hz2⟩ := X.2.2.1
  refine Ctr.intro (a0 := a0) (plainFor_of_name pn0) hO X.ew ?_
  intro p e s m below meth c T0 V0 S0 hby hml hret hnm hsf
  rw [ef1]
  have hw16 := X.2.2.2.2
  show Go p e below _ (T0.setTop (mkF m 0 #[.val (.ref u), .val (.int (0 : Int32))] []))
  refine g_getS S0 (w104 hw) Via.refl (hw16.1.ext S0.old.2) (hb hby dGC10_0) ?_
  intro T156 ST156
  show Go p e below _ (T156.setTop (mkF m 3 #[.val (.ref u), .val (.int (0 : Int32))] [(.int (1 : Int32))]))
  refine s_ifY ST156 (hb hby dGC10_3) (by decide) (by decide) (pcT := 28) (by decide) ?_
  refine s_iloadN ST156 (hb hby dGC10_28) rfl (pc' := 29) rfl ?_
  refine s_iconst ST156 (hb hby dGC10_29) (v := (1 : Int32)) rfl (pc' := 30) rfl ?_
  refine s_ishl ST156 (hb hby dGC10_30) (z := (0 : Int32)) (by decide) (pc' := 31) rfl ?_
  refine s_istoreN ST156 (hb hby dGC10_31) (L' := #[.val (.ref u), .val (.int (0 : Int32))]) rfl (pc' := 32) rfl ?_
  refine s_aloadN ST156 (hb hby dGC10_32) rfl rfl (pc' := 33) rfl ?_
  refine s_iloadN ST156 (hb hby dGC10_33) rfl (pc' := 34) rfl ?_
  refine s_iinc ST156 (hb hby dGC10_34) rfl (z := (1 : Int32)) rfl (L' := #[.val (.ref u), .val (.int (1 : Int32))]) rfl (pc' := 37) rfl ?_
  refine g_baload ST156 Vu ⟨by decide, by decide⟩ (x := (StrChars.lo8 c0)) rfl (hb hby dGC10_37) ?_
  show Go p e below _ (T156.setTop (mkF m 38 #[.val (.ref u), .val (.int (1 : Int32))] [(.int (StrChars.lo8 c0))]))
  refine s_sipush ST156 (hb hby dGC10_38) (v := (255 : Int32)) rfl (pc' := 41) rfl ?_
  refine s_iand ST156 (hb hby dGC10_41) (z := ((StrChars.lo8 c0) &&& (255 : Int32))) rfl (pc' := 42) rfl ?_
  refine g_getS ST156 (w105 hw) Via.refl (hw16.2.1.ext ST156.old.2) (hb hby dGC10_42) ?_
  intro T157 ST157
  show Go p e below _ (T157.setTop (mkF m 45 #[.val (.ref u), .val (.int (1 : Int32))] [(.int (0 : Int32)), (.int ((StrChars.lo8 c0) &&& (255 : Int32)))]))
  refine s_ishl ST157 (hb hby dGC10_45) (z := (((StrChars.lo8 c0) &&& (255 : Int32)) <<< ((0 : Int32) &&& 31))) rfl (pc' := 46) rfl ?_
  refine s_aloadN ST157 (hb hby dGC10_46) rfl rfl (pc' := 47) rfl ?_
  refine s_iloadN ST157 (hb hby dGC10_47) rfl (pc' := 48) rfl ?_
  refine g_baload ST157 Vu ⟨by decide, by decide⟩ (x := (StrChars.hi8 c0)) rfl (hb hby dGC10_48) ?_
  show Go p e below _ (T157.setTop (mkF m 49 #[.val (.ref u), .val (.int (1 : Int32))] [(.int (StrChars.hi8 c0)), (.int (((StrChars.lo8 c0) &&& (255 : Int32)) <<< ((0 : Int32) &&& 31)))]))
  refine s_sipush ST157 (hb hby dGC10_49) (v := (255 : Int32)) rfl (pc' := 52) rfl ?_
  refine s_iand ST157 (hb hby dGC10_52) (z := ((StrChars.hi8 c0) &&& (255 : Int32))) rfl (pc' := 53) rfl ?_
  refine g_getS ST157 (w106 hw) Via.refl (hw16.2.2.1.ext ST157.old.2) (hb hby dGC10_53) ?_
  intro T158 ST158
  show Go p e below _ (T158.setTop (mkF m 56 #[.val (.ref u), .val (.int (1 : Int32))] [(.int (8 : Int32)), (.int ((StrChars.hi8 c0) &&& (255 : Int32))), (.int (((StrChars.lo8 c0) &&& (255 : Int32)) <<< ((0 : Int32) &&& 31)))]))
  refine s_ishl ST158 (hb hby dGC10_56) (z := (((StrChars.hi8 c0) &&& (255 : Int32)) <<< ((8 : Int32) &&& 31))) rfl (pc' := 57) rfl ?_
  refine s_ior ST158 (hb hby dGC10_57) (z := ((((StrChars.lo8 c0) &&& (255 : Int32)) <<< ((0 : Int32) &&& 31)) ||| (((StrChars.hi8 c0) &&& (255 : Int32)) <<< ((8 : Int32) &&& 31)))) rfl (pc' := 58) rfl ?_
  refine s_i2c ST158 (hb hby dGC10_58) (z := (((((StrChars.lo8 c0) &&& (255 : Int32)) <<< ((0 : Int32) &&& 31)) ||| (((StrChars.hi8 c0) &&& (255 : Int32)) <<< ((8 : Int32) &&& 31))).toUInt32.toUInt16.toUInt32.toInt32)) rfl (pc' := 59) rfl ?_
  show Go p e below _ (T158.setTop (mkF m 59 #[.val (.ref u), .val (.int (1 : Int32))] [(.int (((((StrChars.lo8 c0) &&& (255 : Int32)) <<< ((0 : Int32) &&& 31)) ||| (((StrChars.hi8 c0) &&& (255 : Int32)) <<< ((8 : Int32) &&& 31))).toUInt32.toUInt16.toUInt32.toInt32))]))
  rw [own_pair r]
  show Go p e below _ (T158.setTop (mkF m 59 #[.val (.ref u), .val (.int (1 : Int32))] [(.int c0)]))
  exact g_iretN ST158 (hb hby dGC10_59) hret (by simp) ⟨by rw [narC r], rfl⟩
theorem dGC20_0 : decode jdk_52_method_5_code 0 = .ok (.getstatic 44, 3) := by decide +kernel
theorem dGC20_3 : decode jdk_52_method_5_code 3 = .ok (.ifCond .ne 25, 3) := by decide +kernel
theorem dGC20_28 : decode jdk_52_method_5_code 28 = .ok (.iload_n 1, 1) := by decide +kernel
theorem dGC20_29 : decode jdk_52_method_5_code 29 = .ok (.iconst 1, 1) := by decide +kernel
theorem dGC20_30 : decode jdk_52_method_5_code 30 = .ok (.ishl, 1) := by decide +kernel
theorem dGC20_31 : decode jdk_52_method_5_code 31 = .ok (.istore_n 1, 1) := by decide +kernel
theorem dGC20_32 : decode jdk_52_method_5_code 32 = .ok (.aload_n 0, 1) := by decide +kernel
theorem dGC20_33 : decode jdk_52_method_5_code 33 = .ok (.iload_n 1, 1) := by decide +kernel
theorem dGC20_34 : decode jdk_52_method_5_code 34 = .ok (.iinc 1 1, 3) := by decide +kernel
theorem dGC20_37 : decode jdk_52_method_5_code 37 = .ok (.baload, 1) := by decide +kernel
theorem dGC20_38 : decode jdk_52_method_5_code 38 = .ok (.sipush 255, 3) := by decide +kernel
theorem dGC20_41 : decode jdk_52_method_5_code 41 = .ok (.iand, 1) := by decide +kernel
theorem dGC20_42 : decode jdk_52_method_5_code 42 = .ok (.getstatic 59, 3) := by decide +kernel
theorem dGC20_45 : decode jdk_52_method_5_code 45 = .ok (.ishl, 1) := by decide +kernel
theorem dGC20_46 : decode jdk_52_method_5_code 46 = .ok (.aload_n 0, 1) := by decide +kernel
theorem dGC20_47 : decode jdk_52_method_5_code 47 = .ok (.iload_n 1, 1) := by decide +kernel
theorem dGC20_48 : decode jdk_52_method_5_code 48 = .ok (.baload, 1) := by decide +kernel
theorem dGC20_49 : decode jdk_52_method_5_code 49 = .ok (.sipush 255, 3) := by decide +kernel
theorem dGC20_52 : decode jdk_52_method_5_code 52 = .ok (.iand, 1) := by decide +kernel
theorem dGC20_53 : decode jdk_52_method_5_code 53 = .ok (.getstatic 63, 3) := by decide +kernel
theorem dGC20_56 : decode jdk_52_method_5_code 56 = .ok (.ishl, 1) := by decide +kernel
theorem dGC20_57 : decode jdk_52_method_5_code 57 = .ok (.ior, 1) := by decide +kernel
theorem dGC20_58 : decode jdk_52_method_5_code 58 = .ok (.i2c, 1) := by decide +kernel
theorem dGC20_59 : decode jdk_52_method_5_code 59 = .ok (.ireturn, 1) := by decide +kernel
set_option maxRecDepth 65536 in
set_option maxHeartbeats 40000000 in
theorem rmGC20 {l : Launch} {Z : State} {a0 : Array Value} {n0 : Nat} (X : Ctx Z a0) {u : Addr} {ku : ClassId} {c0 c1 : Int32} {h : Heap} (hO : Old Z n0 h) (Vu : Arv Z h u ku .byte (4 : Int32) [(.int (StrChars.lo8 c0)), (.int (StrChars.hi8 c0)), (.int (StrChars.lo8 c1)), (.int (StrChars.hi8 c1))] (.int (0 : Int32))) (r : ¬ c0 < 0 ∧ ¬ (65535 : Int32) < c0) :
    Ctr l Z EL1 n0 (⟨"java/lang/StringUTF16", "getChar", "([BI)C"⟩ : MethodName) jdk_52_method_5_code 2 (some .char) ({ frames := 0, cells := 0, slots := 0, locals := 0 } : Room) #[(.ref u), (.int (0 : Int32))] h [] (fun v h' => v = some (.int c0) ∧ h' = h) := by
  have hw := X.hw
  obtain ⟨z1, hz1, hz2⟩ := X.2.2.1
  refine Ctr.intro (a0 := a0) (plainFor_of_name pn0) hO X.ew ?_
  intro p e s m below meth c T0 V0 S0 hby hml hret hnm hsf
  rw [ef1]
  have hw16 := X.2.2.2.2
  show Go p e below _ (T0.setTop (mkF m 0 #[.val (.ref u), .val (.int (0 : Int32))] []))
  refine g_getS S0 (w104 hw) Via.refl (hw16.1.ext S0.old.2) (hb hby dGC20_0) ?_
  intro T159 ST159
  show Go p e below _ (T159.setTop (mkF m 3 #[.val (.ref u), .val (.int (0 : Int32))] [(.int (1 : Int32))]))
  refine s_ifY ST159 (hb hby dGC20_3) (by decide) (by decide) (pcT := 28) (by decide) ?_
  refine s_iloadN ST159 (hb hby dGC20_28) rfl (pc' := 29) rfl ?_
  refine s_iconst ST159 (hb hby dGC20_29) (v := (1 : Int32)) rfl (pc' := 30) rfl ?_
  refine s_ishl ST159 (hb hby dGC20_30) (z := (0 : Int32)) (by decide) (pc' := 31) rfl ?_
  refine s_istoreN ST159 (hb hby dGC20_31) (L' := #[.val (.ref u), .val (.int (0 : Int32))]) rfl (pc' := 32) rfl ?_
  refine s_aloadN ST159 (hb hby dGC20_32) rfl rfl (pc' := 33) rfl ?_
  refine s_iloadN ST159 (hb hby dGC20_33) rfl (pc' := 34) rfl ?_
  refine s_iinc ST159 (hb hby dGC20_34) rfl (z := (1 : Int32)) rfl (L' := #[.val (.ref u), .val (.int (1 : Int32))]) rfl (pc' := 37) rfl ?_
  refine g_baload ST159 Vu ⟨by decide, by decide⟩ (x := (StrChars.lo8 c0)) rfl (hb hby dGC20_37) ?_
  show Go p e below _ (T159.setTop (mkF m 38 #[.val (.ref u), .val (.int (1 : Int32))] [(.int (StrChars.lo8 c0))]))
  refine s_sipush ST159 (hb hby dGC20_38) (v := (255 : Int32)) rfl (pc' := 41) rfl ?_
  refine s_iand ST159 (hb hby dGC20_41) (z := ((StrChars.lo8 c0) &&& (255 : Int32))) rfl (pc' := 42) rfl ?_
  refine g_getS ST159 (w105 hw) Via.refl (hw16.2.1.ext ST159.old.2) (hb hby dGC20_42) ?_
  intro T160 ST160
  show Go p e below _ (T160.setTop (mkF m 45 #[.val (.ref u), .val (.int (1 : Int32))] [(.int (0 : Int32)), (.int ((StrChars.lo8 c0) &&& (255 : Int32)))]))
  refine s_ishl ST160 (hb hby dGC20_45) (z := (((StrChars.lo8 c0) &&& (255 : Int32)) <<< ((0 : Int32) &&& 31))) rfl (pc' := 46) rfl ?_
  refine s_aloadN ST160 (hb hby dGC20_46) rfl rfl (pc' := 47) rfl ?_
  refine s_iloadN ST160 (hb hby dGC20_47) rfl (pc' := 48) rfl ?_
  refine g_baload ST160 Vu ⟨by decide, by decide⟩ (x := (StrChars.hi8 c0)) rfl (hb hby dGC20_48) ?_
  show Go p e below _ (T160.setTop (mkF m 49 #[.val (.ref u), .val (.int (1 : Int32))] [(.int (StrChars.hi8 c0)), (.int (((StrChars.lo8 c0) &&& (255 : Int32)) <<< ((0 : Int32) &&& 31)))]))
  refine s_sipush ST160 (hb hby dGC20_49) (v := (255 : Int32)) rfl (pc' := 52) rfl ?_
  refine s_iand ST160 (hb hby dGC20_52) (z := ((StrChars.hi8 c0) &&& (255 : Int32))) rfl (pc' := 53) rfl ?_
  refine g_getS ST160 (w106 hw) Via.refl (hw16.2.2.1.ext ST160.old.2) (hb hby dGC20_53) ?_
  intro T161 ST161
  show Go p e below _ (T161.setTop (mkF m 56 #[.val (.ref u), .val (.int (1 : Int32))] [(.int (8 : Int32)), (.int ((StrChars.hi8 c0) &&& (255 : Int32))), (.int (((StrChars.lo8 c0) &&& (255 : Int32)) <<< ((0 : Int32) &&& 31)))]))
  refine s_ishl ST161 (hb hby dGC20_56) (z := (((StrChars.hi8 c0) &&& (255 : Int32)) <<< ((8 : Int32) &&& 31))) rfl (pc' := 57) rfl ?_
  refine s_ior ST161 (hb hby dGC20_57) (z := ((((StrChars.lo8 c0) &&& (255 : Int32)) <<< ((0 : Int32) &&& 31)) ||| (((StrChars.hi8 c0) &&& (255 : Int32)) <<< ((8 : Int32) &&& 31)))) rfl (pc' := 58) rfl ?_
  refine s_i2c ST161 (hb hby dGC20_58) (z := (((((StrChars.lo8 c0) &&& (255 : Int32)) <<< ((0 : Int32) &&& 31)) ||| (((StrChars.hi8 c0) &&& (255 : Int32)) <<< ((8 : Int32) &&& 31))).toUInt32.toUInt16.toUInt32.toInt32)) rfl (pc' := 59) rfl ?_
  show Go p e below _ (T161.setTop (mkF m 59 #[.val (.ref u), .val (.int (1 : Int32))] [(.int (((((StrChars.lo8 c0) &&& (255 : Int32)) <<< ((0 : Int32) &&& 31)) ||| (((StrChars.hi8 c0) &&& (255 : Int32)) <<< ((8 : Int32) &&& 31))).toUInt32.toUInt16.toUInt32.toInt32))]))
  rw [own_pair r]
  show Go p e below _ (T161.setTop (mkF m 59 #[.val (.ref u), .val (.int (1 : Int32))] [(.int c0)]))
  exact g_iretN ST161 (hb hby dGC20_59) hret (by simp) ⟨by rw [narC r], rfl⟩
theorem dGC21_0 : decode jdk_52_method_5_code 0 = .ok (.getstatic 44, 3) := by decide +kernel
theorem dGC21_3 : decode jdk_52_method_5_code 3 = .ok (.ifCond .ne 25, 3) := by decide +kernel
theorem dGC21_28 : decode jdk_52_method_5_code 28 = .ok (.iload_n 1, 1) := by decide +kernel
theorem dGC21_29 : decode jdk_52_method_5_code 29 = .ok (.iconst 1, 1) := by decide +kernel
theorem dGC21_30 : decode jdk_52_method_5_code 30 = .ok (.ishl, 1) := by decide +kernel
theorem dGC21_31 : decode jdk_52_method_5_code 31 = .ok (.istore_n 1, 1) := by decide +kernel
theorem dGC21_32 : decode jdk_52_method_5_code 32 = .ok (.aload_n 0, 1) := by decide +kernel
theorem dGC21_33 : decode jdk_52_method_5_code 33 = .ok (.iload_n 1, 1) := by decide +kernel
theorem dGC21_34 : decode jdk_52_method_5_code 34 = .ok (.iinc 1 1, 3) := by decide +kernel
theorem dGC21_37 : decode jdk_52_method_5_code 37 = .ok (.baload, 1) := by decide +kernel
theorem dGC21_38 : decode jdk_52_method_5_code 38 = .ok (.sipush 255, 3) := by decide +kernel
theorem dGC21_41 : decode jdk_52_method_5_code 41 = .ok (.iand, 1) := by decide +kernel
theorem dGC21_42 : decode jdk_52_method_5_code 42 = .ok (.getstatic 59, 3) := by decide +kernel
theorem dGC21_45 : decode jdk_52_method_5_code 45 = .ok (.ishl, 1) := by decide +kernel
theorem dGC21_46 : decode jdk_52_method_5_code 46 = .ok (.aload_n 0, 1) := by decide +kernel
theorem dGC21_47 : decode jdk_52_method_5_code 47 = .ok (.iload_n 1, 1) := by decide +kernel
theorem dGC21_48 : decode jdk_52_method_5_code 48 = .ok (.baload, 1) := by decide +kernel
theorem dGC21_49 : decode jdk_52_method_5_code 49 = .ok (.sipush 255, 3) := by decide +kernel
theorem dGC21_52 : decode jdk_52_method_5_code 52 = .ok (.iand, 1) := by decide +kernel
theorem dGC21_53 : decode jdk_52_method_5_code 53 = .ok (.getstatic 63, 3) := by decide +kernel
theorem dGC21_56 : decode jdk_52_method_5_code 56 = .ok (.ishl, 1) := by decide +kernel
theorem dGC21_57 : decode jdk_52_method_5_code 57 = .ok (.ior, 1) := by decide +kernel
theorem dGC21_58 : decode jdk_52_method_5_code 58 = .ok (.i2c, 1) := by decide +kernel
theorem dGC21_59 : decode jdk_52_method_5_code 59 = .ok (.ireturn, 1) := by decide +kernel
set_option maxRecDepth 65536 in
set_option maxHeartbeats 40000000 in
theorem rmGC21 {l : Launch} {Z : State} {a0 : Array Value} {n0 : Nat} (X : Ctx Z a0) {u : Addr} {ku : ClassId} {c0 c1 : Int32} {h : Heap} (hO : Old Z n0 h) (Vu : Arv Z h u ku .byte (4 : Int32) [(.int (StrChars.lo8 c0)), (.int (StrChars.hi8 c0)), (.int (StrChars.lo8 c1)), (.int (StrChars.hi8 c1))] (.int (0 : Int32))) (r : ¬ c1 < 0 ∧ ¬ (65535 : Int32) < c1) :
    Ctr l Z EL1 n0 (⟨"java/lang/StringUTF16", "getChar", "([BI)C"⟩ : MethodName) jdk_52_method_5_code 2 (some .char) ({ frames := 0, cells := 0, slots := 0, locals := 0 } : Room) #[(.ref u), (.int (1 : Int32))] h [] (fun v h' => v = some (.int c1) ∧ h' = h) := by
  have hw := X.hw
  obtain ⟨z1, hz1, hz2⟩ := X.2.2.1
  refine Ctr.intro (a0 := a0) (plainFor_of_name pn0) hO X.ew ?_
  intro p e s m below meth c T0 V0 S0 hby hml hret hnm hsf
  rw [ef1]
  have hw16 := X.2.2.2.2
  show Go p e below _ (T0.setTop (mkF m 0 #[.val (.ref u), .val (.int (1 : Int32))] []))
  refine g_getS S0 (w104 hw) Via.refl (hw16.1.ext S0.old.2) (hb hby dGC21_0) ?_
  intro T162 ST162
  show Go p e below _ (T162.setTop (mkF m 3 #[.val (.ref u), .val (.int (1 : Int32))] [(.int (1 : Int32))]))
  refine s_ifY ST162 (hb hby dGC21_3) (by decide) (by decide) (pcT := 28) (by decide) ?_
  refine s_iloadN ST162 (hb hby dGC21_28) rfl (pc' := 29) rfl ?_
  refine s_iconst ST162 (hb hby dGC21_29) (v := (1 : Int32)) rfl (pc' := 30) rfl ?_
  refine s_ishl ST162 (hb hby dGC21_30) (z := (2 : Int32)) (by decide) (pc' := 31) rfl ?_
  refine s_istoreN ST162 (hb hby dGC21_31) (L' := #[.val (.ref u), .val (.int (2 : Int32))]) rfl (pc' := 32) rfl ?_
  refine s_aloadN ST162 (hb hby dGC21_32) rfl rfl (pc' := 33) rfl ?_
  refine s_iloadN ST162 (hb hby dGC21_33) rfl (pc' := 34) rfl ?_
  refine s_iinc ST162 (hb hby dGC21_34) rfl (z := (3 : Int32)) rfl (L' := #[.val (.ref u), .val (.int (3 : Int32))]) rfl (pc' := 37) rfl ?_
  refine g_baload ST162 Vu ⟨by decide, by decide⟩ (x := (StrChars.lo8 c1)) rfl (hb hby dGC21_37) ?_
  show Go p e below _ (T162.setTop (mkF m 38 #[.val (.ref u), .val (.int (3 : Int32))] [(.int (StrChars.lo8 c1))]))
  refine s_sipush ST162 (hb hby dGC21_38) (v := (255 : Int32)) rfl (pc' := 41) rfl ?_
  refine s_iand ST162 (hb hby dGC21_41) (z := ((StrChars.lo8 c1) &&& (255 : Int32))) rfl (pc' := 42) rfl ?_
  refine g_getS ST162 (w105 hw) Via.refl (hw16.2.1.ext ST162.old.2) (hb hby dGC21_42) ?_
  intro T163 ST163
  show Go p e below _ (T163.setTop (mkF m 45 #[.val (.ref u), .val (.int (3 : Int32))] [(.int (0 : Int32)), (.int ((StrChars.lo8 c1) &&& (255 : Int32)))]))
  refine s_ishl ST163 (hb hby dGC21_45) (z := (((StrChars.lo8 c1) &&& (255 : Int32)) <<< ((0 : Int32) &&& 31))) rfl (pc' := 46) rfl ?_
  refine s_aloadN ST163 (hb hby dGC21_46) rfl rfl (pc' := 47) rfl ?_
  refine s_iloadN ST163 (hb hby dGC21_47) rfl (pc' := 48) rfl ?_
  refine g_baload ST163 Vu ⟨by decide, by decide⟩ (x := (StrChars.hi8 c1)) rfl (hb hby dGC21_48) ?_
  show Go p e below _ (T163.setTop (mkF m 49 #[.val (.ref u), .val (.int (3 : Int32))] [(.int (StrChars.hi8 c1)), (.int (((StrChars.lo8 c1) &&& (255 : Int32)) <<< ((0 : Int32) &&& 31)))]))
  refine s_sipush ST163 (hb hby dGC21_49) (v := (255 : Int32)) rfl (pc' := 52) rfl ?_
  refine s_iand ST163 (hb hby dGC21_52) (z := ((StrChars.hi8 c1) &&& (255 : Int32))) rfl (pc' := 53) rfl ?_
  refine g_getS ST163 (w106 hw) Via.refl (hw16.2.2.1.ext ST163.old.2) (hb hby dGC21_53) ?_
  intro T164 ST164
  show Go p e below _ (T164.setTop (mkF m 56 #[.val (.ref u), .val (.int (3 : Int32))] [(.int (8 : Int32)), (.int ((StrChars.hi8 c1) &&& (255 : Int32))), (.int (((StrChars.lo8 c1) &&& (255 : Int32)) <<< ((0 : Int32) &&& 31)))]))
  refine s_ishl ST164 (hb hby dGC21_56) (z := (((StrChars.hi8 c1) &&& (255 : Int32)) <<< ((8 : Int32) &&& 31))) rfl (pc' := 57) rfl ?_
  refine s_ior ST164 (hb hby dGC21_57) (z := ((((StrChars.lo8 c1) &&& (255 : Int32)) <<< ((0 : Int32) &&& 31)) ||| (((StrChars.hi8 c1) &&& (255 : Int32)) <<< ((8 : Int32) &&& 31)))) rfl (pc' := 58) rfl ?_
  refine s_i2c ST164 (hb hby dGC21_58) (z := (((((StrChars.lo8 c1) &&& (255 : Int32)) <<< ((0 : Int32) &&& 31)) ||| (((StrChars.hi8 c1) &&& (255 : Int32)) <<< ((8 : Int32) &&& 31))).toUInt32.toUInt16.toUInt32.toInt32)) rfl (pc' := 59) rfl ?_
  show Go p e below _ (T164.setTop (mkF m 59 #[.val (.ref u), .val (.int (3 : Int32))] [(.int (((((StrChars.lo8 c1) &&& (255 : Int32)) <<< ((0 : Int32) &&& 31)) ||| (((StrChars.hi8 c1) &&& (255 : Int32)) <<< ((8 : Int32) &&& 31))).toUInt32.toUInt16.toUInt32.toInt32))]))
  rw [own_pair r]
  show Go p e below _ (T164.setTop (mkF m 59 #[.val (.ref u), .val (.int (3 : Int32))] [(.int c1)]))
  exact g_iretN ST164 (hb hby dGC21_59) hret (by simp) ⟨by rw [narC r], rfl⟩
theorem dPC10_0 : decode jdk_52_method_4_code 0 = .ok (.getstatic 44, 3) := by decide +kernel
theorem dPC10_3 : decode jdk_52_method_4_code 3 = .ok (.ifCond .ne 25, 3) := by decide +kernel
theorem dPC10_28 : decode jdk_52_method_4_code 28 = .ok (.iload_n 1, 1) := by decide +kernel
theorem dPC10_29 : decode jdk_52_method_4_code 29 = .ok (.iconst 1, 1) := by decide +kernel
theorem dPC10_30 : decode jdk_52_method_4_code 30 = .ok (.ishl, 1) := by decide +kernel
theorem dPC10_31 : decode jdk_52_method_4_code 31 = .ok (.istore_n 1, 1) := by decide +kernel
theorem dPC10_32 : decode jdk_52_method_4_code 32 = .ok (.aload_n 0, 1) := by decide +kernel
theorem dPC10_33 : decode jdk_52_method_4_code 33 = .ok (.iload_n 1, 1) := by decide +kernel
theorem dPC10_34 : decode jdk_52_method_4_code 34 = .ok (.iinc 1 1, 3) := by decide +kernel
theorem dPC10_37 : decode jdk_52_method_4_code 37 = .ok (.iload_n 2, 1) := by decide +kernel
theorem dPC10_38 : decode jdk_52_method_4_code 38 = .ok (.getstatic 59, 3) := by decide +kernel
theorem dPC10_41 : decode jdk_52_method_4_code 41 = .ok (.ishr, 1) := by decide +kernel
theorem dPC10_42 : decode jdk_52_method_4_code 42 = .ok (.i2b, 1) := by decide +kernel
theorem dPC10_43 : decode jdk_52_method_4_code 43 = .ok (.bastore, 1) := by decide +kernel
theorem dPC10_44 : decode jdk_52_method_4_code 44 = .ok (.aload_n 0, 1) := by decide +kernel
theorem dPC10_45 : decode jdk_52_method_4_code 45 = .ok (.iload_n 1, 1) := by decide +kernel
theorem dPC10_46 : decode jdk_52_method_4_code 46 = .ok (.iload_n 2, 1) := by decide +kernel
theorem dPC10_47 : decode jdk_52_method_4_code 47 = .ok (.getstatic 63, 3) := by decide +kernel
theorem dPC10_50 : decode jdk_52_method_4_code 50 = .ok (.ishr, 1) := by decide +kernel
theorem dPC10_51 : decode jdk_52_method_4_code 51 = .ok (.i2b, 1) := by decide +kernel
theorem dPC10_52 : decode jdk_52_method_4_code 52 = .ok (.bastore, 1) := by decide +kernel
theorem dPC10_53 : decode jdk_52_method_4_code 53 = .ok (.return_, 1) := by decide +kernel
set_option maxRecDepth 65536 in
set_option maxHeartbeats 40000000 in
theorem rmPC10 {l : Launch} {Z : State} {a0 : Array Value} {n0 : Nat} (X : Ctx Z a0) {u : Addr} {ku : ClassId} {v0 v1 : Value} (ch : Int32) (na : n0 ≤ u) {h : Heap} (hO : Old Z n0 h) (Vu : Arv Z h u ku .byte (2 : Int32) [v0, v1] (.int (0 : Int32))) :
    Ctr l Z EL1 n0 (⟨"java/lang/StringUTF16", "putChar", "([BII)V"⟩ : MethodName) jdk_52_method_4_code 3 none ({ frames := 0, cells := 0, slots := 0, locals := 0 } : Room) #[(.ref u), (.int (0 : Int32)), (.int ch)] h [u] (fun v h' => v = none ∧ Keep h h' [u] ∧ Arv Z h' u ku .byte (2 : Int32) [(.int (StrChars.lo8 ch)), (.int (StrChars.hi8 ch))] (.int (0 : Int32))) := by
  have hw := X.hw
  obtain ⟨z1, hz1, hz2⟩ := X.2.2.1
  refine Ctr.intro (a0 := a0) (plainFor_of_name pn0) hO X.ew ?_
  intro p e s m below meth c T0 V0 S0 hby hml hret hnm hsf
  rw [ef2]
  have hw16 := X.2.2.2.2
  show Go p e below _ (T0.setTop (mkF m 0 #[.val (.ref u), .val (.int (0 : Int32)), .val (.int ch)] []))
  refine g_getS S0 (w104 hw) Via.refl (hw16.1.ext S0.old.2) (hb hby dPC10_0) ?_
  intro T165 ST165
  show Go p e below _ (T165.setTop (mkF m 3 #[.val (.ref u), .val (.int (0 : Int32)), .val (.int ch)] [(.int (1 : Int32))]))
  refine s_ifY ST165 (hb hby dPC10_3) (by decide) (by decide) (pcT := 28) (by decide) ?_
  refine s_iloadN ST165 (hb hby dPC10_28) rfl (pc' := 29) rfl ?_
  refine s_iconst ST165 (hb hby dPC10_29) (v := (1 : Int32)) rfl (pc' := 30) rfl ?_
  refine s_ishl ST165 (hb hby dPC10_30) (z := (0 : Int32)) (by decide) (pc' := 31) rfl ?_
  refine s_istoreN ST165 (hb hby dPC10_31) (L' := #[.val (.ref u), .val (.int (0 : Int32)), .val (.int ch)]) rfl (pc' := 32) rfl ?_
  refine s_aloadN ST165 (hb hby dPC10_32) rfl rfl (pc' := 33) rfl ?_
  refine s_iloadN ST165 (hb hby dPC10_33) rfl (pc' := 34) rfl ?_
  refine s_iinc ST165 (hb hby dPC10_34) rfl (z := (1 : Int32)) rfl (L' := #[.val (.ref u), .val (.int (1 : Int32)), .val (.int ch)]) rfl (pc' := 37) rfl ?_
  refine s_iloadN ST165 (hb hby dPC10_37) rfl (pc' := 38) rfl ?_
  refine g_getS ST165 (w105 hw) Via.refl (hw16.2.1.ext ST165.old.2) (hb hby dPC10_38) ?_
  intro T166 ST166
  show Go p e below _ (T166.setTop (mkF m 41 #[.val (.ref u), .val (.int (1 : Int32)), .val (.int ch)] [(.int (0 : Int32)), (.int ch), (.int (0 : Int32)), (.ref u)]))
  refine s_ishr ST166 (hb hby dPC10_41) (z := (ch >>> ((0 : Int32) &&& 31))) rfl (pc' := 42) rfl ?_
  refine s_i2b ST166 (hb hby dPC10_42) (z := ((ch >>> ((0 : Int32) &&& 31)).toInt8.toInt32)) rfl (pc' := 43) rfl ?_
  show Go p e below _ (T166.setTop (mkF m 43 #[.val (.ref u), .val (.int (1 : Int32)), .val (.int ch)] [(.int ((ch >>> ((0 : Int32) &&& 31)).toInt8.toInt32)), (.int (0 : Int32)), (.ref u)]))
  refine g_bastore ST166 Vu ⟨by decide, by decide⟩ 0 rfl (Nat.le_of_ble_eq_true rfl) na (hsf u List.mem_cons_self) (hb hby dPC10_43) ?_
  intro T167 h167 S167 K167 V167 sg167
  have sf168 := Safe.keep K167 (sfS (hsf u List.mem_cons_self) sf0) ST166.chv (hsf u List.mem_cons_self)
  rw [own_pcLo ch] at V167
  have V167 : Arv Z h167 u ku .byte (2 : Int32) [(.int (StrChars.lo8 ch)), v1] (.int (0 : Int32)) := V167
  show Go p e below _ (T167.setTop (mkF m 44 #[.val (.ref u), .val (.int (1 : Int32)), .val (.int ch)] []))
  refine s_aloadN S167 (hb hby dPC10_44) rfl rfl (pc' := 45) rfl ?_
  refine s_iloadN S167 (hb hby dPC10_45) rfl (pc' := 46) rfl ?_
  refine s_iloadN S167 (hb hby dPC10_46) rfl (pc' := 47) rfl ?_
  refine g_getS S167 (w106 hw) Via.refl (hw16.2.2.1.ext S167.old.2) (hb hby dPC10_47) ?_
  intro T169 ST169
  show Go p e below _ (T169.setTop (mkF m 50 #[.val (.ref u), .val (.int (1 : Int32)), .val (.int ch)] [(.int (8 : Int32)), (.int ch), (.int (1 : Int32)), (.ref u)]))
  refine s_ishr ST169 (hb hby dPC10_50) (z := (ch >>> ((8 : Int32) &&& 31))) rfl (pc' := 51) rfl ?_
  refine s_i2b ST169 (hb hby dPC10_51) (z := ((ch >>> ((8 : Int32) &&& 31)).toInt8.toInt32)) rfl (pc' := 52) rfl ?_
  show Go p e below _ (T169.setTop (mkF m 52 #[.val (.ref u), .val (.int (1 : Int32)), .val (.int ch)] [(.int ((ch >>> ((8 : Int32) &&& 31)).toInt8.toInt32)), (.int (1 : Int32)), (.ref u)]))
  refine g_bastore ST169 V167 ⟨by decide, by decide⟩ 1 rfl (Nat.le_of_ble_eq_true rfl) na sg167 (hb hby dPC10_52) ?_
  intro T170 h170 S170 K170 V170 sg170
  have sf171 := Safe.keep K170 (sfS sg167 sf0) ST169.chv sg167
  rw [own_pcHi ch] at V170
  have V170 : Arv Z h170 u ku .byte (2 : Int32) [(.int (StrChars.lo8 ch)), (.int (StrChars.hi8 ch))] (.int (0 : Int32)) := V170
  show Go p e below _ (T170.setTop (mkF m 53 #[.val (.ref u), .val (.int (1 : Int32)), .val (.int ch)] []))
  show Go p e below _ (T170.setTop (mkF m 53 #[.val (.ref u), .val (.int (1 : Int32)), .val (.int ch)] []))
  have KA172 : Keep h h170 [u] := (((Keep.refl h [u]).trans K167 (fun y hy => Or.inl hy)).trans K170 (fun y hy => Or.inl hy))
  exact g_ret S170 (hb hby dPC10_53) hret ⟨rfl, KA172, V170⟩
theorem dPC20_0 : decode jdk_52_method_4_code 0 = .ok (.getstatic 44, 3) := by decide +kernel
theorem dPC20_3 : decode jdk_52_method_4_code 3 = .ok (.ifCond .ne 25, 3) := by decide +kernel
theorem dPC20_28 : decode jdk_52_method_4_code 28 = .ok (.iload_n 1, 1) := by decide +kernel
theorem dPC20_29 : decode jdk_52_method_4_code 29 = .ok (.iconst 1, 1) := by decide +kernel
theorem dPC20_30 : decode jdk_52_method_4_code 30 = .ok (.ishl, 1) := by decide +kernel
theorem dPC20_31 : decode jdk_52_method_4_code 31 = .ok (.istore_n 1, 1) := by decide +kernel
theorem dPC20_32 : decode jdk_52_method_4_code 32 = .ok (.aload_n 0, 1) := by decide +kernel
theorem dPC20_33 : decode jdk_52_method_4_code 33 = .ok (.iload_n 1, 1) := by decide +kernel
theorem dPC20_34 : decode jdk_52_method_4_code 34 = .ok (.iinc 1 1, 3) := by decide +kernel
theorem dPC20_37 : decode jdk_52_method_4_code 37 = .ok (.iload_n 2, 1) := by decide +kernel
theorem dPC20_38 : decode jdk_52_method_4_code 38 = .ok (.getstatic 59, 3) := by decide +kernel
theorem dPC20_41 : decode jdk_52_method_4_code 41 = .ok (.ishr, 1) := by decide +kernel
theorem dPC20_42 : decode jdk_52_method_4_code 42 = .ok (.i2b, 1) := by decide +kernel
theorem dPC20_43 : decode jdk_52_method_4_code 43 = .ok (.bastore, 1) := by decide +kernel
theorem dPC20_44 : decode jdk_52_method_4_code 44 = .ok (.aload_n 0, 1) := by decide +kernel
theorem dPC20_45 : decode jdk_52_method_4_code 45 = .ok (.iload_n 1, 1) := by decide +kernel
theorem dPC20_46 : decode jdk_52_method_4_code 46 = .ok (.iload_n 2, 1) := by decide +kernel
theorem dPC20_47 : decode jdk_52_method_4_code 47 = .ok (.getstatic 63, 3) := by decide +kernel
theorem dPC20_50 : decode jdk_52_method_4_code 50 = .ok (.ishr, 1) := by decide +kernel
theorem dPC20_51 : decode jdk_52_method_4_code 51 = .ok (.i2b, 1) := by decide +kernel
theorem dPC20_52 : decode jdk_52_method_4_code 52 = .ok (.bastore, 1) := by decide +kernel
theorem dPC20_53 : decode jdk_52_method_4_code 53 = .ok (.return_, 1) := by decide +kernel
set_option maxRecDepth 65536 in
set_option maxHeartbeats 40000000 in
theorem rmPC20 {l : Launch} {Z : State} {a0 : Array Value} {n0 : Nat} (X : Ctx Z a0) {u : Addr} {ku : ClassId} {v0 v1 v2 v3 : Value} (ch : Int32) (na : n0 ≤ u) {h : Heap} (hO : Old Z n0 h) (Vu : Arv Z h u ku .byte (4 : Int32) [v0, v1, v2, v3] (.int (0 : Int32))) :
    Ctr l Z EL1 n0 (⟨"java/lang/StringUTF16", "putChar", "([BII)V"⟩ : MethodName) jdk_52_method_4_code 3 none ({ frames := 0, cells := 0, slots := 0, locals := 0 } : Room) #[(.ref u), (.int (0 : Int32)), (.int ch)] h [u] (fun v h' => v = none ∧ Keep h h' [u] ∧ Arv Z h' u ku .byte (4 : Int32) [(.int (StrChars.lo8 ch)), (.int (StrChars.hi8 ch)), v2, v3] (.int (0 : Int32))) := by
  have hw := X.hw
  obtain ⟨z1, hz1, hz2⟩ := X.2.2.1
  refine Ctr.intro (a0 := a0) (plainFor_of_name pn0) hO X.ew ?_
  intro p e s m below meth c T0 V0 S0 hby hml hret hnm hsf
  rw [ef2]
  have hw16 := X.2.2.2.2
  show Go p e below _ (T0.setTop (mkF m 0 #[.val (.ref u), .val (.int (0 : Int32)), .val (.int ch)] []))
  refine g_getS S0 (w104 hw) Via.refl (hw16.1.ext S0.old.2) (hb hby dPC20_0) ?_
  intro T173 ST173
  show Go p e below _ (T173.setTop (mkF m 3 #[.val (.ref u), .val (.int (0 : Int32)), .val (.int ch)] [(.int (1 : Int32))]))
  refine s_ifY ST173 (hb hby dPC20_3) (by decide) (by decide) (pcT := 28) (by decide) ?_
  refine s_iloadN ST173 (hb hby dPC20_28) rfl (pc' := 29) rfl ?_
  refine s_iconst ST173 (hb hby dPC20_29) (v := (1 : Int32)) rfl (pc' := 30) rfl ?_
  refine s_ishl ST173 (hb hby dPC20_30) (z := (0 : Int32)) (by decide) (pc' := 31) rfl ?_
  refine s_istoreN ST173 (hb hby dPC20_31) (L' := #[.val (.ref u), .val (.int (0 : Int32)), .val (.int ch)]) rfl (pc' := 32) rfl ?_
  refine s_aloadN ST173 (hb hby dPC20_32) rfl rfl (pc' := 33) rfl ?_
  refine s_iloadN ST173 (hb hby dPC20_33) rfl (pc' := 34) rfl ?_
  refine s_iinc ST173 (hb hby dPC20_34) rfl (z := (1 : Int32)) rfl (L' := #[.val (.ref u), .val (.int (1 : Int32)), .val (.int ch)]) rfl (pc' := 37) rfl ?_
  refine s_iloadN ST173 (hb hby dPC20_37) rfl (pc' := 38) rfl ?_
  refine g_getS ST173 (w105 hw) Via.refl (hw16.2.1.ext ST173.old.2) (hb hby dPC20_38) ?_
  intro T174 ST174
  show Go p e below _ (T174.setTop (mkF m 41 #[.val (.ref u), .val (.int (1 : Int32)), .val (.int ch)] [(.int (0 : Int32)), (.int ch), (.int (0 : Int32)), (.ref u)]))
  refine s_ishr ST174 (hb hby dPC20_41) (z := (ch >>> ((0 : Int32) &&& 31))) rfl (pc' := 42) rfl ?_
  refine s_i2b ST174 (hb hby dPC20_42) (z := ((ch >>> ((0 : Int32) &&& 31)).toInt8.toInt32)) rfl (pc' := 43) rfl ?_
  show Go p e below _ (T174.setTop (mkF m 43 #[.val (.ref u), .val (.int (1 : Int32)), .val (.int ch)] [(.int ((ch >>> ((0 : Int32) &&& 31)).toInt8.toInt32)), (.int (0 : Int32)), (.ref u)]))
  refine g_bastore ST174 Vu ⟨by decide, by decide⟩ 0 rfl (Nat.le_of_ble_eq_true rfl) na (hsf u List.mem_cons_self) (hb hby dPC20_43) ?_
  intro T175 h175 S175 K175 V175 sg175
  have sf176 := Safe.keep K175 (sfS (hsf u List.mem_cons_self) sf0) ST174.chv (hsf u List.mem_cons_self)
  rw [own_pcLo ch] at V175
  have V175 : Arv Z h175 u ku .byte (4 : Int32) [(.int (StrChars.lo8 ch)), v1, v2, v3] (.int (0 : Int32)) := V175
  show Go p e below _ (T175.setTop (mkF m 44 #[.val (.ref u), .val (.int (1 : Int32)), .val (.int ch)] []))
  refine s_aloadN S175 (hb hby dPC20_44) rfl rfl (pc' := 45) rfl ?_
  refine s_iloadN S175 (hb hby dPC20_45) rfl (pc' := 46) rfl ?_
  refine s_iloadN S175 (hb hby dPC20_46) rfl (pc' := 47) rfl ?_
  refine g_getS S175 (w106 hw) Via.refl (hw16.2.2.1.ext S175.old.2) (hb hby dPC20_47) ?_
  intro T177 ST177
  show Go p e below _ (T177.setTop (mkF m 50 #[.val (.ref u), .val (.int (1 : Int32)), .val (.int ch)] [(.int (8 : Int32)), (.int ch), (.int (1 : Int32)), (.ref u)]))
  refine s_ishr ST177 (hb hby dPC20_50) (z := (ch >>> ((8 : Int32) &&& 31))) rfl (pc' := 51) rfl ?_
  refine s_i2b ST177 (hb hby dPC20_51) (z := ((ch >>> ((8 : Int32) &&& 31)).toInt8.toInt32)) rfl (pc' := 52) rfl ?_
  show Go p e below _ (T177.setTop (mkF m 52 #[.val (.ref u), .val (.int (1 : Int32)), .val (.int ch)] [(.int ((ch >>> ((8 : Int32) &&& 31)).toInt8.toInt32)), (.int (1 : Int32)), (.ref u)]))
  refine g_bastore ST177 V175 ⟨by decide, by decide⟩ 1 rfl (Nat.le_of_ble_eq_true rfl) na sg175 (hb hby dPC20_52) ?_
  intro T178 h178 S178 K178 V178 sg178
  have sf179 := Safe.keep K178 (sfS sg175 sf0) ST177.chv sg175
  rw [own_pcHi ch] at V178
  have V178 : Arv Z h178 u ku .byte (4 : Int32) [(.int (StrChars.lo8 ch)), (.int (StrChars.hi8 ch)), v2, v3] (.int (0 : Int32)) := V178
  show Go p e below _ (T178.setTop (mkF m 53 #[.val (.ref u), .val (.int (1 : Int32)), .val (.int ch)] []))
  show Go p e below _ (T178.setTop (mkF m 53 #[.val (.ref u), .val (.int (1 : Int32)), .val (.int ch)] []))
  have KA180 : Keep h h178 [u] := (((Keep.refl h [u]).trans K175 (fun y hy => Or.inl hy)).trans K178 (fun y hy => Or.inl hy))
  exact g_ret S178 (hb hby dPC20_53) hret ⟨rfl, KA180, V178⟩
theorem dPC21_0 : decode jdk_52_method_4_code 0 = .ok (.getstatic 44, 3) := by decide +kernel
theorem dPC21_3 : decode jdk_52_method_4_code 3 = .ok (.ifCond .ne 25, 3) := by decide +kernel
theorem dPC21_28 : decode jdk_52_method_4_code 28 = .ok (.iload_n 1, 1) := by decide +kernel
theorem dPC21_29 : decode jdk_52_method_4_code 29 = .ok (.iconst 1, 1) := by decide +kernel
theorem dPC21_30 : decode jdk_52_method_4_code 30 = .ok (.ishl, 1) := by decide +kernel
theorem dPC21_31 : decode jdk_52_method_4_code 31 = .ok (.istore_n 1, 1) := by decide +kernel
theorem dPC21_32 : decode jdk_52_method_4_code 32 = .ok (.aload_n 0, 1) := by decide +kernel
theorem dPC21_33 : decode jdk_52_method_4_code 33 = .ok (.iload_n 1, 1) := by decide +kernel
theorem dPC21_34 : decode jdk_52_method_4_code 34 = .ok (.iinc 1 1, 3) := by decide +kernel
theorem dPC21_37 : decode jdk_52_method_4_code 37 = .ok (.iload_n 2, 1) := by decide +kernel
theorem dPC21_38 : decode jdk_52_method_4_code 38 = .ok (.getstatic 59, 3) := by decide +kernel
theorem dPC21_41 : decode jdk_52_method_4_code 41 = .ok (.ishr, 1) := by decide +kernel
theorem dPC21_42 : decode jdk_52_method_4_code 42 = .ok (.i2b, 1) := by decide +kernel
theorem dPC21_43 : decode jdk_52_method_4_code 43 = .ok (.bastore, 1) := by decide +kernel
theorem dPC21_44 : decode jdk_52_method_4_code 44 = .ok (.aload_n 0, 1) := by decide +kernel
theorem dPC21_45 : decode jdk_52_method_4_code 45 = .ok (.iload_n 1, 1) := by decide +kernel
theorem dPC21_46 : decode jdk_52_method_4_code 46 = .ok (.iload_n 2, 1) := by decide +kernel
theorem dPC21_47 : decode jdk_52_method_4_code 47 = .ok (.getstatic 63, 3) := by decide +kernel
theorem dPC21_50 : decode jdk_52_method_4_code 50 = .ok (.ishr, 1) := by decide +kernel
theorem dPC21_51 : decode jdk_52_method_4_code 51 = .ok (.i2b, 1) := by decide +kernel
theorem dPC21_52 : decode jdk_52_method_4_code 52 = .ok (.bastore, 1) := by decide +kernel
theorem dPC21_53 : decode jdk_52_method_4_code 53 = .ok (.return_, 1) := by decide +kernel
set_option maxRecDepth 65536 in
set_option maxHeartbeats 40000000 in
theorem rmPC21 {l : Launch} {Z : State} {a0 : Array Value} {n0 : Nat} (X : Ctx Z a0) {u : Addr} {ku : ClassId} {v0 v1 v2 v3 : Value} (ch : Int32) (na : n0 ≤ u) {h : Heap} (hO : Old Z n0 h) (Vu : Arv Z h u ku .byte (4 : Int32) [v0, v1, v2, v3] (.int (0 : Int32))) :
    Ctr l Z EL1 n0 (⟨"java/lang/StringUTF16", "putChar", "([BII)V"⟩ : MethodName) jdk_52_method_4_code 3 none ({ frames := 0, cells := 0, slots := 0, locals := 0 } : Room) #[(.ref u), (.int (1 : Int32)), (.int ch)] h [u] (fun v h' => v = none ∧ Keep h h' [u] ∧ Arv Z h' u ku .byte (4 : Int32) [v0, v1, (.int (StrChars.lo8 ch)), (.int (StrChars.hi8 ch))] (.int (0 : Int32))) := by
  have hw := X.hw
  obtain ⟨z1, hz1, hz2⟩ := X.2.2.1
  refine Ctr.intro (a0 := a0) (plainFor_of_name pn0) hO X.ew ?_
  intro p e s m below meth c T0 V0 S0 hby hml hret hnm hsf
  rw [ef2]
  have hw16 := X.2.2.2.2
  show Go p e below _ (T0.setTop (mkF m 0 #[.val (.ref u), .val (.int (1 : Int32)), .val (.int ch)] []))
  refine g_getS S0 (w104 hw) Via.refl (hw16.1.ext S0.old.2) (hb hby dPC21_0) ?_
  intro T181 ST181
  show Go p e below _ (T181.setTop (mkF m 3 #[.val (.ref u), .val (.int (1 : Int32)), .val (.int ch)] [(.int (1 : Int32))]))
  refine s_ifY ST181 (hb hby dPC21_3) (by decide) (by decide) (pcT := 28) (by decide) ?_
  refine s_iloadN ST181 (hb hby dPC21_28) rfl (pc' := 29) rfl ?_
  refine s_iconst ST181 (hb hby dPC21_29) (v := (1 : Int32)) rfl (pc' := 30) rfl ?_
  refine s_ishl ST181 (hb hby dPC21_30) (z := (2 : Int32)) (by decide) (pc' := 31) rfl ?_
  refine s_istoreN ST181 (hb hby dPC21_31) (L' := #[.val (.ref u), .val (.int (2 : Int32)), .val (.int ch)]) rfl (pc' := 32) rfl ?_
  refine s_aloadN ST181 (hb hby dPC21_32) rfl rfl (pc' := 33) rfl ?_
  refine s_iloadN ST181 (hb hby dPC21_33) rfl (pc' := 34) rfl ?_
  refine s_iinc ST181 (hb hby dPC21_34) rfl (z := (3 : Int32)) rfl (L' := #[.val (.ref u), .val (.int (3 : Int32)), .val (.int ch)]) rfl (pc' := 37) rfl ?_
  refine s_iloadN ST181 (hb hby dPC21_37) rfl (pc' := 38) rfl ?_
  refine g_getS ST181 (w105 hw) Via.refl (hw16.2.1.ext ST181.old.2) (hb hby dPC21_38) ?_
  intro T182 ST182
  show Go p e below _ (T182.setTop (mkF m 41 #[.val (.ref u), .val (.int (3 : Int32)), .val (.int ch)] [(.int (0 : Int32)), (.int ch), (.int (2 : Int32)), (.ref u)]))
  refine s_ishr ST182 (hb hby dPC21_41) (z := (ch >>> ((0 : Int32) &&& 31))) rfl (pc' := 42) rfl ?_
  refine s_i2b ST182 (hb hby dPC21_42) (z := ((ch >>> ((0 : Int32) &&& 31)).toInt8.toInt32)) rfl (pc' := 43) rfl ?_
  show Go p e below _ (T182.setTop (mkF m 43 #[.val (.ref u), .val (.int (3 : Int32)), .val (.int ch)] [(.int ((ch >>> ((0 : Int32) &&& 31)).toInt8.toInt32)), (.int (2 : Int32)), (.ref u)]))
  refine g_bastore ST182 Vu ⟨by decide, by decide⟩ 2 rfl (Nat.le_of_ble_eq_true rfl) na (hsf u List.mem_cons_self) (hb hby dPC21_43) ?_
  intro T183 h183 S183 K183 V183 sg183
  have sf184 := Safe.keep K183 (sfS (hsf u List.mem_cons_self) sf0) ST182.chv (hsf u List.mem_cons_self)
  rw [own_pcLo ch] at V183
  have V183 : Arv Z h183 u ku .byte (4 : Int32) [v0, v1, (.int (StrChars.lo8 ch)), v3] (.int (0 : Int32)) := V183
  show Go p e below _ (T183.setTop (mkF m 44 #[.val (.ref u), .val (.int (3 : Int32)), .val (.int ch)] []))
  refine s_aloadN S183 (hb hby dPC21_44) rfl rfl (pc' := 45) rfl ?_
  refine s_iloadN S183 (hb hby dPC21_45) rfl (pc' := 46) rfl ?_
  refine s_iloadN S183 (hb hby dPC21_46) rfl (pc' := 47) rfl ?_
  refine g_getS S183 (w106 hw) Via.refl (hw16.2.2.1.ext S183.old.2) (hb hby dPC21_47) ?_
  intro T185 ST185
  show Go p e below _ (T185.setTop (mkF m 50 #[.val (.ref u), .val (.int (3 : Int32)), .val (.int ch)] [(.int (8 : Int32)), (.int ch), (.int (3 : Int32)), (.ref u)]))
  refine s_ishr ST185 (hb hby dPC21_50) (z := (ch >>> ((8 : Int32) &&& 31))) rfl (pc' := 51) rfl ?_
  refine s_i2b ST185 (hb hby dPC21_51) (z := ((ch >>> ((8 : Int32) &&& 31)).toInt8.toInt32)) rfl (pc' := 52) rfl ?_
  show Go p e below _ (T185.setTop (mkF m 52 #[.val (.ref u), .val (.int (3 : Int32)), .val (.int ch)] [(.int ((ch >>> ((8 : Int32) &&& 31)).toInt8.toInt32)), (.int (3 : Int32)), (.ref u)]))
  refine g_bastore ST185 V183 ⟨by decide, by decide⟩ 3 rfl (Nat.le_of_ble_eq_true rfl) na sg183 (hb hby dPC21_52) ?_
  intro T186 h186 S186 K186 V186 sg186
  have sf187 := Safe.keep K186 (sfS sg183 sf0) ST185.chv sg183
  rw [own_pcHi ch] at V186
  have V186 : Arv Z h186 u ku .byte (4 : Int32) [v0, v1, (.int (StrChars.lo8 ch)), (.int (StrChars.hi8 ch))] (.int (0 : Int32)) := V186
  show Go p e below _ (T186.setTop (mkF m 53 #[.val (.ref u), .val (.int (3 : Int32)), .val (.int ch)] []))
  show Go p e below _ (T186.setTop (mkF m 53 #[.val (.ref u), .val (.int (3 : Int32)), .val (.int ch)] []))
  have KA188 : Keep h h186 [u] := (((Keep.refl h [u]).trans K183 (fun y hy => Or.inl hy)).trans K186 (fun y hy => Or.inl hy))
  exact g_ret S186 (hb hby dPC21_53) hret ⟨rfl, KA188, V186⟩
theorem dNL1_0 : decode jdk_52_method_3_code 0 = .ok (.iload_n 0, 1) := by decide +kernel
theorem dNL1_1 : decode jdk_52_method_3_code 1 = .ok (.ifCond .ge 11, 3) := by decide +kernel
theorem dNL1_12 : decode jdk_52_method_3_code 12 = .ok (.iload_n 0, 1) := by decide +kernel
theorem dNL1_13 : decode jdk_52_method_3_code 13 = .ok (.ldc 20, 2) := by decide +kernel
theorem dNL1_15 : decode jdk_52_method_3_code 15 = .ok (.if_icmp .lt 40, 3) := by decide +kernel
theorem dNL1_55 : decode jdk_52_method_3_code 55 = .ok (.iload_n 0, 1) := by decide +kernel
theorem dNL1_56 : decode jdk_52_method_3_code 56 = .ok (.iconst 1, 1) := by decide +kernel
theorem dNL1_57 : decode jdk_52_method_3_code 57 = .ok (.ishl, 1) := by decide +kernel
theorem dNL1_58 : decode jdk_52_method_3_code 58 = .ok (.ireturn, 1) := by decide +kernel
set_option maxRecDepth 65536 in
set_option maxHeartbeats 40000000 in
theorem rmNL1 {l : Launch} {Z : State} {a0 : Array Value} {n0 : Nat} (X : Ctx Z a0)  {h : Heap} (hO : Old Z n0 h)  :
    Ctr l Z EL1 n0 (⟨"java/lang/StringUTF16", "newBytesLength", "(I)I"⟩ : MethodName) jdk_52_method_3_code 1 (some .int) ({ frames := 0, cells := 0, slots := 0, locals := 0 } : Room) #[(.int (1 : Int32))] h [] (fun v h' => v = some (.int (2 : Int32)) ∧ h' = h) := by
  have hw := X.hw
  obtain ⟨z1, hz1, hz2⟩ := X.2.2.1
  refine Ctr.intro (a0 := a0) (plainFor_of_name pn0) hO X.ew ?_
  intro p e s m below meth c T0 V0 S0 hby hml hret hnm hsf
  rw [ef3]
  refine s_iloadN S0 (hb hby dNL1_0) rfl (pc' := 1) rfl ?_
  refine s_ifY S0 (hb hby dNL1_1) (by decide) (by decide) (pcT := 12) (by decide) ?_
  refine s_iloadN S0 (hb hby dNL1_12) rfl (pc' := 13) rfl ?_
  refine g_ldcI S0 (w100 hw) (hb hby dNL1_13) ?_
  show Go p e below _ (T0.setTop (mkF m 15 #[.val (.int (1 : Int32))] [(.int (1073741823 : Int32)), (.int (1 : Int32))]))
  refine s_icmpY S0 (hb hby dNL1_15) (by decide) (by decide) (pcT := 55) (by decide) ?_
  refine s_iloadN S0 (hb hby dNL1_55) rfl (pc' := 56) rfl ?_
  refine s_iconst S0 (hb hby dNL1_56) (v := (1 : Int32)) rfl (pc' := 57) rfl ?_
  refine s_ishl S0 (hb hby dNL1_57) (z := (2 : Int32)) (by decide) (pc' := 58) rfl ?_
  exact g_iret S0 (hb hby dNL1_58) hret ⟨rfl, rfl⟩
theorem dNB1_0 : decode jdk_52_method_2_code 0 = .ok (.iload_n 0, 1) := by decide +kernel
theorem dNB1_1 : decode jdk_52_method_2_code 1 = .ok (.invokestatic 11, 3) := by decide +kernel
theorem dNB1_4 : decode jdk_52_method_2_code 4 = .ok (.newarray .byte, 2) := by decide +kernel
theorem dNB1_6 : decode jdk_52_method_2_code 6 = .ok (.areturn, 1) := by decide +kernel
set_option maxRecDepth 65536 in
set_option maxHeartbeats 40000000 in
theorem rmNB1 {l : Launch} {Z : State} {a0 : Array Value} {n0 : Nat} (X : Ctx Z a0)  {h : Heap} (hO : Old Z n0 h)  :
    CtrV l Z EL1 n0 (⟨"java/lang/StringUTF16", "newBytesFor", "(I)[B"⟩ : MethodName) jdk_52_method_2_code 1 (some (.array .byte)) ({ frames := 1, cells := 1, slots := 2, locals := 12 } : Room) #[(.int (1 : Int32))] h [] (fun v h' vm => ∃ u ku, v = some (.ref u) ∧ Ext h h' ∧ h.size ≤ u ∧ u < h'.size ∧ n0 ≤ u ∧ Safe Z EL1 vm h' u ∧ Arv Z h' u ku .byte (2 : Int32) [(.int (0 : Int32)), (.int (0 : Int32))] (.int (0 : Int32))) := by
  have hw := X.hw
  obtain ⟨z1, hz1, hz2⟩ := X.2.2.1
  refine CtrV.intro (a0 := a0) (plainFor_of_name pn0) hO X.ew ?_
  intro p e s m below meth c T0 V0 S0 hby hml hret hnm hsf
  rw [ef3]
  refine s_iloadN S0 (hb hby dNB1_0) rfl (pc' := 1) rfl ?_
  show Go p e below _ (T0.setTop (mkF m 1 #[.val (.int (1 : Int32))] [(.int (1 : Int32))]))
  refine g_static S0 (rmNL1 X S0.old) (fun _ q => nomatch q) (w97 hw) (w98 hw) (w57 hw) (w99 hw) (by decide) (hb hby dNB1_1) (by rw [hml]; rfl) [(.int (1 : Int32))] (lenOf pd0 rfl) rfl rfl (Nat.le_of_ble_eq_true rfl) (Nat.le_of_ble_eq_true rfl) (Nat.le_of_ble_eq_true rfl) (Nat.le_of_ble_eq_true rfl) ?_
  intro v189 T189 V189 h189 S189 C189 q189
  obtain ⟨rfl, rfl⟩ := q189
  show Go p e below _ (T189.setTop (mkF m 4 #[.val (.int (1 : Int32))] [(.int (2 : Int32))]))
  refine g_newarr (aty := .byte) S189 (w24 hw) (hb hby dNB1_4) (by decide) (cap := 2) (by decide) (by decide) (Nat.le_of_ble_eq_true rfl) (Nat.le_of_ble_eq_true rfl) ?_
  intro T190 h190 b190 kc190 S190 E190 fr190 lt190 na190 sf190 A190
  have V190 : Arv Z h190 b190 kc190 .byte (2 : Int32) [(.int (0 : Int32)), (.int (0 : Int32))] (.int (0 : Int32)) := A190 2
  show Go p e below _ (T190.setTop (mkF m 6 #[.val (.int (1 : Int32))] [(.ref b190)]))
  show Go p e below _ (T190.setTop (mkF m 6 #[.val (.int (1 : Int32))] [(.ref b190)]))
  exact g_aretV S190 (hb hby dNB1_6) hret rfl rfl rfl (fun sfx => ⟨b190, kc190, rfl, E190, fr190, lt190, na190, sfx _ lt190 sf190, V190⟩)
theorem dT1_0 : decode jdk_52_method_14_code 0 = .ok (.iload_n 2, 1) := by decide +kernel
theorem dT1_1 : decode jdk_52_method_14_code 1 = .ok (.invokestatic 107, 3) := by decide +kernel
theorem dT1_4 : decode jdk_52_method_14_code 4 = .ok (.astore_n 3, 1) := by decide +kernel
theorem dT1_5 : decode jdk_52_method_14_code 5 = .ok (.iconst 0, 1) := by decide +kernel
theorem dT1_6 : decode jdk_52_method_14_code 6 = .ok (.istore 4, 2) := by decide +kernel
theorem dT1_8 : decode jdk_52_method_14_code 8 = .ok (.iload 4, 2) := by decide +kernel
theorem dT1_10 : decode jdk_52_method_14_code 10 = .ok (.iload_n 2, 1) := by decide +kernel
theorem dT1_11 : decode jdk_52_method_14_code 11 = .ok (.if_icmp .ge 21, 3) := by decide +kernel
theorem dT1_14 : decode jdk_52_method_14_code 14 = .ok (.aload_n 3, 1) := by decide +kernel
theorem dT1_15 : decode jdk_52_method_14_code 15 = .ok (.iload 4, 2) := by decide +kernel
theorem dT1_17 : decode jdk_52_method_14_code 17 = .ok (.aload_n 0, 1) := by decide +kernel
theorem dT1_18 : decode jdk_52_method_14_code 18 = .ok (.iload_n 1, 1) := by decide +kernel
theorem dT1_19 : decode jdk_52_method_14_code 19 = .ok (.caload, 1) := by decide +kernel
theorem dT1_20 : decode jdk_52_method_14_code 20 = .ok (.invokestatic 111, 3) := by decide +kernel
theorem dT1_23 : decode jdk_52_method_14_code 23 = .ok (.iinc 1 1, 3) := by decide +kernel
theorem dT1_26 : decode jdk_52_method_14_code 26 = .ok (.iinc 4 1, 3) := by decide +kernel
theorem dT1_29 : decode jdk_52_method_14_code 29 = .ok (.goto (-21), 3) := by decide +kernel
theorem dT1_32 : decode jdk_52_method_14_code 32 = .ok (.aload_n 3, 1) := by decide +kernel
theorem dT1_33 : decode jdk_52_method_14_code 33 = .ok (.areturn, 1) := by decide +kernel
set_option maxRecDepth 65536 in
set_option maxHeartbeats 40000000 in
theorem rmT1 {l : Launch} {Z : State} {a0 : Array Value} {n0 : Nat} (X : Ctx Z a0) {a : Addr} {ka : ClassId} {c0 : Int32} {dv : Value} {h : Heap} (hO : Old Z n0 h) (Va : Arv Z h a ka .char (1 : Int32) [(.int c0)] dv) :
    Ctr l Z EL1 n0 (⟨"java/lang/StringUTF16", "toBytes", "([CII)[B"⟩ : MethodName) jdk_52_method_14_code 5 (some (.array .byte)) ({ frames := 2, cells := 1, slots := 2, locals := 28 } : Room) #[(.ref a), (.int (0 : Int32)), (.int (1 : Int32))] h [] (fun v h' => ∃ u ku, v = some (.ref u) ∧ Ext h h' ∧ Arv Z h' u ku .byte (2 : Int32) [(.int (StrChars.lo8 c0)), (.int (StrChars.hi8 c0))] (.int (0 : Int32))) := by
  have hw := X.hw
  obtain ⟨z1, hz1, hz2⟩ := X.2.2.1
  refine Ctr.intro (a0 := a0) (plainFor_of_name pn0) hO X.ew ?_
  intro p e s m below meth c T0 V0 S0 hby hml hret hnm hsf
  rw [ef4]
  refine s_iloadN S0 (hb hby dT1_0) rfl (pc' := 1) rfl ?_
  show Go p e below _ (T0.setTop (mkF m 1 #[.val (.ref a), .val (.int (0 : Int32)), .val (.int (1 : Int32)), .unset, .unset] [(.int (1 : Int32))]))
  refine g_static S0 (rmNB1 X S0.old) (fun _ q => nomatch q) (w94 hw) (w95 hw) (w57 hw) (w96 hw) (by decide) (hb hby dT1_1) (by rw [hml]; rfl) [(.int (1 : Int32))] (lenOf pd1 rfl) rfl rfl (Nat.le_of_ble_eq_true rfl) (Nat.le_of_ble_eq_true rfl) (Nat.le_of_ble_eq_true rfl) (Nat.le_of_ble_eq_true rfl) ?_
  intro v191 T191 V191 h191 S191 C191 q191
  obtain ⟨u, ku, rfl, Eu, fru, ltu, nau, sfu, Vu⟩ := q191
  show Go p e below _ (T191.setTop (mkF m 4 #[.val (.ref a), .val (.int (0 : Int32)), .val (.int (1 : Int32)), .unset, .unset] [(.ref u)]))
  refine s_astoreN S191 (hb hby dT1_4) rfl (L' := #[.val (.ref a), .val (.int (0 : Int32)), .val (.int (1 : Int32)), .val (.ref u), .unset]) rfl (pc' := 5) rfl ?_
  refine s_iconst S191 (hb hby dT1_5) (v := (0 : Int32)) rfl (pc' := 6) rfl ?_
  refine s_istore S191 (hb hby dT1_6) (L' := #[.val (.ref a), .val (.int (0 : Int32)), .val (.int (1 : Int32)), .val (.ref u), .val (.int (0 : Int32))]) rfl (pc' := 8) rfl ?_
  refine s_iload S191 (hb hby dT1_8) rfl (pc' := 10) rfl ?_
  refine s_iloadN S191 (hb hby dT1_10) rfl (pc' := 11) rfl ?_
  refine s_icmpN S191 (hb hby dT1_11) (by decide) (pc' := 14) rfl ?_
  refine s_aloadN S191 (hb hby dT1_14) rfl rfl (pc' := 15) rfl ?_
  refine s_iload S191 (hb hby dT1_15) rfl (pc' := 17) rfl ?_
  refine s_aloadN S191 (hb hby dT1_17) rfl rfl (pc' := 18) rfl ?_
  refine s_iloadN S191 (hb hby dT1_18) rfl (pc' := 19) rfl ?_
  have Va192 := Va.ext Eu
  refine g_caload S191 Va192 ⟨by decide, by decide⟩ (x := c0) rfl (hb hby dT1_19) ?_
  show Go p e below _ (T191.setTop (mkF m 20 #[.val (.ref a), .val (.int (0 : Int32)), .val (.int (1 : Int32)), .val (.ref u), .val (.int (0 : Int32))] [(.int c0), (.int (0 : Int32)), (.ref u)]))
  show Go p e below _ (T191.setTop (mkF m 20 #[.val (.ref a), .val (.int (0 : Int32)), .val (.int (1 : Int32)), .val (.ref u), .val (.int (0 : Int32))] [(.int c0), (.int (0 : Int32)), (.ref u)]))
  refine g_static S191 (rmPC10 X c0 nau S191.old Vu) (sf1 (Vu).lt sfu) (w101 hw) (w102 hw) (w57 hw) (w103 hw) (by decide) (hb hby dT1_20) (by rw [hml]; rfl) [(.ref u), (.int (0 : Int32)), (.int c0)] (lenOf pd2 rfl) rfl rfl (Nat.le_of_ble_eq_true rfl) (Nat.le_of_ble_eq_true rfl) (Nat.le_of_ble_eq_true rfl) (Nat.le_of_ble_eq_true rfl) ?_
  intro v194 T194 V194 h194 S194 C194 q194
  obtain ⟨rfl, Kk193, Vk193⟩ := q194
  have sfk193 := C194.safe (Vu).lt sfu
  show Go p e below _ (T194.setTop (mkF m 23 #[.val (.ref a), .val (.int (0 : Int32)), .val (.int (1 : Int32)), .val (.ref u), .val (.int (0 : Int32))] []))
  refine s_iinc S194 (hb hby dT1_23) rfl (z := (1 : Int32)) rfl (L' := #[.val (.ref a), .val (.int (1 : Int32)), .val (.int (1 : Int32)), .val (.ref u), .val (.int (0 : Int32))]) rfl (pc' := 26) rfl ?_
  refine s_iinc S194 (hb hby dT1_26) rfl (z := (1 : Int32)) rfl (L' := #[.val (.ref a), .val (.int (1 : Int32)), .val (.int (1 : Int32)), .val (.ref u), .val (.int (1 : Int32))]) rfl (pc' := 29) rfl ?_
  refine s_goto S194 (hb hby dT1_29) (by decide) (pcT := 8) (by decide) ?_
  refine s_iload S194 (hb hby dT1_8) rfl (pc' := 10) rfl ?_
  refine s_iloadN S194 (hb hby dT1_10) rfl (pc' := 11) rfl ?_
  refine s_icmpY S194 (hb hby dT1_11) (by decide) (by decide) (pcT := 32) (by decide) ?_
  refine s_aloadN S194 (hb hby dT1_32) rfl rfl (pc' := 33) rfl ?_
  show Go p e below _ (T194.setTop (mkF m 33 #[.val (.ref a), .val (.int (1 : Int32)), .val (.int (1 : Int32)), .val (.ref u), .val (.int (1 : Int32))] [(.ref u)]))
  have X195 : Ext h h194 := ext_keep1 Eu Kk193 fru
  exact g_aret S194 (hb hby dT1_33) hret rfl rfl rfl ⟨u, ku, rfl, X195, Vk193⟩
theorem dC51_0 : decode jdk_52_method_21_code 0 = .ok (.iconst 0, 1) := by decide +kernel
theorem dC51_1 : decode jdk_52_method_21_code 1 = .ok (.istore 5, 2) := by decide +kernel
theorem dC51_3 : decode jdk_52_method_21_code 3 = .ok (.iload 5, 2) := by decide +kernel
theorem dC51_5 : decode jdk_52_method_21_code 5 = .ok (.iload 4, 2) := by decide +kernel
theorem dC51_7 : decode jdk_52_method_21_code 7 = .ok (.if_icmp .ge 37, 3) := by decide +kernel
theorem dC51_10 : decode jdk_52_method_21_code 10 = .ok (.aload_n 0, 1) := by decide +kernel
theorem dC51_11 : decode jdk_52_method_21_code 11 = .ok (.iload_n 1, 1) := by decide +kernel
theorem dC51_12 : decode jdk_52_method_21_code 12 = .ok (.caload, 1) := by decide +kernel
theorem dC51_13 : decode jdk_52_method_21_code 13 = .ok (.istore 6, 2) := by decide +kernel
theorem dC51_15 : decode jdk_52_method_21_code 15 = .ok (.iload 6, 2) := by decide +kernel
theorem dC51_17 : decode jdk_52_method_21_code 17 = .ok (.sipush 255, 3) := by decide +kernel
theorem dC51_20 : decode jdk_52_method_21_code 20 = .ok (.if_icmp .le 6, 3) := by decide +kernel
theorem dC51_23 : decode jdk_52_method_21_code 23 = .ok (.iload 5, 2) := by decide +kernel
theorem dC51_25 : decode jdk_52_method_21_code 25 = .ok (.ireturn, 1) := by decide +kernel
theorem dC51_26 : decode jdk_52_method_21_code 26 = .ok (.aload_n 2, 1) := by decide +kernel
theorem dC51_27 : decode jdk_52_method_21_code 27 = .ok (.iload_n 3, 1) := by decide +kernel
theorem dC51_28 : decode jdk_52_method_21_code 28 = .ok (.iload 6, 2) := by decide +kernel
theorem dC51_30 : decode jdk_52_method_21_code 30 = .ok (.i2b, 1) := by decide +kernel
theorem dC51_31 : decode jdk_52_method_21_code 31 = .ok (.bastore, 1) := by decide +kernel
theorem dC51_32 : decode jdk_52_method_21_code 32 = .ok (.iinc 1 1, 3) := by decide +kernel
theorem dC51_35 : decode jdk_52_method_21_code 35 = .ok (.iinc 3 1, 3) := by decide +kernel
theorem dC51_38 : decode jdk_52_method_21_code 38 = .ok (.iinc 5 1, 3) := by decide +kernel
theorem dC51_41 : decode jdk_52_method_21_code 41 = .ok (.goto (-38), 3) := by decide +kernel
set_option maxRecDepth 65536 in
set_option maxHeartbeats 40000000 in
theorem rmC51 {l : Launch} {Z : State} {a0 : Array Value} {n0 : Nat} (X : Ctx Z a0) {a b : Addr} {ka kb : ClassId} {c0 : Int32} {v0 dv : Value} (na : n0 ≤ b) (hab : a ≠ b) {h : Heap} (hO : Old Z n0 h) (Va : Arv Z h a ka .char (1 : Int32) [(.int c0)] dv) (Vb : Arv Z h b kb .byte (1 : Int32) [v0] (.int (0 : Int32))) (hwd : (255 : Int32) < c0) :
    Ctr l Z EL1 n0 (⟨"java/lang/StringUTF16", "compress", "([CI[BII)I"⟩ : MethodName) jdk_52_method_21_code 7 (some .int) ({ frames := 0, cells := 0, slots := 0, locals := 0 } : Room) #[(.ref a), (.int (0 : Int32)), (.ref b), (.int (0 : Int32)), (.int (1 : Int32))] h [b] (fun v h' => ((v = some (.int (0 : Int32)) ∧ (255 : Int32) < c0)) ∧ Keep h h' [b]) := by
  have hw := X.hw
  obtain ⟨z1, hz1, hz2⟩ := X.2.2.1
  refine Ctr.intro (a0 := a0) (plainFor_of_name pn0) hO X.ew ?_
  intro p e s m below meth c T0 V0 S0 hby hml hret hnm hsf
  rw [ef5]
  refine s_iconst S0 (hb hby dC51_0) (v := (0 : Int32)) rfl (pc' := 1) rfl ?_
  refine s_istore S0 (hb hby dC51_1) (L' := #[.val (.ref a), .val (.int (0 : Int32)), .val (.ref b), .val (.int (0 : Int32)), .val (.int (1 : Int32)), .val (.int (0 : Int32)), .unset]) rfl (pc' := 3) rfl ?_
  refine s_iload S0 (hb hby dC51_3) rfl (pc' := 5) rfl ?_
  refine s_iload S0 (hb hby dC51_5) rfl (pc' := 7) rfl ?_
  refine s_icmpN S0 (hb hby dC51_7) (by decide) (pc' := 10) rfl ?_
  refine s_aloadN S0 (hb hby dC51_10) rfl rfl (pc' := 11) rfl ?_
  refine s_iloadN S0 (hb hby dC51_11) rfl (pc' := 12) rfl ?_
  refine g_caload S0 Va ⟨by decide, by decide⟩ (x := c0) rfl (hb hby dC51_12) ?_
  show Go p e below _ (T0.setTop (mkF m 13 #[.val (.ref a), .val (.int (0 : Int32)), .val (.ref b), .val (.int (0 : Int32)), .val (.int (1 : Int32)), .val (.int (0 : Int32)), .unset] [(.int c0)]))
  refine s_istore S0 (hb hby dC51_13) (L' := #[.val (.ref a), .val (.int (0 : Int32)), .val (.ref b), .val (.int (0 : Int32)), .val (.int (1 : Int32)), .val (.int (0 : Int32)), .val (.int c0)]) rfl (pc' := 15) rfl ?_
  refine s_iload S0 (hb hby dC51_15) rfl (pc' := 17) rfl ?_
  refine s_sipush S0 (hb hby dC51_17) (v := (255 : Int32)) rfl (pc' := 20) rfl ?_
  refine g_icmp S0 (hb hby dC51_20) (by decide) (pcT := 26) (by decide) (fun q => ?_) (fun q => ?_)
  · have hc20_196 : ¬ (255 : Int32) < c0 := icT_le q
    show Go p e below _ (T0.setTop (mkF m 26 #[.val (.ref a), .val (.int (0 : Int32)), .val (.ref b), .val (.int (0 : Int32)), .val (.int (1 : Int32)), .val (.int (0 : Int32)), .val (.int c0)] []))
    refine s_aloadN S0 (hb hby dC51_26) rfl rfl (pc' := 27) rfl ?_
    refine s_iloadN S0 (hb hby dC51_27) rfl (pc' := 28) rfl ?_
    refine s_iload S0 (hb hby dC51_28) rfl (pc' := 30) rfl ?_
    refine s_i2b S0 (hb hby dC51_30) (z := (c0.toInt8.toInt32)) rfl (pc' := 31) rfl ?_
    show Go p e below _ (T0.setTop (mkF m 31 #[.val (.ref a), .val (.int (0 : Int32)), .val (.ref b), .val (.int (0 : Int32)), .val (.int (1 : Int32)), .val (.int (0 : Int32)), .val (.int c0)] [(.int (c0.toInt8.toInt32)), (.int (0 : Int32)), (.ref b)]))
    refine g_bastore S0 Vb ⟨by decide, by decide⟩ 0 rfl (Nat.le_of_ble_eq_true rfl) na (hsf b List.mem_cons_self) (hb hby dC51_31) ?_
    intro T197 h197 S197 K197 V197 sg197
    have sf198 := Safe.keep K197 (sfS (hsf b List.mem_cons_self) sf0) S0.chv (hsf b List.mem_cons_self)
    rw [own_nb c0] at V197
    have V197 : Arv Z h197 b kb .byte (1 : Int32) [(.int (StrChars.lo8 c0))] (.int (0 : Int32)) := V197
    show Go p e below _ (T197.setTop (mkF m 32 #[.val (.ref a), .val (.int (0 : Int32)), .val (.ref b), .val (.int (0 : Int32)), .val (.int (1 : Int32)), .val (.int (0 : Int32)), .val (.int c0)] []))
    refine s_iinc S197 (hb hby dC51_32) rfl (z := (1 : Int32)) rfl (L' := #[.val (.ref a), .val (.int (1 : Int32)), .val (.ref b), .val (.int (0 : Int32)), .val (.int (1 : Int32)), .val (.int (0 : Int32)), .val (.int c0)]) rfl (pc' := 35) rfl ?_
    refine s_iinc S197 (hb hby dC51_35) rfl (z := (1 : Int32)) rfl (L' := #[.val (.ref a), .val (.int (1 : Int32)), .val (.ref b), .val (.int (1 : Int32)), .val (.int (1 : Int32)), .val (.int (0 : Int32)), .val (.int c0)]) rfl (pc' := 38) rfl ?_
    refine s_iinc S197 (hb hby dC51_38) rfl (z := (1 : Int32)) rfl (L' := #[.val (.ref a), .val (.int (1 : Int32)), .val (.ref b), .val (.int (1 : Int32)), .val (.int (1 : Int32)), .val (.int (1 : Int32)), .val (.int c0)]) rfl (pc' := 41) rfl ?_
    refine s_goto S197 (hb hby dC51_41) (by decide) (pcT := 3) (by decide) ?_
    refine s_iload S197 (hb hby dC51_3) rfl (pc' := 5) rfl ?_
    refine s_iload S197 (hb hby dC51_5) rfl (pc' := 7) rfl ?_
    refine s_icmpY S197 (hb hby dC51_7) (by decide) (by decide) (pcT := 44) (by decide) ?_
    exact absurd hwd (by simp [hc20_196])
  · have hc20_196 : (255 : Int32) < c0 := icF_le q
    show Go p e below _ (T0.setTop (mkF m 23 #[.val (.ref a), .val (.int (0 : Int32)), .val (.ref b), .val (.int (0 : Int32)), .val (.int (1 : Int32)), .val (.int (0 : Int32)), .val (.int c0)] []))
    refine s_iload S0 (hb hby dC51_23) rfl (pc' := 25) rfl ?_
    show Go p e below _ (T0.setTop (mkF m 25 #[.val (.ref a), .val (.int (0 : Int32)), .val (.ref b), .val (.int (0 : Int32)), .val (.int (1 : Int32)), .val (.int (0 : Int32)), .val (.int c0)] [(.int (0 : Int32))]))
    have KA199 : Keep h h [b] := (Keep.refl h [b])
    exact g_iret S0 (hb hby dC51_25) hret ⟨⟨rfl, hc20_196⟩, KA199⟩
theorem dC31_0 : decode jdk_52_method_16_code 0 = .ok (.iload_n 2, 1) := by decide +kernel
theorem dC31_1 : decode jdk_52_method_16_code 1 = .ok (.newarray .byte, 2) := by decide +kernel
theorem dC31_3 : decode jdk_52_method_16_code 3 = .ok (.astore_n 3, 1) := by decide +kernel
theorem dC31_4 : decode jdk_52_method_16_code 4 = .ok (.aload_n 0, 1) := by decide +kernel
theorem dC31_5 : decode jdk_52_method_16_code 5 = .ok (.iload_n 1, 1) := by decide +kernel
theorem dC31_6 : decode jdk_52_method_16_code 6 = .ok (.aload_n 3, 1) := by decide +kernel
theorem dC31_7 : decode jdk_52_method_16_code 7 = .ok (.iconst 0, 1) := by decide +kernel
theorem dC31_8 : decode jdk_52_method_16_code 8 = .ok (.iload_n 2, 1) := by decide +kernel
theorem dC31_9 : decode jdk_52_method_16_code 9 = .ok (.invokestatic 115, 3) := by decide +kernel
theorem dC31_12 : decode jdk_52_method_16_code 12 = .ok (.istore 4, 2) := by decide +kernel
theorem dC31_14 : decode jdk_52_method_16_code 14 = .ok (.iload 4, 2) := by decide +kernel
theorem dC31_16 : decode jdk_52_method_16_code 16 = .ok (.iload_n 2, 1) := by decide +kernel
theorem dC31_17 : decode jdk_52_method_16_code 17 = .ok (.if_icmp .eq 40, 3) := by decide +kernel
theorem dC31_20 : decode jdk_52_method_16_code 20 = .ok (.aload_n 0, 1) := by decide +kernel
theorem dC31_21 : decode jdk_52_method_16_code 21 = .ok (.iload_n 1, 1) := by decide +kernel
theorem dC31_22 : decode jdk_52_method_16_code 22 = .ok (.iload_n 2, 1) := by decide +kernel
theorem dC31_23 : decode jdk_52_method_16_code 23 = .ok (.invokestatic 119, 3) := by decide +kernel
theorem dC31_26 : decode jdk_52_method_16_code 26 = .ok (.astore 5, 2) := by decide +kernel
theorem dC31_28 : decode jdk_52_method_16_code 28 = .ok (.aload 5, 2) := by decide +kernel
theorem dC31_30 : decode jdk_52_method_16_code 30 = .ok (.iload 4, 2) := by decide +kernel
theorem dC31_32 : decode jdk_52_method_16_code 32 = .ok (.invokestatic 71, 3) := by decide +kernel
theorem dC31_35 : decode jdk_52_method_16_code 35 = .ok (.sipush 255, 3) := by decide +kernel
theorem dC31_38 : decode jdk_52_method_16_code 38 = .ok (.if_icmp .gt 16, 3) := by decide +kernel
theorem dC31_54 : decode jdk_52_method_16_code 54 = .ok (.aload 5, 2) := by decide +kernel
theorem dC31_56 : decode jdk_52_method_16_code 56 = .ok (.areturn, 1) := by decide +kernel
set_option maxRecDepth 65536 in
set_option maxHeartbeats 40000000 in
theorem rmC31 {l : Launch} {Z : State} {a0 : Array Value} {n0 : Nat} (X : Ctx Z a0) {a : Addr} {ka : ClassId} {c0 : Int32} {dv : Value} {h : Heap} (hO : Old Z n0 h) (Va : Arv Z h a ka .char (1 : Int32) [(.int c0)] dv) (rc0 : ¬ c0 < 0 ∧ ¬ (65535 : Int32) < c0) (hwd : (255 : Int32) < c0) :
    Ctr l Z EL1 n0 (⟨"java/lang/StringUTF16", "compress", "([CII)[B"⟩ : MethodName) jdk_52_method_16_code 6 (some (.array .byte)) ({ frames := 3, cells := 2, slots := 3, locals := 47 } : Room) #[(.ref a), (.int (0 : Int32)), (.int (1 : Int32))] h [] (fun v h' => ∃ u ku, v = some (.ref u) ∧ Ext h h' ∧ Arv Z h' u ku .byte (2 : Int32) [(.int (StrChars.lo8 c0)), (.int (StrChars.hi8 c0))] (.int (0 : Int32))) := by
  have hw := X.hw
  obtain ⟨z1, hz1, hz2⟩ := X.2.2.1
  refine Ctr.intro (a0 := a0) (plainFor_of_name pn0) hO X.ew ?_
  intro p e s m below meth c T0 V0 S0 hby hml hret hnm hsf
  rw [ef6]
  refine s_iloadN S0 (hb hby dC31_0) rfl (pc' := 1) rfl ?_
  refine g_newarr (aty := .byte) S0 (w24 hw) (hb hby dC31_1) (by decide) (cap := 1) (by decide) (by decide) (Nat.le_of_ble_eq_true rfl) (Nat.le_of_ble_eq_true rfl) ?_
  intro T200 h200 b200 kc200 S200 E200 fr200 lt200 na200 sf200 A200
  have V200 : Arv Z h200 b200 kc200 .byte (1 : Int32) [(.int (0 : Int32))] (.int (0 : Int32)) := A200 1
  show Go p e below _ (T200.setTop (mkF m 3 #[.val (.ref a), .val (.int (0 : Int32)), .val (.int (1 : Int32)), .unset, .unset, .unset] [(.ref b200)]))
  refine s_astoreN S200 (hb hby dC31_3) rfl (L' := #[.val (.ref a), .val (.int (0 : Int32)), .val (.int (1 : Int32)), .val (.ref b200), .unset, .unset]) rfl (pc' := 4) rfl ?_
  refine s_aloadN S200 (hb hby dC31_4) rfl rfl (pc' := 5) rfl ?_
  refine s_iloadN S200 (hb hby dC31_5) rfl (pc' := 6) rfl ?_
  refine s_aloadN S200 (hb hby dC31_6) rfl rfl (pc' := 7) rfl ?_
  refine s_iconst S200 (hb hby dC31_7) (v := (0 : Int32)) rfl (pc' := 8) rfl ?_
  refine s_iloadN S200 (hb hby dC31_8) rfl (pc' := 9) rfl ?_
  have Va201 := Va.ext E200
  show Go p e below _ (T200.setTop (mkF m 9 #[.val (.ref a), .val (.int (0 : Int32)), .val (.int (1 : Int32)), .val (.ref b200), .unset, .unset] [(.int (1 : Int32)), (.int (0 : Int32)), (.ref b200), (.int (0 : Int32)), (.ref a)]))
  refine g_static S200 (rmC51 X na200 (arv_kne Va201 V200 (by decide)) S200.old Va201 V200 hwd) (sf1 (V200).lt sf200) (w59 hw) (w60 hw) (w57 hw) (w61 hw) (by decide) (hb hby dC31_9) (by rw [hml]; rfl) [(.ref a), (.int (0 : Int32)), (.ref b200), (.int (0 : Int32)), (.int (1 : Int32))] (lenOf pd3 rfl) rfl rfl (Nat.le_of_ble_eq_true rfl) (Nat.le_of_ble_eq_true rfl) (Nat.le_of_ble_eq_true rfl) (Nat.le_of_ble_eq_true rfl) ?_
  intro v203 T203 V203 h203 S203 C203 q203
  obtain ⟨hq202, Kq202⟩ := q203
  rcases hq202 with ⟨rfl, hq202⟩
  · skip
    show Go p e below _ (T203.setTop (mkF m 12 #[.val (.ref a), .val (.int (0 : Int32)), .val (.int (1 : Int32)), .val (.ref b200), .unset, .unset] [(.int (0 : Int32))]))
    refine s_istore S203 (hb hby dC31_12) (L' := #[.val (.ref a), .val (.int (0 : Int32)), .val (.int (1 : Int32)), .val (.ref b200), .val (.int (0 : Int32)), .unset]) rfl (pc' := 14) rfl ?_
    refine s_iload S203 (hb hby dC31_14) rfl (pc' := 16) rfl ?_
    refine s_iloadN S203 (hb hby dC31_16) rfl (pc' := 17) rfl ?_
    refine s_icmpN S203 (hb hby dC31_17) (by decide) (pc' := 20) rfl ?_
    refine s_aloadN S203 (hb hby dC31_20) rfl rfl (pc' := 21) rfl ?_
    refine s_iloadN S203 (hb hby dC31_21) rfl (pc' := 22) rfl ?_
    refine s_iloadN S203 (hb hby dC31_22) rfl (pc' := 23) rfl ?_
    have X204 : Ext h h203 := ext_keep1 E200 Kq202 fr200
    have Va205 := Va.ext X204
    show Go p e below _ (T203.setTop (mkF m 23 #[.val (.ref a), .val (.int (0 : Int32)), .val (.int (1 : Int32)), .val (.ref b200), .val (.int (0 : Int32)), .unset] [(.int (1 : Int32)), (.int (0 : Int32)), (.ref a)]))
    refine g_static S203 (rmT1 X S203.old Va205) (fun _ q => nomatch q) (w91 hw) (w92 hw) (w57 hw) (w93 hw) (by decide) (hb hby dC31_23) (by rw [hml]; rfl) [(.ref a), (.int (0 : Int32)), (.int (1 : Int32))] (lenOf pd4 rfl) rfl rfl (Nat.le_of_ble_eq_true rfl) (Nat.le_of_ble_eq_true rfl) (Nat.le_of_ble_eq_true rfl) (Nat.le_of_ble_eq_true rfl) ?_
    intro v206 T206 V206 h206 S206 C206 q206
    obtain ⟨u, ku, rfl, Eu, Vu⟩ := q206
    show Go p e below _ (T206.setTop (mkF m 26 #[.val (.ref a), .val (.int (0 : Int32)), .val (.int (1 : Int32)), .val (.ref b200), .val (.int (0 : Int32)), .unset] [(.ref u)]))
    refine s_astore S206 (hb hby dC31_26) rfl (L' := #[.val (.ref a), .val (.int (0 : Int32)), .val (.int (1 : Int32)), .val (.ref b200), .val (.int (0 : Int32)), .val (.ref u)]) rfl (pc' := 28) rfl ?_
    refine s_aload S206 (hb hby dC31_28) rfl rfl (pc' := 30) rfl ?_
    refine s_iload S206 (hb hby dC31_30) rfl (pc' := 32) rfl ?_
    show Go p e below _ (T206.setTop (mkF m 32 #[.val (.ref a), .val (.int (0 : Int32)), .val (.int (1 : Int32)), .val (.ref b200), .val (.int (0 : Int32)), .val (.ref u)] [(.int (0 : Int32)), (.ref u)]))
    refine g_static S206 (rmGC10 X S206.old Vu rc0) (fun _ q => nomatch q) (w107 hw) (w108 hw) (w57 hw) (w109 hw) (by decide) (hb hby dC31_32) (by rw [hml]; rfl) [(.ref u), (.int (0 : Int32))] (lenOf pd5 rfl) rfl rfl (Nat.le_of_ble_eq_true rfl) (Nat.le_of_ble_eq_true rfl) (Nat.le_of_ble_eq_true rfl) (Nat.le_of_ble_eq_true rfl) ?_
    intro v207 T207 V207 h207 S207 C207 q207
    obtain ⟨rfl, rfl⟩ := q207
    show Go p e below _ (T207.setTop (mkF m 35 #[.val (.ref a), .val (.int (0 : Int32)), .val (.int (1 : Int32)), .val (.ref b200), .val (.int (0 : Int32)), .val (.ref u)] [(.int c0)]))
    refine s_sipush S207 (hb hby dC31_35) (v := (255 : Int32)) rfl (pc' := 38) rfl ?_
    refine s_icmpY S207 (hb hby dC31_38) ((tlt hq202).2.2.1) (by decide) (pcT := 54) (by decide) ?_
    refine s_aload S207 (hb hby dC31_54) rfl rfl (pc' := 56) rfl ?_
    show Go p e below _ (T207.setTop (mkF m 56 #[.val (.ref a), .val (.int (0 : Int32)), .val (.int (1 : Int32)), .val (.ref b200), .val (.int (0 : Int32)), .val (.ref u)] [(.ref u)]))
    have X208 : Ext h h207 := ext_trans X204 Eu
    exact g_aret S207 (hb hby dC31_56) hret rfl rfl rfl ⟨u, ku, rfl, X208, Vu⟩
theorem dCL1_0 : decode jdk_52_method_15_code 0 = .ok (.iload_n 1, 1) := by decide +kernel
theorem dCL1_1 : decode jdk_52_method_15_code 1 = .ok (.aload_n 0, 1) := by decide +kernel
theorem dCL1_2 : decode jdk_52_method_15_code 2 = .ok (.arraylength, 1) := by decide +kernel
theorem dCL1_3 : decode jdk_52_method_15_code 3 = .ok (.isub, 1) := by decide +kernel
theorem dCL1_4 : decode jdk_52_method_15_code 4 = .ok (.bipush 31, 2) := by decide +kernel
theorem dCL1_6 : decode jdk_52_method_15_code 6 = .ok (.iushr, 1) := by decide +kernel
theorem dCL1_7 : decode jdk_52_method_15_code 7 = .ok (.i2b, 1) := by decide +kernel
theorem dCL1_8 : decode jdk_52_method_15_code 8 = .ok (.ireturn, 1) := by decide +kernel
set_option maxRecDepth 65536 in
set_option maxHeartbeats 40000000 in
theorem rmCL1 {l : Launch} {Z : State} {a0 : Array Value} {n0 : Nat} (X : Ctx Z a0) {u : Addr} {ku : ClassId} {vs : List Value} {dv : Value} {h : Heap} (hO : Old Z n0 h) (Vu : Arv Z h u ku .byte (2 : Int32) vs dv) :
    Ctr l Z EL1 n0 (⟨"java/lang/StringUTF16", "coderFromArrayLen", "([BI)B"⟩ : MethodName) jdk_52_method_15_code 2 (some .byte) ({ frames := 0, cells := 0, slots := 0, locals := 0 } : Room) #[(.ref u), (.int (1 : Int32))] h [] (fun v h' => v = some (.int 1) ∧ h' = h) := by
  have hw := X.hw
  obtain ⟨z1, hz1, hz2⟩ := X.2.2.1
  refine Ctr.intro (a0 := a0) (plainFor_of_name pn0) hO X.ew ?_
  intro p e s m below meth c T0 V0 S0 hby hml hret hnm hsf
  rw [ef1]
  refine s_iloadN S0 (hb hby dCL1_0) rfl (pc' := 1) rfl ?_
  refine s_aloadN S0 (hb hby dCL1_1) rfl rfl (pc' := 2) rfl ?_
  refine g_len S0 Vu (hb hby dCL1_2) ?_
  show Go p e below _ (T0.setTop (mkF m 3 #[.val (.ref u), .val (.int (1 : Int32))] [(.int (2 : Int32)), (.int (1 : Int32))]))
  refine s_isub S0 (hb hby dCL1_3) (z := (-1 : Int32)) rfl (pc' := 4) rfl ?_
  refine s_bipush S0 (hb hby dCL1_4) (v := (31 : Int32)) rfl (pc' := 6) rfl ?_
  refine s_iushr S0 (hb hby dCL1_6) (z := (1 : Int32)) (by decide) (pc' := 7) rfl ?_
  refine s_i2b S0 (hb hby dCL1_7) (z := (1 : Int32)) (by decide) (pc' := 8) rfl ?_
  exact g_iretN S0 (hb hby dCL1_8) hret (by simp) ⟨rfl, rfl⟩
theorem dW41_0 : decode jdk_42_method_149_code 0 = .ok (.aload_n 0, 1) := by decide +kernel
theorem dW41_1 : decode jdk_42_method_149_code 1 = .ok (.invokespecial 1, 3) := by decide +kernel
theorem dW41_4 : decode jdk_42_method_149_code 4 = .ok (.iload_n 3, 1) := by decide +kernel
theorem dW41_5 : decode jdk_42_method_149_code 5 = .ok (.ifCond .ne 22, 3) := by decide +kernel
theorem dW41_27 : decode jdk_42_method_149_code 27 = .ok (.getstatic 38, 3) := by decide +kernel
theorem dW41_30 : decode jdk_42_method_149_code 30 = .ok (.ifCond .eq 28, 3) := by decide +kernel
theorem dW41_33 : decode jdk_42_method_149_code 33 = .ok (.aload_n 1, 1) := by decide +kernel
theorem dW41_34 : decode jdk_42_method_149_code 34 = .ok (.iload_n 2, 1) := by decide +kernel
theorem dW41_35 : decode jdk_42_method_149_code 35 = .ok (.iload_n 3, 1) := by decide +kernel
theorem dW41_36 : decode jdk_42_method_149_code 36 = .ok (.invokestatic 177, 3) := by decide +kernel
theorem dW41_39 : decode jdk_42_method_149_code 39 = .ok (.astore 5, 2) := by decide +kernel
theorem dW41_41 : decode jdk_42_method_149_code 41 = .ok (.aload_n 0, 1) := by decide +kernel
theorem dW41_42 : decode jdk_42_method_149_code 42 = .ok (.aload 5, 2) := by decide +kernel
theorem dW41_44 : decode jdk_42_method_149_code 44 = .ok (.iload_n 3, 1) := by decide +kernel
theorem dW41_45 : decode jdk_42_method_149_code 45 = .ok (.invokestatic 47, 3) := by decide +kernel
theorem dW41_48 : decode jdk_42_method_149_code 48 = .ok (.putfield 15, 3) := by decide +kernel
theorem dW41_51 : decode jdk_42_method_149_code 51 = .ok (.aload_n 0, 1) := by decide +kernel
theorem dW41_52 : decode jdk_42_method_149_code 52 = .ok (.aload 5, 2) := by decide +kernel
theorem dW41_54 : decode jdk_42_method_149_code 54 = .ok (.putfield 9, 3) := by decide +kernel
theorem dW41_57 : decode jdk_42_method_149_code 57 = .ok (.return_, 1) := by decide +kernel
set_option maxRecDepth 65536 in
set_option maxHeartbeats 40000000 in
theorem rmW41 {l : Launch} {Z : State} {a0 : Array Value} {n0 : Nat} (X : Ctx Z a0) {x b : Addr} {kb : ClassId} {c0 : Int32} {v0 c0_ dv : Value} (na : n0 ≤ x) {h : Heap} (hO : Old Z n0 h) (E : Exa Z h x ST) (Fv : Fld Z h x ST "value" "[B" v0) (Fc : Fld Z h x ST "coder" "B" c0_) (Vb : Arv Z h b kb .char (1 : Int32) [(.int c0)] dv) (rc0 : ¬ c0 < 0 ∧ ¬ (65535 : Int32) < c0) (hwd : (255 : Int32) < c0) :
    Ctr l Z EL1 n0 (⟨"java/lang/String", "<init>", "([CIILjava/lang/Void;)V"⟩ : MethodName) jdk_42_method_149_code 6 none ({ frames := 4, cells := 2, slots := 3, locals := 65 } : Room) #[(.ref x), (.ref b), (.int (0 : Int32)), (.int (1 : Int32)), .null] h [x] (fun v h' => v = none ∧ Keep h h' [x] ∧ StrF Z h' x [c0]) := by
  have hw := X.hw
  obtain ⟨z1, hz1, hz2⟩ := X.2.2.1
  refine Ctr.intro (a0 := a0) (plainFor_of_name pn1) hO X.ew ?_
  intro p e s m below meth c T0 V0 S0 hby hml hret hnm hsf
  rw [ef7]
  refine s_aloadN S0 (hb hby dW41_0) rfl rfl (pc' := 1) rfl ?_
  refine g_initO S0 (w20 hw) (w21 hw) (w22 hw) (by rw [hml]; rfl) (hb hby dW41_1) (Nat.le_of_ble_eq_true rfl) (Nat.le_of_ble_eq_true rfl) ?_
  intro T209 ST209
  show Go p e below _ (T209.setTop (mkF m 4 #[.val (.ref x), .val (.ref b), .val (.int (0 : Int32)), .val (.int (1 : Int32)), .val .null, .unset] []))
  refine s_iloadN ST209 (hb hby dW41_4) rfl (pc' := 5) rfl ?_
  refine s_ifY ST209 (hb hby dW41_5) (by decide) (by decide) (pcT := 27) (by decide) ?_
  refine g_getS ST209 (w54 hw) Via.refl (hz1.ext ST209.old.2) (hb hby dW41_27) ?_
  intro T210 ST210
  show Go p e below _ (T210.setTop (mkF m 30 #[.val (.ref x), .val (.ref b), .val (.int (0 : Int32)), .val (.int (1 : Int32)), .val .null, .unset] [(.int z1)]))
  refine s_ifN ST210 (hb hby dW41_30) ((if0 _ _).trans (feq hz2).1) (pc' := 33) rfl ?_
  refine s_aloadN ST210 (hb hby dW41_33) rfl rfl (pc' := 34) rfl ?_
  refine s_iloadN ST210 (hb hby dW41_34) rfl (pc' := 35) rfl ?_
  refine s_iloadN ST210 (hb hby dW41_35) rfl (pc' := 36) rfl ?_
  show Go p e below _ (T210.setTop (mkF m 36 #[.val (.ref x), .val (.ref b), .val (.int (0 : Int32)), .val (.int (1 : Int32)), .val .null, .unset] [(.int (1 : Int32)), (.int (0 : Int32)), (.ref b)]))
  refine g_static ST210 (rmC31 X ST210.old Vb rc0 hwd) (fun _ q => nomatch q) (w55 hw) (w56 hw) (w57 hw) (w58 hw) (by decide) (hb hby dW41_36) (by rw [hml]; rfl) [(.ref b), (.int (0 : Int32)), (.int (1 : Int32))] (lenOf pd4 rfl) rfl rfl (Nat.le_of_ble_eq_true rfl) (Nat.le_of_ble_eq_true rfl) (Nat.le_of_ble_eq_true rfl) (Nat.le_of_ble_eq_true rfl) ?_
  intro v211 T211 V211 h211 S211 C211 q211
  obtain ⟨u, ku, rfl, Eu, Vu⟩ := q211
  have sf212 := C211.safe E.lt (hsf x List.mem_cons_self)
  have neu : u ≠ x := fun q => by obtain ⟨c1, A1, -⟩ := Vu; exact ne_arr (E.ext Eu) (w11 hw) A1 q.symm
  show Go p e below _ (T211.setTop (mkF m 39 #[.val (.ref x), .val (.ref b), .val (.int (0 : Int32)), .val (.int (1 : Int32)), .val .null, .unset] [(.ref u)]))
  refine s_astore S211 (hb hby dW41_39) rfl (L' := #[.val (.ref x), .val (.ref b), .val (.int (0 : Int32)), .val (.int (1 : Int32)), .val .null, .val (.ref u)]) rfl (pc' := 41) rfl ?_
  refine s_aloadN S211 (hb hby dW41_41) rfl rfl (pc' := 42) rfl ?_
  refine s_aload S211 (hb hby dW41_42) rfl rfl (pc' := 44) rfl ?_
  refine s_iloadN S211 (hb hby dW41_44) rfl (pc' := 45) rfl ?_
  show Go p e below _ (T211.setTop (mkF m 45 #[.val (.ref x), .val (.ref b), .val (.int (0 : Int32)), .val (.int (1 : Int32)), .val .null, .val (.ref u)] [(.int (1 : Int32)), (.ref u), (.ref x)]))
  refine g_static S211 (rmCL1 X S211.old Vu) (fun _ q => nomatch q) (w62 hw) (w63 hw) (w57 hw) (w64 hw) (by decide) (hb hby dW41_45) (by rw [hml]; rfl) [(.ref u), (.int (1 : Int32))] (lenOf pd6 rfl) rfl rfl (Nat.le_of_ble_eq_true rfl) (Nat.le_of_ble_eq_true rfl) (Nat.le_of_ble_eq_true rfl) (Nat.le_of_ble_eq_true rfl) ?_
  intro v213 T213 V213 h213 S213 C213 q213
  obtain ⟨rfl, rfl⟩ := q213
  have sf214 := C213.safe (Nat.lt_of_lt_of_le E.lt (Nat.le_trans (Nat.le_refl _) Eu.1)) sf212
  show Go p e below _ (T213.setTop (mkF m 48 #[.val (.ref x), .val (.ref b), .val (.int (0 : Int32)), .val (.int (1 : Int32)), .val .null, .val (.ref u)] [(.int (1 : Int32)), (.ref x)]))
  show Go p e below _ (T213.setTop (mkF m 48 #[.val (.ref x), .val (.ref b), .val (.int (0 : Int32)), .val (.int (1 : Int32)), .val .null, .val (.ref u)] [(.int (1 : Int32)), (.ref x)]))
  have Fc216 := Fc.ext Eu
  have E217 := E.ext Eu
  have Fv218 := Fv.ext Eu
  refine g_putF S213 (w30 hw) Via.refl Fc216 E217 (Or.inr ⟨(w26 hw), rfl, hnm⟩) (w11 hw) (ty := .byte) (v' := (.int (1 : Int32))) (by decide) rfl rfl na sf214 (hb hby dW41_48) ?_
  intro T215 h215 S215 K215 W215 A215 F215 sg215
  have sf219 := Safe.keep K215 (sfS sf214 sf0) S213.chv sf214
  have F220 := Fv218.other W215 (Or.inr (slot_ne (Or.inr (w25 hw)) (Or.inr (w26 hw)) (by decide) (t := (.array .byte)) (t' := .byte) (by decide) (by decide)))
  show Go p e below _ (T215.setTop (mkF m 51 #[.val (.ref x), .val (.ref b), .val (.int (0 : Int32)), .val (.int (1 : Int32)), .val .null, .val (.ref u)] []))
  refine s_aloadN S215 (hb hby dW41_51) rfl rfl (pc' := 52) rfl ?_
  refine s_aload S215 (hb hby dW41_52) rfl rfl (pc' := 54) rfl ?_
  show Go p e below _ (T215.setTop (mkF m 54 #[.val (.ref x), .val (.ref b), .val (.int (0 : Int32)), .val (.int (1 : Int32)), .val .null, .val (.ref u)] [(.ref u), (.ref x)]))
  refine g_putF S215 (w29 hw) Via.refl F220 A215 (Or.inr ⟨(w25 hw), rfl, hnm⟩) (w11 hw) (ty := (.array .byte)) (v' := (.ref u)) (by decide) rfl rfl na sg215 (hb hby dW41_54) ?_
  intro T221 h221 S221 K221 W221 A221 F221 sg221
  have sf222 := Safe.keep K221 (sfS sg215 sf0) S215.chv sg215
  have F223 := F215.other W221 (Or.inr (slot_ne (Or.inr (w26 hw)) (Or.inr (w25 hw)) (by decide) (t := .byte) (t' := (.array .byte)) (by decide) (by decide)))
  show Go p e below _ (T221.setTop (mkF m 57 #[.val (.ref x), .val (.ref b), .val (.int (0 : Int32)), .val (.int (1 : Int32)), .val .null, .val (.ref u)] []))
  show Go p e below _ (T221.setTop (mkF m 57 #[.val (.ref x), .val (.ref b), .val (.int (0 : Int32)), .val (.int (1 : Int32)), .val .null, .val (.ref u)] []))
  have KA224 : Keep h h221 [x] := ((((Keep.refl h [x]).ext Eu).trans K215 (fun y hy => Or.inl hy)).trans K221 (fun y hy => Or.inl hy))
  have F225 := Vu.keep K215 (ninS neu nin0)
  have F226 := F225.keep K221 (ninS neu nin0)
  exact g_ret S221 (hb hby dW41_57) hret ⟨rfl, KA224, u, ku, 1, _, _, A221, F221, F223, F226, Or.inr ⟨rfl, rfl, rfl, own_ex1 hwd⟩, (faS rc0 (fa0)), (Nat.le_of_ble_eq_true rfl)⟩
theorem dW11_0 : decode jdk_42_method_3_code 0 = .ok (.aload_n 0, 1) := by decide +kernel
theorem dW11_1 : decode jdk_42_method_3_code 1 = .ok (.aload_n 1, 1) := by decide +kernel
theorem dW11_2 : decode jdk_42_method_3_code 2 = .ok (.iconst 0, 1) := by decide +kernel
theorem dW11_3 : decode jdk_42_method_3_code 3 = .ok (.aload_n 1, 1) := by decide +kernel
theorem dW11_4 : decode jdk_42_method_3_code 4 = .ok (.arraylength, 1) := by decide +kernel
theorem dW11_5 : decode jdk_42_method_3_code 5 = .ok (.aconst_null, 1) := by decide +kernel
theorem dW11_6 : decode jdk_42_method_3_code 6 = .ok (.invokespecial 27, 3) := by decide +kernel
theorem dW11_9 : decode jdk_42_method_3_code 9 = .ok (.return_, 1) := by decide +kernel
set_option maxRecDepth 65536 in
set_option maxHeartbeats 40000000 in
theorem rmW11 {l : Launch} {Z : State} {a0 : Array Value} {n0 : Nat} (X : Ctx Z a0) {x b : Addr} {kb : ClassId} {c0 : Int32} {v0 c0_ dv : Value} (na : n0 ≤ x) {h : Heap} (hO : Old Z n0 h) (E : Exa Z h x ST) (Fv : Fld Z h x ST "value" "[B" v0) (Fc : Fld Z h x ST "coder" "B" c0_) (Vb : Arv Z h b kb .char (1 : Int32) [(.int c0)] dv) (rc0 : ¬ c0 < 0 ∧ ¬ (65535 : Int32) < c0) (hwd : (255 : Int32) < c0) :
    Ctr l Z EL1 n0 (⟨"java/lang/String", "<init>", "([C)V"⟩ : MethodName) jdk_42_method_3_code 2 none ({ frames := 5, cells := 2, slots := 3, locals := 82 } : Room) #[(.ref x), (.ref b)] h [x] (fun v h' => v = none ∧ Keep h h' [x] ∧ StrF Z h' x [c0]) := by
  have hw := X.hw
  obtain ⟨z1, hz1, hz2⟩ := X.2.2.1
  refine Ctr.intro (a0 := a0) (plainFor_of_name pn1) hO X.ew ?_
  intro p e s m below meth c T0 V0 S0 hby hml hret hnm hsf
  rw [ef8]
  refine s_aloadN S0 (hb hby dW11_0) rfl rfl (pc' := 1) rfl ?_
  refine s_aloadN S0 (hb hby dW11_1) rfl rfl (pc' := 2) rfl ?_
  refine s_iconst S0 (hb hby dW11_2) (v := (0 : Int32)) rfl (pc' := 3) rfl ?_
  refine s_aloadN S0 (hb hby dW11_3) rfl rfl (pc' := 4) rfl ?_
  refine g_len S0 Vb (hb hby dW11_4) ?_
  show Go p e below _ (T0.setTop (mkF m 5 #[.val (.ref x), .val (.ref b)] [(.int (1 : Int32)), (.int (0 : Int32)), (.ref b), (.ref x)]))
  refine s_null S0 (hb hby dW11_5) (pc' := 6) rfl ?_
  show Go p e below _ (T0.setTop (mkF m 6 #[.val (.ref x), .val (.ref b)] [.null, (.int (1 : Int32)), (.int (0 : Int32)), (.ref b), (.ref x)]))
  refine g_special S0 (rmW41 X na S0.old E Fv Fc Vb rc0 hwd) (sf1 E.lt (hsf x List.mem_cons_self)) rfl (w16 hw) (w17 hw) (w12 hw) (w19 hw) (by decide) (hb hby dW11_6) (by rw [hml]; rfl) x [(.ref b), (.int (0 : Int32)), (.int (1 : Int32)), .null] (lenOf pd7 rfl) rfl rfl (Nat.le_of_ble_eq_true rfl) (Nat.le_of_ble_eq_true rfl) (Nat.le_of_ble_eq_true rfl) (Nat.le_of_ble_eq_true rfl) ?_
  intro v227 T227 V227 h227 S227 C227 q227
  obtain ⟨rfl, K6, F6⟩ := q227
  show Go p e below _ (T227.setTop (mkF m 9 #[.val (.ref x), .val (.ref b)] []))
  exact g_ret S227 (hb hby dW11_9) hret ⟨rfl, K6, F6⟩
theorem dNL2_0 : decode jdk_52_method_3_code 0 = .ok (.iload_n 0, 1) := by decide +kernel
theorem dNL2_1 : decode jdk_52_method_3_code 1 = .ok (.ifCond .ge 11, 3) := by decide +kernel
theorem dNL2_12 : decode jdk_52_method_3_code 12 = .ok (.iload_n 0, 1) := by decide +kernel
theorem dNL2_13 : decode jdk_52_method_3_code 13 = .ok (.ldc 20, 2) := by decide +kernel
theorem dNL2_15 : decode jdk_52_method_3_code 15 = .ok (.if_icmp .lt 40, 3) := by decide +kernel
theorem dNL2_55 : decode jdk_52_method_3_code 55 = .ok (.iload_n 0, 1) := by decide +kernel
theorem dNL2_56 : decode jdk_52_method_3_code 56 = .ok (.iconst 1, 1) := by decide +kernel
theorem dNL2_57 : decode jdk_52_method_3_code 57 = .ok (.ishl, 1) := by decide +kernel
theorem dNL2_58 : decode jdk_52_method_3_code 58 = .ok (.ireturn, 1) := by decide +kernel
set_option maxRecDepth 65536 in
set_option maxHeartbeats 40000000 in
theorem rmNL2 {l : Launch} {Z : State} {a0 : Array Value} {n0 : Nat} (X : Ctx Z a0)  {h : Heap} (hO : Old Z n0 h)  :
    Ctr l Z EL1 n0 (⟨"java/lang/StringUTF16", "newBytesLength", "(I)I"⟩ : MethodName) jdk_52_method_3_code 1 (some .int) ({ frames := 0, cells := 0, slots := 0, locals := 0 } : Room) #[(.int (2 : Int32))] h [] (fun v h' => v = some (.int (4 : Int32)) ∧ h' = h) := by
  have hw := X.hw
  obtain ⟨z1, hz1, hz2⟩ := X.2.2.1
  refine Ctr.intro (a0 := a0) (plainFor_of_name pn0) hO X.ew ?_
  intro p e s m below meth c T0 V0 S0 hby hml hret hnm hsf
  rw [ef3]
  refine s_iloadN S0 (hb hby dNL2_0) rfl (pc' := 1) rfl ?_
  refine s_ifY S0 (hb hby dNL2_1) (by decide) (by decide) (pcT := 12) (by decide) ?_
  refine s_iloadN S0 (hb hby dNL2_12) rfl (pc' := 13) rfl ?_
  refine g_ldcI S0 (w100 hw) (hb hby dNL2_13) ?_
  show Go p e below _ (T0.setTop (mkF m 15 #[.val (.int (2 : Int32))] [(.int (1073741823 : Int32)), (.int (2 : Int32))]))
  refine s_icmpY S0 (hb hby dNL2_15) (by decide) (by decide) (pcT := 55) (by decide) ?_
  refine s_iloadN S0 (hb hby dNL2_55) rfl (pc' := 56) rfl ?_
  refine s_iconst S0 (hb hby dNL2_56) (v := (1 : Int32)) rfl (pc' := 57) rfl ?_
  refine s_ishl S0 (hb hby dNL2_57) (z := (4 : Int32)) (by decide) (pc' := 58) rfl ?_
  exact g_iret S0 (hb hby dNL2_58) hret ⟨rfl, rfl⟩
theorem dNB2_0 : decode jdk_52_method_2_code 0 = .ok (.iload_n 0, 1) := by decide +kernel
theorem dNB2_1 : decode jdk_52_method_2_code 1 = .ok (.invokestatic 11, 3) := by decide +kernel
theorem dNB2_4 : decode jdk_52_method_2_code 4 = .ok (.newarray .byte, 2) := by decide +kernel
theorem dNB2_6 : decode jdk_52_method_2_code 6 = .ok (.areturn, 1) := by decide +kernel
set_option maxRecDepth 65536 in
set_option maxHeartbeats 40000000 in
theorem rmNB2 {l : Launch} {Z : State} {a0 : Array Value} {n0 : Nat} (X : Ctx Z a0)  {h : Heap} (hO : Old Z n0 h)  :
    CtrV l Z EL1 n0 (⟨"java/lang/StringUTF16", "newBytesFor", "(I)[B"⟩ : MethodName) jdk_52_method_2_code 1 (some (.array .byte)) ({ frames := 1, cells := 1, slots := 4, locals := 12 } : Room) #[(.int (2 : Int32))] h [] (fun v h' vm => ∃ u ku, v = some (.ref u) ∧ Ext h h' ∧ h.size ≤ u ∧ u < h'.size ∧ n0 ≤ u ∧ Safe Z EL1 vm h' u ∧ Arv Z h' u ku .byte (4 : Int32) [(.int (0 : Int32)), (.int (0 : Int32)), (.int (0 : Int32)), (.int (0 : Int32))] (.int (0 : Int32))) := by
  have hw := X.hw
  obtain ⟨z1, hz1, hz2⟩ := X.2.2.1
  refine CtrV.intro (a0 := a0) (plainFor_of_name pn0) hO X.ew ?_
  intro p e s m below meth c T0 V0 S0 hby hml hret hnm hsf
  rw [ef3]
  refine s_iloadN S0 (hb hby dNB2_0) rfl (pc' := 1) rfl ?_
  show Go p e below _ (T0.setTop (mkF m 1 #[.val (.int (2 : Int32))] [(.int (2 : Int32))]))
  refine g_static S0 (rmNL2 X S0.old) (fun _ q => nomatch q) (w97 hw) (w98 hw) (w57 hw) (w99 hw) (by decide) (hb hby dNB2_1) (by rw [hml]; rfl) [(.int (2 : Int32))] (lenOf pd0 rfl) rfl rfl (Nat.le_of_ble_eq_true rfl) (Nat.le_of_ble_eq_true rfl) (Nat.le_of_ble_eq_true rfl) (Nat.le_of_ble_eq_true rfl) ?_
  intro v228 T228 V228 h228 S228 C228 q228
  obtain ⟨rfl, rfl⟩ := q228
  show Go p e below _ (T228.setTop (mkF m 4 #[.val (.int (2 : Int32))] [(.int (4 : Int32))]))
  refine g_newarr (aty := .byte) S228 (w24 hw) (hb hby dNB2_4) (by decide) (cap := 4) (by decide) (by decide) (Nat.le_of_ble_eq_true rfl) (Nat.le_of_ble_eq_true rfl) ?_
  intro T229 h229 b229 kc229 S229 E229 fr229 lt229 na229 sf229 A229
  have V229 : Arv Z h229 b229 kc229 .byte (4 : Int32) [(.int (0 : Int32)), (.int (0 : Int32)), (.int (0 : Int32)), (.int (0 : Int32))] (.int (0 : Int32)) := A229 4
  show Go p e below _ (T229.setTop (mkF m 6 #[.val (.int (2 : Int32))] [(.ref b229)]))
  show Go p e below _ (T229.setTop (mkF m 6 #[.val (.int (2 : Int32))] [(.ref b229)]))
  exact g_aretV S229 (hb hby dNB2_6) hret rfl rfl rfl (fun sfx => ⟨b229, kc229, rfl, E229, fr229, lt229, na229, sfx _ lt229 sf229, V229⟩)
theorem dT2_0 : decode jdk_52_method_14_code 0 = .ok (.iload_n 2, 1) := by decide +kernel
theorem dT2_1 : decode jdk_52_method_14_code 1 = .ok (.invokestatic 107, 3) := by decide +kernel
theorem dT2_4 : decode jdk_52_method_14_code 4 = .ok (.astore_n 3, 1) := by decide +kernel
theorem dT2_5 : decode jdk_52_method_14_code 5 = .ok (.iconst 0, 1) := by decide +kernel
theorem dT2_6 : decode jdk_52_method_14_code 6 = .ok (.istore 4, 2) := by decide +kernel
theorem dT2_8 : decode jdk_52_method_14_code 8 = .ok (.iload 4, 2) := by decide +kernel
theorem dT2_10 : decode jdk_52_method_14_code 10 = .ok (.iload_n 2, 1) := by decide +kernel
theorem dT2_11 : decode jdk_52_method_14_code 11 = .ok (.if_icmp .ge 21, 3) := by decide +kernel
theorem dT2_14 : decode jdk_52_method_14_code 14 = .ok (.aload_n 3, 1) := by decide +kernel
theorem dT2_15 : decode jdk_52_method_14_code 15 = .ok (.iload 4, 2) := by decide +kernel
theorem dT2_17 : decode jdk_52_method_14_code 17 = .ok (.aload_n 0, 1) := by decide +kernel
theorem dT2_18 : decode jdk_52_method_14_code 18 = .ok (.iload_n 1, 1) := by decide +kernel
theorem dT2_19 : decode jdk_52_method_14_code 19 = .ok (.caload, 1) := by decide +kernel
theorem dT2_20 : decode jdk_52_method_14_code 20 = .ok (.invokestatic 111, 3) := by decide +kernel
theorem dT2_23 : decode jdk_52_method_14_code 23 = .ok (.iinc 1 1, 3) := by decide +kernel
theorem dT2_26 : decode jdk_52_method_14_code 26 = .ok (.iinc 4 1, 3) := by decide +kernel
theorem dT2_29 : decode jdk_52_method_14_code 29 = .ok (.goto (-21), 3) := by decide +kernel
theorem dT2_32 : decode jdk_52_method_14_code 32 = .ok (.aload_n 3, 1) := by decide +kernel
theorem dT2_33 : decode jdk_52_method_14_code 33 = .ok (.areturn, 1) := by decide +kernel
set_option maxRecDepth 65536 in
set_option maxHeartbeats 40000000 in
theorem rmT2 {l : Launch} {Z : State} {a0 : Array Value} {n0 : Nat} (X : Ctx Z a0) {a : Addr} {ka : ClassId} {c0 c1 : Int32} {dv : Value} {h : Heap} (hO : Old Z n0 h) (Va : Arv Z h a ka .char (2 : Int32) [(.int c0), (.int c1)] dv) :
    Ctr l Z EL1 n0 (⟨"java/lang/StringUTF16", "toBytes", "([CII)[B"⟩ : MethodName) jdk_52_method_14_code 5 (some (.array .byte)) ({ frames := 2, cells := 1, slots := 4, locals := 28 } : Room) #[(.ref a), (.int (0 : Int32)), (.int (2 : Int32))] h [] (fun v h' => ∃ u ku, v = some (.ref u) ∧ Ext h h' ∧ Arv Z h' u ku .byte (4 : Int32) [(.int (StrChars.lo8 c0)), (.int (StrChars.hi8 c0)), (.int (StrChars.lo8 c1)), (.int (StrChars.hi8 c1))] (.int (0 : Int32))) := by
  have hw := X.hw
  obtain ⟨z1, hz1, hz2⟩ := X.2.2.1
  refine Ctr.intro (a0 := a0) (plainFor_of_name pn0) hO X.ew ?_
  intro p e s m below meth c T0 V0 S0 hby hml hret hnm hsf
  rw [ef4]
  refine s_iloadN S0 (hb hby dT2_0) rfl (pc' := 1) rfl ?_
  show Go p e below _ (T0.setTop (mkF m 1 #[.val (.ref a), .val (.int (0 : Int32)), .val (.int (2 : Int32)), .unset, .unset] [(.int (2 : Int32))]))
  refine g_static S0 (rmNB2 X S0.old) (fun _ q => nomatch q) (w94 hw) (w95 hw) (w57 hw) (w96 hw) (by decide) (hb hby dT2_1) (by rw [hml]; rfl) [(.int (2 : Int32))] (lenOf pd1 rfl) rfl rfl (Nat.le_of_ble_eq_true rfl) (Nat.le_of_ble_eq_true rfl) (Nat.le_of_ble_eq_true rfl) (Nat.le_of_ble_eq_true rfl) ?_
  intro v230 T230 V230 h230 S230 C230 q230
  obtain ⟨u, ku, rfl, Eu, fru, ltu, nau, sfu, Vu⟩ := q230
  show Go p e below _ (T230.setTop (mkF m 4 #[.val (.ref a), .val (.int (0 : Int32)), .val (.int (2 : Int32)), .unset, .unset] [(.ref u)]))
  refine s_astoreN S230 (hb hby dT2_4) rfl (L' := #[.val (.ref a), .val (.int (0 : Int32)), .val (.int (2 : Int32)), .val (.ref u), .unset]) rfl (pc' := 5) rfl ?_
  refine s_iconst S230 (hb hby dT2_5) (v := (0 : Int32)) rfl (pc' := 6) rfl ?_
  refine s_istore S230 (hb hby dT2_6) (L' := #[.val (.ref a), .val (.int (0 : Int32)), .val (.int (2 : Int32)), .val (.ref u), .val (.int (0 : Int32))]) rfl (pc' := 8) rfl ?_
  refine s_iload S230 (hb hby dT2_8) rfl (pc' := 10) rfl ?_
  refine s_iloadN S230 (hb hby dT2_10) rfl (pc' := 11) rfl ?_
  refine s_icmpN S230 (hb hby dT2_11) (by decide) (pc' := 14) rfl ?_
  refine s_aloadN S230 (hb hby dT2_14) rfl rfl (pc' := 15) rfl ?_
  refine s_iload S230 (hb hby dT2_15) rfl (pc' := 17) rfl ?_
  refine s_aloadN S230 (hb hby dT2_17) rfl rfl (pc' := 18) rfl ?_
  refine s_iloadN S230 (hb hby dT2_18) rfl (pc' := 19) rfl ?_
  have Va231 := Va.ext Eu
  refine g_caload S230 Va231 ⟨by decide, by decide⟩ (x := c0) rfl (hb hby dT2_19) ?_
  show Go p e below _ (T230.setTop (mkF m 20 #[.val (.ref a), .val (.int (0 : Int32)), .val (.int (2 : Int32)), .val (.ref u), .val (.int (0 : Int32))] [(.int c0), (.int (0 : Int32)), (.ref u)]))
  show Go p e below _ (T230.setTop (mkF m 20 #[.val (.ref a), .val (.int (0 : Int32)), .val (.int (2 : Int32)), .val (.ref u), .val (.int (0 : Int32))] [(.int c0), (.int (0 : Int32)), (.ref u)]))
  refine g_static S230 (rmPC20 X c0 nau S230.old Vu) (sf1 (Vu).lt sfu) (w101 hw) (w102 hw) (w57 hw) (w103 hw) (by decide) (hb hby dT2_20) (by rw [hml]; rfl) [(.ref u), (.int (0 : Int32)), (.int c0)] (lenOf pd2 rfl) rfl rfl (Nat.le_of_ble_eq_true rfl) (Nat.le_of_ble_eq_true rfl) (Nat.le_of_ble_eq_true rfl) (Nat.le_of_ble_eq_true rfl) ?_
  intro v233 T233 V233 h233 S233 C233 q233
  obtain ⟨rfl, Kk232, Vk232⟩ := q233
  have sfk232 := C233.safe (Vu).lt sfu
  show Go p e below _ (T233.setTop (mkF m 23 #[.val (.ref a), .val (.int (0 : Int32)), .val (.int (2 : Int32)), .val (.ref u), .val (.int (0 : Int32))] []))
  refine s_iinc S233 (hb hby dT2_23) rfl (z := (1 : Int32)) rfl (L' := #[.val (.ref a), .val (.int (1 : Int32)), .val (.int (2 : Int32)), .val (.ref u), .val (.int (0 : Int32))]) rfl (pc' := 26) rfl ?_
  refine s_iinc S233 (hb hby dT2_26) rfl (z := (1 : Int32)) rfl (L' := #[.val (.ref a), .val (.int (1 : Int32)), .val (.int (2 : Int32)), .val (.ref u), .val (.int (1 : Int32))]) rfl (pc' := 29) rfl ?_
  refine s_goto S233 (hb hby dT2_29) (by decide) (pcT := 8) (by decide) ?_
  refine s_iload S233 (hb hby dT2_8) rfl (pc' := 10) rfl ?_
  refine s_iloadN S233 (hb hby dT2_10) rfl (pc' := 11) rfl ?_
  refine s_icmpN S233 (hb hby dT2_11) (by decide) (pc' := 14) rfl ?_
  refine s_aloadN S233 (hb hby dT2_14) rfl rfl (pc' := 15) rfl ?_
  refine s_iload S233 (hb hby dT2_15) rfl (pc' := 17) rfl ?_
  refine s_aloadN S233 (hb hby dT2_17) rfl rfl (pc' := 18) rfl ?_
  refine s_iloadN S233 (hb hby dT2_18) rfl (pc' := 19) rfl ?_
  have X234 : Ext h h233 := ext_keep1 Eu Kk232 fru
  have Va235 := Va.ext X234
  refine g_caload S233 Va235 ⟨by decide, by decide⟩ (x := c1) rfl (hb hby dT2_19) ?_
  show Go p e below _ (T233.setTop (mkF m 20 #[.val (.ref a), .val (.int (1 : Int32)), .val (.int (2 : Int32)), .val (.ref u), .val (.int (1 : Int32))] [(.int c1), (.int (1 : Int32)), (.ref u)]))
  show Go p e below _ (T233.setTop (mkF m 20 #[.val (.ref a), .val (.int (1 : Int32)), .val (.int (2 : Int32)), .val (.ref u), .val (.int (1 : Int32))] [(.int c1), (.int (1 : Int32)), (.ref u)]))
  refine g_static S233 (rmPC21 X c1 nau S233.old Vk232) (sf1 (Vk232).lt sfk232) (w101 hw) (w102 hw) (w57 hw) (w103 hw) (by decide) (hb hby dT2_20) (by rw [hml]; rfl) [(.ref u), (.int (1 : Int32)), (.int c1)] (lenOf pd2 rfl) rfl rfl (Nat.le_of_ble_eq_true rfl) (Nat.le_of_ble_eq_true rfl) (Nat.le_of_ble_eq_true rfl) (Nat.le_of_ble_eq_true rfl) ?_
  intro v237 T237 V237 h237 S237 C237 q237
  obtain ⟨rfl, Kk236, Vk236⟩ := q237
  have sfk236 := C237.safe (Vk232).lt sfk232
  show Go p e below _ (T237.setTop (mkF m 23 #[.val (.ref a), .val (.int (1 : Int32)), .val (.int (2 : Int32)), .val (.ref u), .val (.int (1 : Int32))] []))
  refine s_iinc S237 (hb hby dT2_23) rfl (z := (2 : Int32)) rfl (L' := #[.val (.ref a), .val (.int (2 : Int32)), .val (.int (2 : Int32)), .val (.ref u), .val (.int (1 : Int32))]) rfl (pc' := 26) rfl ?_
  refine s_iinc S237 (hb hby dT2_26) rfl (z := (2 : Int32)) rfl (L' := #[.val (.ref a), .val (.int (2 : Int32)), .val (.int (2 : Int32)), .val (.ref u), .val (.int (2 : Int32))]) rfl (pc' := 29) rfl ?_
  refine s_goto S237 (hb hby dT2_29) (by decide) (pcT := 8) (by decide) ?_
  refine s_iload S237 (hb hby dT2_8) rfl (pc' := 10) rfl ?_
  refine s_iloadN S237 (hb hby dT2_10) rfl (pc' := 11) rfl ?_
  refine s_icmpY S237 (hb hby dT2_11) (by decide) (by decide) (pcT := 32) (by decide) ?_
  refine s_aloadN S237 (hb hby dT2_32) rfl rfl (pc' := 33) rfl ?_
  show Go p e below _ (T237.setTop (mkF m 33 #[.val (.ref a), .val (.int (2 : Int32)), .val (.int (2 : Int32)), .val (.ref u), .val (.int (2 : Int32))] [(.ref u)]))
  have X238 : Ext h h237 := ext_keep1 X234 Kk236 fru
  exact g_aret S237 (hb hby dT2_33) hret rfl rfl rfl ⟨u, ku, rfl, X238, Vk236⟩
theorem dC52_0 : decode jdk_52_method_21_code 0 = .ok (.iconst 0, 1) := by decide +kernel
theorem dC52_1 : decode jdk_52_method_21_code 1 = .ok (.istore 5, 2) := by decide +kernel
theorem dC52_3 : decode jdk_52_method_21_code 3 = .ok (.iload 5, 2) := by decide +kernel
theorem dC52_5 : decode jdk_52_method_21_code 5 = .ok (.iload 4, 2) := by decide +kernel
theorem dC52_7 : decode jdk_52_method_21_code 7 = .ok (.if_icmp .ge 37, 3) := by decide +kernel
theorem dC52_10 : decode jdk_52_method_21_code 10 = .ok (.aload_n 0, 1) := by decide +kernel
theorem dC52_11 : decode jdk_52_method_21_code 11 = .ok (.iload_n 1, 1) := by decide +kernel
theorem dC52_12 : decode jdk_52_method_21_code 12 = .ok (.caload, 1) := by decide +kernel
theorem dC52_13 : decode jdk_52_method_21_code 13 = .ok (.istore 6, 2) := by decide +kernel
theorem dC52_15 : decode jdk_52_method_21_code 15 = .ok (.iload 6, 2) := by decide +kernel
theorem dC52_17 : decode jdk_52_method_21_code 17 = .ok (.sipush 255, 3) := by decide +kernel
theorem dC52_20 : decode jdk_52_method_21_code 20 = .ok (.if_icmp .le 6, 3) := by decide +kernel
theorem dC52_23 : decode jdk_52_method_21_code 23 = .ok (.iload 5, 2) := by decide +kernel
theorem dC52_25 : decode jdk_52_method_21_code 25 = .ok (.ireturn, 1) := by decide +kernel
theorem dC52_26 : decode jdk_52_method_21_code 26 = .ok (.aload_n 2, 1) := by decide +kernel
theorem dC52_27 : decode jdk_52_method_21_code 27 = .ok (.iload_n 3, 1) := by decide +kernel
theorem dC52_28 : decode jdk_52_method_21_code 28 = .ok (.iload 6, 2) := by decide +kernel
theorem dC52_30 : decode jdk_52_method_21_code 30 = .ok (.i2b, 1) := by decide +kernel
theorem dC52_31 : decode jdk_52_method_21_code 31 = .ok (.bastore, 1) := by decide +kernel
theorem dC52_32 : decode jdk_52_method_21_code 32 = .ok (.iinc 1 1, 3) := by decide +kernel
theorem dC52_35 : decode jdk_52_method_21_code 35 = .ok (.iinc 3 1, 3) := by decide +kernel
theorem dC52_38 : decode jdk_52_method_21_code 38 = .ok (.iinc 5 1, 3) := by decide +kernel
theorem dC52_41 : decode jdk_52_method_21_code 41 = .ok (.goto (-38), 3) := by decide +kernel
set_option maxRecDepth 65536 in
set_option maxHeartbeats 40000000 in
theorem rmC52 {l : Launch} {Z : State} {a0 : Array Value} {n0 : Nat} (X : Ctx Z a0) {a b : Addr} {ka kb : ClassId} {c0 c1 : Int32} {v0 v1 dv : Value} (na : n0 ≤ b) (hab : a ≠ b) {h : Heap} (hO : Old Z n0 h) (Va : Arv Z h a ka .char (2 : Int32) [(.int c0), (.int c1)] dv) (Vb : Arv Z h b kb .byte (2 : Int32) [v0, v1] (.int (0 : Int32))) (hwd : (255 : Int32) < c0 ∨ (255 : Int32) < c1) :
    Ctr l Z EL1 n0 (⟨"java/lang/StringUTF16", "compress", "([CI[BII)I"⟩ : MethodName) jdk_52_method_21_code 7 (some .int) ({ frames := 0, cells := 0, slots := 0, locals := 0 } : Room) #[(.ref a), (.int (0 : Int32)), (.ref b), (.int (0 : Int32)), (.int (2 : Int32))] h [b] (fun v h' => ((v = some (.int (0 : Int32)) ∧ (255 : Int32) < c0) ∨ (v = some (.int (1 : Int32)) ∧ (255 : Int32) < c1)) ∧ Keep h h' [b]) := by
  have hw := X.hw
  obtain ⟨z1, hz1, hz2⟩ := X.2.2.1
  refine Ctr.intro (a0 := a0) (plainFor_of_name pn0) hO X.ew ?_
  intro p e s m below meth c T0 V0 S0 hby hml hret hnm hsf
  rw [ef5]
  refine s_iconst S0 (hb hby dC52_0) (v := (0 : Int32)) rfl (pc' := 1) rfl ?_
  refine s_istore S0 (hb hby dC52_1) (L' := #[.val (.ref a), .val (.int (0 : Int32)), .val (.ref b), .val (.int (0 : Int32)), .val (.int (2 : Int32)), .val (.int (0 : Int32)), .unset]) rfl (pc' := 3) rfl ?_
  refine s_iload S0 (hb hby dC52_3) rfl (pc' := 5) rfl ?_
  refine s_iload S0 (hb hby dC52_5) rfl (pc' := 7) rfl ?_
  refine s_icmpN S0 (hb hby dC52_7) (by decide) (pc' := 10) rfl ?_
  refine s_aloadN S0 (hb hby dC52_10) rfl rfl (pc' := 11) rfl ?_
  refine s_iloadN S0 (hb hby dC52_11) rfl (pc' := 12) rfl ?_
  refine g_caload S0 Va ⟨by decide, by decide⟩ (x := c0) rfl (hb hby dC52_12) ?_
  show Go p e below _ (T0.setTop (mkF m 13 #[.val (.ref a), .val (.int (0 : Int32)), .val (.ref b), .val (.int (0 : Int32)), .val (.int (2 : Int32)), .val (.int (0 : Int32)), .unset] [(.int c0)]))
  refine s_istore S0 (hb hby dC52_13) (L' := #[.val (.ref a), .val (.int (0 : Int32)), .val (.ref b), .val (.int (0 : Int32)), .val (.int (2 : Int32)), .val (.int (0 : Int32)), .val (.int c0)]) rfl (pc' := 15) rfl ?_
  refine s_iload S0 (hb hby dC52_15) rfl (pc' := 17) rfl ?_
  refine s_sipush S0 (hb hby dC52_17) (v := (255 : Int32)) rfl (pc' := 20) rfl ?_
  refine g_icmp S0 (hb hby dC52_20) (by decide) (pcT := 26) (by decide) (fun q => ?_) (fun q => ?_)
  · have hc20_239 : ¬ (255 : Int32) < c0 := icT_le q
    show Go p e below _ (T0.setTop (mkF m 26 #[.val (.ref a), .val (.int (0 : Int32)), .val (.ref b), .val (.int (0 : Int32)), .val (.int (2 : Int32)), .val (.int (0 : Int32)), .val (.int c0)] []))
    refine s_aloadN S0 (hb hby dC52_26) rfl rfl (pc' := 27) rfl ?_
    refine s_iloadN S0 (hb hby dC52_27) rfl (pc' := 28) rfl ?_
    refine s_iload S0 (hb hby dC52_28) rfl (pc' := 30) rfl ?_
    refine s_i2b S0 (hb hby dC52_30) (z := (c0.toInt8.toInt32)) rfl (pc' := 31) rfl ?_
    show Go p e below _ (T0.setTop (mkF m 31 #[.val (.ref a), .val (.int (0 : Int32)), .val (.ref b), .val (.int (0 : Int32)), .val (.int (2 : Int32)), .val (.int (0 : Int32)), .val (.int c0)] [(.int (c0.toInt8.toInt32)), (.int (0 : Int32)), (.ref b)]))
    refine g_bastore S0 Vb ⟨by decide, by decide⟩ 0 rfl (Nat.le_of_ble_eq_true rfl) na (hsf b List.mem_cons_self) (hb hby dC52_31) ?_
    intro T240 h240 S240 K240 V240 sg240
    have sf241 := Safe.keep K240 (sfS (hsf b List.mem_cons_self) sf0) S0.chv (hsf b List.mem_cons_self)
    rw [own_nb c0] at V240
    have V240 : Arv Z h240 b kb .byte (2 : Int32) [(.int (StrChars.lo8 c0)), v1] (.int (0 : Int32)) := V240
    show Go p e below _ (T240.setTop (mkF m 32 #[.val (.ref a), .val (.int (0 : Int32)), .val (.ref b), .val (.int (0 : Int32)), .val (.int (2 : Int32)), .val (.int (0 : Int32)), .val (.int c0)] []))
    refine s_iinc S240 (hb hby dC52_32) rfl (z := (1 : Int32)) rfl (L' := #[.val (.ref a), .val (.int (1 : Int32)), .val (.ref b), .val (.int (0 : Int32)), .val (.int (2 : Int32)), .val (.int (0 : Int32)), .val (.int c0)]) rfl (pc' := 35) rfl ?_
    refine s_iinc S240 (hb hby dC52_35) rfl (z := (1 : Int32)) rfl (L' := #[.val (.ref a), .val (.int (1 : Int32)), .val (.ref b), .val (.int (1 : Int32)), .val (.int (2 : Int32)), .val (.int (0 : Int32)), .val (.int c0)]) rfl (pc' := 38) rfl ?_
    refine s_iinc S240 (hb hby dC52_38) rfl (z := (1 : Int32)) rfl (L' := #[.val (.ref a), .val (.int (1 : Int32)), .val (.ref b), .val (.int (1 : Int32)), .val (.int (2 : Int32)), .val (.int (1 : Int32)), .val (.int c0)]) rfl (pc' := 41) rfl ?_
    refine s_goto S240 (hb hby dC52_41) (by decide) (pcT := 3) (by decide) ?_
    refine s_iload S240 (hb hby dC52_3) rfl (pc' := 5) rfl ?_
    refine s_iload S240 (hb hby dC52_5) rfl (pc' := 7) rfl ?_
    refine s_icmpN S240 (hb hby dC52_7) (by decide) (pc' := 10) rfl ?_
    refine s_aloadN S240 (hb hby dC52_10) rfl rfl (pc' := 11) rfl ?_
    refine s_iloadN S240 (hb hby dC52_11) rfl (pc' := 12) rfl ?_
    have F242 := Va.keep K240 (ninS hab nin0)
    refine g_caload S240 F242 ⟨by decide, by decide⟩ (x := c1) rfl (hb hby dC52_12) ?_
    show Go p e below _ (T240.setTop (mkF m 13 #[.val (.ref a), .val (.int (1 : Int32)), .val (.ref b), .val (.int (1 : Int32)), .val (.int (2 : Int32)), .val (.int (1 : Int32)), .val (.int c0)] [(.int c1)]))
    refine s_istore S240 (hb hby dC52_13) (L' := #[.val (.ref a), .val (.int (1 : Int32)), .val (.ref b), .val (.int (1 : Int32)), .val (.int (2 : Int32)), .val (.int (1 : Int32)), .val (.int c1)]) rfl (pc' := 15) rfl ?_
    refine s_iload S240 (hb hby dC52_15) rfl (pc' := 17) rfl ?_
    refine s_sipush S240 (hb hby dC52_17) (v := (255 : Int32)) rfl (pc' := 20) rfl ?_
    refine g_icmp S240 (hb hby dC52_20) (by decide) (pcT := 26) (by decide) (fun q => ?_) (fun q => ?_)
    · have hc20_243 : ¬ (255 : Int32) < c1 := icT_le q
      show Go p e below _ (T240.setTop (mkF m 26 #[.val (.ref a), .val (.int (1 : Int32)), .val (.ref b), .val (.int (1 : Int32)), .val (.int (2 : Int32)), .val (.int (1 : Int32)), .val (.int c1)] []))
      refine s_aloadN S240 (hb hby dC52_26) rfl rfl (pc' := 27) rfl ?_
      refine s_iloadN S240 (hb hby dC52_27) rfl (pc' := 28) rfl ?_
      refine s_iload S240 (hb hby dC52_28) rfl (pc' := 30) rfl ?_
      refine s_i2b S240 (hb hby dC52_30) (z := (c1.toInt8.toInt32)) rfl (pc' := 31) rfl ?_
      show Go p e below _ (T240.setTop (mkF m 31 #[.val (.ref a), .val (.int (1 : Int32)), .val (.ref b), .val (.int (1 : Int32)), .val (.int (2 : Int32)), .val (.int (1 : Int32)), .val (.int c1)] [(.int (c1.toInt8.toInt32)), (.int (1 : Int32)), (.ref b)]))
      refine g_bastore S240 V240 ⟨by decide, by decide⟩ 1 rfl (Nat.le_of_ble_eq_true rfl) na sg240 (hb hby dC52_31) ?_
      intro T244 h244 S244 K244 V244 sg244
      have sf245 := Safe.keep K244 (sfS sg240 sf0) S240.chv sg240
      rw [own_nb c1] at V244
      have V244 : Arv Z h244 b kb .byte (2 : Int32) [(.int (StrChars.lo8 c0)), (.int (StrChars.lo8 c1))] (.int (0 : Int32)) := V244
      show Go p e below _ (T244.setTop (mkF m 32 #[.val (.ref a), .val (.int (1 : Int32)), .val (.ref b), .val (.int (1 : Int32)), .val (.int (2 : Int32)), .val (.int (1 : Int32)), .val (.int c1)] []))
      refine s_iinc S244 (hb hby dC52_32) rfl (z := (2 : Int32)) rfl (L' := #[.val (.ref a), .val (.int (2 : Int32)), .val (.ref b), .val (.int (1 : Int32)), .val (.int (2 : Int32)), .val (.int (1 : Int32)), .val (.int c1)]) rfl (pc' := 35) rfl ?_
      refine s_iinc S244 (hb hby dC52_35) rfl (z := (2 : Int32)) rfl (L' := #[.val (.ref a), .val (.int (2 : Int32)), .val (.ref b), .val (.int (2 : Int32)), .val (.int (2 : Int32)), .val (.int (1 : Int32)), .val (.int c1)]) rfl (pc' := 38) rfl ?_
      refine s_iinc S244 (hb hby dC52_38) rfl (z := (2 : Int32)) rfl (L' := #[.val (.ref a), .val (.int (2 : Int32)), .val (.ref b), .val (.int (2 : Int32)), .val (.int (2 : Int32)), .val (.int (2 : Int32)), .val (.int c1)]) rfl (pc' := 41) rfl ?_
      refine s_goto S244 (hb hby dC52_41) (by decide) (pcT := 3) (by decide) ?_
      refine s_iload S244 (hb hby dC52_3) rfl (pc' := 5) rfl ?_
      refine s_iload S244 (hb hby dC52_5) rfl (pc' := 7) rfl ?_
      refine s_icmpY S244 (hb hby dC52_7) (by decide) (by decide) (pcT := 44) (by decide) ?_
      exact absurd hwd (by simp [hc20_239, hc20_243])
    · have hc20_243 : (255 : Int32) < c1 := icF_le q
      show Go p e below _ (T240.setTop (mkF m 23 #[.val (.ref a), .val (.int (1 : Int32)), .val (.ref b), .val (.int (1 : Int32)), .val (.int (2 : Int32)), .val (.int (1 : Int32)), .val (.int c1)] []))
      refine s_iload S240 (hb hby dC52_23) rfl (pc' := 25) rfl ?_
      show Go p e below _ (T240.setTop (mkF m 25 #[.val (.ref a), .val (.int (1 : Int32)), .val (.ref b), .val (.int (1 : Int32)), .val (.int (2 : Int32)), .val (.int (1 : Int32)), .val (.int c1)] [(.int (1 : Int32))]))
      have KA246 : Keep h h240 [b] := ((Keep.refl h [b]).trans K240 (fun y hy => Or.inl hy))
      exact g_iret S240 (hb hby dC52_25) hret ⟨Or.inr (⟨rfl, hc20_243⟩), KA246⟩
  · have hc20_239 : (255 : Int32) < c0 := icF_le q
    show Go p e below _ (T0.setTop (mkF m 23 #[.val (.ref a), .val (.int (0 : Int32)), .val (.ref b), .val (.int (0 : Int32)), .val (.int (2 : Int32)), .val (.int (0 : Int32)), .val (.int c0)] []))
    refine s_iload S0 (hb hby dC52_23) rfl (pc' := 25) rfl ?_
    show Go p e below _ (T0.setTop (mkF m 25 #[.val (.ref a), .val (.int (0 : Int32)), .val (.ref b), .val (.int (0 : Int32)), .val (.int (2 : Int32)), .val (.int (0 : Int32)), .val (.int c0)] [(.int (0 : Int32))]))
    have KA247 : Keep h h [b] := (Keep.refl h [b])
    exact g_iret S0 (hb hby dC52_25) hret ⟨Or.inl ⟨rfl, hc20_239⟩, KA247⟩
theorem dC32_0 : decode jdk_52_method_16_code 0 = .ok (.iload_n 2, 1) := by decide +kernel
theorem dC32_1 : decode jdk_52_method_16_code 1 = .ok (.newarray .byte, 2) := by decide +kernel
theorem dC32_3 : decode jdk_52_method_16_code 3 = .ok (.astore_n 3, 1) := by decide +kernel
theorem dC32_4 : decode jdk_52_method_16_code 4 = .ok (.aload_n 0, 1) := by decide +kernel
theorem dC32_5 : decode jdk_52_method_16_code 5 = .ok (.iload_n 1, 1) := by decide +kernel
theorem dC32_6 : decode jdk_52_method_16_code 6 = .ok (.aload_n 3, 1) := by decide +kernel
theorem dC32_7 : decode jdk_52_method_16_code 7 = .ok (.iconst 0, 1) := by decide +kernel
theorem dC32_8 : decode jdk_52_method_16_code 8 = .ok (.iload_n 2, 1) := by decide +kernel
theorem dC32_9 : decode jdk_52_method_16_code 9 = .ok (.invokestatic 115, 3) := by decide +kernel
theorem dC32_12 : decode jdk_52_method_16_code 12 = .ok (.istore 4, 2) := by decide +kernel
theorem dC32_14 : decode jdk_52_method_16_code 14 = .ok (.iload 4, 2) := by decide +kernel
theorem dC32_16 : decode jdk_52_method_16_code 16 = .ok (.iload_n 2, 1) := by decide +kernel
theorem dC32_17 : decode jdk_52_method_16_code 17 = .ok (.if_icmp .eq 40, 3) := by decide +kernel
theorem dC32_20 : decode jdk_52_method_16_code 20 = .ok (.aload_n 0, 1) := by decide +kernel
theorem dC32_21 : decode jdk_52_method_16_code 21 = .ok (.iload_n 1, 1) := by decide +kernel
theorem dC32_22 : decode jdk_52_method_16_code 22 = .ok (.iload_n 2, 1) := by decide +kernel
theorem dC32_23 : decode jdk_52_method_16_code 23 = .ok (.invokestatic 119, 3) := by decide +kernel
theorem dC32_26 : decode jdk_52_method_16_code 26 = .ok (.astore 5, 2) := by decide +kernel
theorem dC32_28 : decode jdk_52_method_16_code 28 = .ok (.aload 5, 2) := by decide +kernel
theorem dC32_30 : decode jdk_52_method_16_code 30 = .ok (.iload 4, 2) := by decide +kernel
theorem dC32_32 : decode jdk_52_method_16_code 32 = .ok (.invokestatic 71, 3) := by decide +kernel
theorem dC32_35 : decode jdk_52_method_16_code 35 = .ok (.sipush 255, 3) := by decide +kernel
theorem dC32_38 : decode jdk_52_method_16_code 38 = .ok (.if_icmp .gt 16, 3) := by decide +kernel
theorem dC32_54 : decode jdk_52_method_16_code 54 = .ok (.aload 5, 2) := by decide +kernel
theorem dC32_56 : decode jdk_52_method_16_code 56 = .ok (.areturn, 1) := by decide +kernel
set_option maxRecDepth 65536 in
set_option maxHeartbeats 40000000 in
theorem rmC32 {l : Launch} {Z : State} {a0 : Array Value} {n0 : Nat} (X : Ctx Z a0) {a : Addr} {ka : ClassId} {c0 c1 : Int32} {dv : Value} {h : Heap} (hO : Old Z n0 h) (Va : Arv Z h a ka .char (2 : Int32) [(.int c0), (.int c1)] dv) (rc0 : ¬ c0 < 0 ∧ ¬ (65535 : Int32) < c0) (rc1 : ¬ c1 < 0 ∧ ¬ (65535 : Int32) < c1) (hwd : (255 : Int32) < c0 ∨ (255 : Int32) < c1) :
    Ctr l Z EL1 n0 (⟨"java/lang/StringUTF16", "compress", "([CII)[B"⟩ : MethodName) jdk_52_method_16_code 6 (some (.array .byte)) ({ frames := 3, cells := 2, slots := 6, locals := 47 } : Room) #[(.ref a), (.int (0 : Int32)), (.int (2 : Int32))] h [] (fun v h' => ∃ u ku, v = some (.ref u) ∧ Ext h h' ∧ Arv Z h' u ku .byte (4 : Int32) [(.int (StrChars.lo8 c0)), (.int (StrChars.hi8 c0)), (.int (StrChars.lo8 c1)), (.int (StrChars.hi8 c1))] (.int (0 : Int32))) := by
  have hw := X.hw
  obtain ⟨z1, hz1, hz2⟩ := X.2.2.1
  refine Ctr.intro (a0 := a0) (plainFor_of_name pn0) hO X.ew ?_
  intro p e s m below meth c T0 V0 S0 hby hml hret hnm hsf
  rw [ef6]
  refine s_iloadN S0 (hb hby dC32_0) rfl (pc' := 1) rfl ?_
  refine g_newarr (aty := .byte) S0 (w24 hw) (hb hby dC32_1) (by decide) (cap := 2) (by decide) (by decide) (Nat.le_of_ble_eq_true rfl) (Nat.le_of_ble_eq_true rfl) ?_
  intro T248 h248 b248 kc248 S248 E248 fr248 lt248 na248 sf248 A248
  have V248 : Arv Z h248 b248 kc248 .byte (2 : Int32) [(.int (0 : Int32)), (.int (0 : Int32))] (.int (0 : Int32)) := A248 2
  show Go p e below _ (T248.setTop (mkF m 3 #[.val (.ref a), .val (.int (0 : Int32)), .val (.int (2 : Int32)), .unset, .unset, .unset] [(.ref b248)]))
  refine s_astoreN S248 (hb hby dC32_3) rfl (L' := #[.val (.ref a), .val (.int (0 : Int32)), .val (.int (2 : Int32)), .val (.ref b248), .unset, .unset]) rfl (pc' := 4) rfl ?_
  refine s_aloadN S248 (hb hby dC32_4) rfl rfl (pc' := 5) rfl ?_
  refine s_iloadN S248 (hb hby dC32_5) rfl (pc' := 6) rfl ?_
  refine s_aloadN S248 (hb hby dC32_6) rfl rfl (pc' := 7) rfl ?_
  refine s_iconst S248 (hb hby dC32_7) (v := (0 : Int32)) rfl (pc' := 8) rfl ?_
  refine s_iloadN S248 (hb hby dC32_8) rfl (pc' := 9) rfl ?_
  have Va249 := Va.ext E248
  show Go p e below _ (T248.setTop (mkF m 9 #[.val (.ref a), .val (.int (0 : Int32)), .val (.int (2 : Int32)), .val (.ref b248), .unset, .unset] [(.int (2 : Int32)), (.int (0 : Int32)), (.ref b248), (.int (0 : Int32)), (.ref a)]))
  refine g_static S248 (rmC52 X na248 (arv_kne Va249 V248 (by decide)) S248.old Va249 V248 hwd) (sf1 (V248).lt sf248) (w59 hw) (w60 hw) (w57 hw) (w61 hw) (by decide) (hb hby dC32_9) (by rw [hml]; rfl) [(.ref a), (.int (0 : Int32)), (.ref b248), (.int (0 : Int32)), (.int (2 : Int32))] (lenOf pd3 rfl) rfl rfl (Nat.le_of_ble_eq_true rfl) (Nat.le_of_ble_eq_true rfl) (Nat.le_of_ble_eq_true rfl) (Nat.le_of_ble_eq_true rfl) ?_
  intro v251 T251 V251 h251 S251 C251 q251
  obtain ⟨hq250, Kq250⟩ := q251
  rcases hq250 with ⟨rfl, hq250⟩ | ⟨rfl, hq250⟩
  · skip
    show Go p e below _ (T251.setTop (mkF m 12 #[.val (.ref a), .val (.int (0 : Int32)), .val (.int (2 : Int32)), .val (.ref b248), .unset, .unset] [(.int (0 : Int32))]))
    refine s_istore S251 (hb hby dC32_12) (L' := #[.val (.ref a), .val (.int (0 : Int32)), .val (.int (2 : Int32)), .val (.ref b248), .val (.int (0 : Int32)), .unset]) rfl (pc' := 14) rfl ?_
    refine s_iload S251 (hb hby dC32_14) rfl (pc' := 16) rfl ?_
    refine s_iloadN S251 (hb hby dC32_16) rfl (pc' := 17) rfl ?_
    refine s_icmpN S251 (hb hby dC32_17) (by decide) (pc' := 20) rfl ?_
    refine s_aloadN S251 (hb hby dC32_20) rfl rfl (pc' := 21) rfl ?_
    refine s_iloadN S251 (hb hby dC32_21) rfl (pc' := 22) rfl ?_
    refine s_iloadN S251 (hb hby dC32_22) rfl (pc' := 23) rfl ?_
    have X252 : Ext h h251 := ext_keep1 E248 Kq250 fr248
    have Va253 := Va.ext X252
    show Go p e below _ (T251.setTop (mkF m 23 #[.val (.ref a), .val (.int (0 : Int32)), .val (.int (2 : Int32)), .val (.ref b248), .val (.int (0 : Int32)), .unset] [(.int (2 : Int32)), (.int (0 : Int32)), (.ref a)]))
    refine g_static S251 (rmT2 X S251.old Va253) (fun _ q => nomatch q) (w91 hw) (w92 hw) (w57 hw) (w93 hw) (by decide) (hb hby dC32_23) (by rw [hml]; rfl) [(.ref a), (.int (0 : Int32)), (.int (2 : Int32))] (lenOf pd4 rfl) rfl rfl (Nat.le_of_ble_eq_true rfl) (Nat.le_of_ble_eq_true rfl) (Nat.le_of_ble_eq_true rfl) (Nat.le_of_ble_eq_true rfl) ?_
    intro v254 T254 V254 h254 S254 C254 q254
    obtain ⟨u, ku, rfl, Eu, Vu⟩ := q254
    show Go p e below _ (T254.setTop (mkF m 26 #[.val (.ref a), .val (.int (0 : Int32)), .val (.int (2 : Int32)), .val (.ref b248), .val (.int (0 : Int32)), .unset] [(.ref u)]))
    refine s_astore S254 (hb hby dC32_26) rfl (L' := #[.val (.ref a), .val (.int (0 : Int32)), .val (.int (2 : Int32)), .val (.ref b248), .val (.int (0 : Int32)), .val (.ref u)]) rfl (pc' := 28) rfl ?_
    refine s_aload S254 (hb hby dC32_28) rfl rfl (pc' := 30) rfl ?_
    refine s_iload S254 (hb hby dC32_30) rfl (pc' := 32) rfl ?_
    show Go p e below _ (T254.setTop (mkF m 32 #[.val (.ref a), .val (.int (0 : Int32)), .val (.int (2 : Int32)), .val (.ref b248), .val (.int (0 : Int32)), .val (.ref u)] [(.int (0 : Int32)), (.ref u)]))
    refine g_static S254 (rmGC20 X S254.old Vu rc0) (fun _ q => nomatch q) (w107 hw) (w108 hw) (w57 hw) (w109 hw) (by decide) (hb hby dC32_32) (by rw [hml]; rfl) [(.ref u), (.int (0 : Int32))] (lenOf pd5 rfl) rfl rfl (Nat.le_of_ble_eq_true rfl) (Nat.le_of_ble_eq_true rfl) (Nat.le_of_ble_eq_true rfl) (Nat.le_of_ble_eq_true rfl) ?_
    intro v255 T255 V255 h255 S255 C255 q255
    obtain ⟨rfl, rfl⟩ := q255
    show Go p e below _ (T255.setTop (mkF m 35 #[.val (.ref a), .val (.int (0 : Int32)), .val (.int (2 : Int32)), .val (.ref b248), .val (.int (0 : Int32)), .val (.ref u)] [(.int c0)]))
    refine s_sipush S255 (hb hby dC32_35) (v := (255 : Int32)) rfl (pc' := 38) rfl ?_
    refine s_icmpY S255 (hb hby dC32_38) ((tlt hq250).2.2.1) (by decide) (pcT := 54) (by decide) ?_
    refine s_aload S255 (hb hby dC32_54) rfl rfl (pc' := 56) rfl ?_
    show Go p e below _ (T255.setTop (mkF m 56 #[.val (.ref a), .val (.int (0 : Int32)), .val (.int (2 : Int32)), .val (.ref b248), .val (.int (0 : Int32)), .val (.ref u)] [(.ref u)]))
    have X256 : Ext h h255 := ext_trans X252 Eu
    exact g_aret S255 (hb hby dC32_56) hret rfl rfl rfl ⟨u, ku, rfl, X256, Vu⟩
  · skip
    show Go p e below _ (T251.setTop (mkF m 12 #[.val (.ref a), .val (.int (0 : Int32)), .val (.int (2 : Int32)), .val (.ref b248), .unset, .unset] [(.int (1 : Int32))]))
    refine s_istore S251 (hb hby dC32_12) (L' := #[.val (.ref a), .val (.int (0 : Int32)), .val (.int (2 : Int32)), .val (.ref b248), .val (.int (1 : Int32)), .unset]) rfl (pc' := 14) rfl ?_
    refine s_iload S251 (hb hby dC32_14) rfl (pc' := 16) rfl ?_
    refine s_iloadN S251 (hb hby dC32_16) rfl (pc' := 17) rfl ?_
    refine s_icmpN S251 (hb hby dC32_17) (by decide) (pc' := 20) rfl ?_
    refine s_aloadN S251 (hb hby dC32_20) rfl rfl (pc' := 21) rfl ?_
    refine s_iloadN S251 (hb hby dC32_21) rfl (pc' := 22) rfl ?_
    refine s_iloadN S251 (hb hby dC32_22) rfl (pc' := 23) rfl ?_
    have X257 : Ext h h251 := ext_keep1 E248 Kq250 fr248
    have Va258 := Va.ext X257
    show Go p e below _ (T251.setTop (mkF m 23 #[.val (.ref a), .val (.int (0 : Int32)), .val (.int (2 : Int32)), .val (.ref b248), .val (.int (1 : Int32)), .unset] [(.int (2 : Int32)), (.int (0 : Int32)), (.ref a)]))
    refine g_static S251 (rmT2 X S251.old Va258) (fun _ q => nomatch q) (w91 hw) (w92 hw) (w57 hw) (w93 hw) (by decide) (hb hby dC32_23) (by rw [hml]; rfl) [(.ref a), (.int (0 : Int32)), (.int (2 : Int32))] (lenOf pd4 rfl) rfl rfl (Nat.le_of_ble_eq_true rfl) (Nat.le_of_ble_eq_true rfl) (Nat.le_of_ble_eq_true rfl) (Nat.le_of_ble_eq_true rfl) ?_
    intro v259 T259 V259 h259 S259 C259 q259
    obtain ⟨u, ku, rfl, Eu, Vu⟩ := q259
    show Go p e below _ (T259.setTop (mkF m 26 #[.val (.ref a), .val (.int (0 : Int32)), .val (.int (2 : Int32)), .val (.ref b248), .val (.int (1 : Int32)), .unset] [(.ref u)]))
    refine s_astore S259 (hb hby dC32_26) rfl (L' := #[.val (.ref a), .val (.int (0 : Int32)), .val (.int (2 : Int32)), .val (.ref b248), .val (.int (1 : Int32)), .val (.ref u)]) rfl (pc' := 28) rfl ?_
    refine s_aload S259 (hb hby dC32_28) rfl rfl (pc' := 30) rfl ?_
    refine s_iload S259 (hb hby dC32_30) rfl (pc' := 32) rfl ?_
    show Go p e below _ (T259.setTop (mkF m 32 #[.val (.ref a), .val (.int (0 : Int32)), .val (.int (2 : Int32)), .val (.ref b248), .val (.int (1 : Int32)), .val (.ref u)] [(.int (1 : Int32)), (.ref u)]))
    refine g_static S259 (rmGC21 X S259.old Vu rc1) (fun _ q => nomatch q) (w107 hw) (w108 hw) (w57 hw) (w109 hw) (by decide) (hb hby dC32_32) (by rw [hml]; rfl) [(.ref u), (.int (1 : Int32))] (lenOf pd5 rfl) rfl rfl (Nat.le_of_ble_eq_true rfl) (Nat.le_of_ble_eq_true rfl) (Nat.le_of_ble_eq_true rfl) (Nat.le_of_ble_eq_true rfl) ?_
    intro v260 T260 V260 h260 S260 C260 q260
    obtain ⟨rfl, rfl⟩ := q260
    show Go p e below _ (T260.setTop (mkF m 35 #[.val (.ref a), .val (.int (0 : Int32)), .val (.int (2 : Int32)), .val (.ref b248), .val (.int (1 : Int32)), .val (.ref u)] [(.int c1)]))
    refine s_sipush S260 (hb hby dC32_35) (v := (255 : Int32)) rfl (pc' := 38) rfl ?_
    refine s_icmpY S260 (hb hby dC32_38) ((tlt hq250).2.2.1) (by decide) (pcT := 54) (by decide) ?_
    refine s_aload S260 (hb hby dC32_54) rfl rfl (pc' := 56) rfl ?_
    show Go p e below _ (T260.setTop (mkF m 56 #[.val (.ref a), .val (.int (0 : Int32)), .val (.int (2 : Int32)), .val (.ref b248), .val (.int (1 : Int32)), .val (.ref u)] [(.ref u)]))
    have X261 : Ext h h260 := ext_trans X257 Eu
    exact g_aret S260 (hb hby dC32_56) hret rfl rfl rfl ⟨u, ku, rfl, X261, Vu⟩
theorem dCL2_0 : decode jdk_52_method_15_code 0 = .ok (.iload_n 1, 1) := by decide +kernel
theorem dCL2_1 : decode jdk_52_method_15_code 1 = .ok (.aload_n 0, 1) := by decide +kernel
theorem dCL2_2 : decode jdk_52_method_15_code 2 = .ok (.arraylength, 1) := by decide +kernel
theorem dCL2_3 : decode jdk_52_method_15_code 3 = .ok (.isub, 1) := by decide +kernel
theorem dCL2_4 : decode jdk_52_method_15_code 4 = .ok (.bipush 31, 2) := by decide +kernel
theorem dCL2_6 : decode jdk_52_method_15_code 6 = .ok (.iushr, 1) := by decide +kernel
theorem dCL2_7 : decode jdk_52_method_15_code 7 = .ok (.i2b, 1) := by decide +kernel
theorem dCL2_8 : decode jdk_52_method_15_code 8 = .ok (.ireturn, 1) := by decide +kernel
set_option maxRecDepth 65536 in
set_option maxHeartbeats 40000000 in
theorem rmCL2 {l : Launch} {Z : State} {a0 : Array Value} {n0 : Nat} (X : Ctx Z a0) {u : Addr} {ku : ClassId} {vs : List Value} {dv : Value} {h : Heap} (hO : Old Z n0 h) (Vu : Arv Z h u ku .byte (4 : Int32) vs dv) :
    Ctr l Z EL1 n0 (⟨"java/lang/StringUTF16", "coderFromArrayLen", "([BI)B"⟩ : MethodName) jdk_52_method_15_code 2 (some .byte) ({ frames := 0, cells := 0, slots := 0, locals := 0 } : Room) #[(.ref u), (.int (2 : Int32))] h [] (fun v h' => v = some (.int 1) ∧ h' = h) := by
  have hw := X.hw
  obtain ⟨z1, hz1, hz2⟩ := X.2.2.1
  refine Ctr.intro (a0 := a0) (plainFor_of_name pn0) hO X.ew ?_
  intro p e s m below meth c T0 V0 S0 hby hml hret hnm hsf
  rw [ef1]
  refine s_iloadN S0 (hb hby dCL2_0) rfl (pc' := 1) rfl ?_
  refine s_aloadN S0 (hb hby dCL2_1) rfl rfl (pc' := 2) rfl ?_
  refine g_len S0 Vu (hb hby dCL2_2) ?_
  show Go p e below _ (T0.setTop (mkF m 3 #[.val (.ref u), .val (.int (2 : Int32))] [(.int (4 : Int32)), (.int (2 : Int32))]))
  refine s_isub S0 (hb hby dCL2_3) (z := (-2 : Int32)) rfl (pc' := 4) rfl ?_
  refine s_bipush S0 (hb hby dCL2_4) (v := (31 : Int32)) rfl (pc' := 6) rfl ?_
  refine s_iushr S0 (hb hby dCL2_6) (z := (1 : Int32)) (by decide) (pc' := 7) rfl ?_
  refine s_i2b S0 (hb hby dCL2_7) (z := (1 : Int32)) (by decide) (pc' := 8) rfl ?_
  exact g_iretN S0 (hb hby dCL2_8) hret (by simp) ⟨rfl, rfl⟩
theorem dW42_0 : decode jdk_42_method_149_code 0 = .ok (.aload_n 0, 1) := by decide +kernel
theorem dW42_1 : decode jdk_42_method_149_code 1 = .ok (.invokespecial 1, 3) := by decide +kernel
theorem dW42_4 : decode jdk_42_method_149_code 4 = .ok (.iload_n 3, 1) := by decide +kernel
theorem dW42_5 : decode jdk_42_method_149_code 5 = .ok (.ifCond .ne 22, 3) := by decide +kernel
theorem dW42_27 : decode jdk_42_method_149_code 27 = .ok (.getstatic 38, 3) := by decide +kernel
theorem dW42_30 : decode jdk_42_method_149_code 30 = .ok (.ifCond .eq 28, 3) := by decide +kernel
theorem dW42_33 : decode jdk_42_method_149_code 33 = .ok (.aload_n 1, 1) := by decide +kernel
theorem dW42_34 : decode jdk_42_method_149_code 34 = .ok (.iload_n 2, 1) := by decide +kernel
theorem dW42_35 : decode jdk_42_method_149_code 35 = .ok (.iload_n 3, 1) := by decide +kernel
theorem dW42_36 : decode jdk_42_method_149_code 36 = .ok (.invokestatic 177, 3) := by decide +kernel
theorem dW42_39 : decode jdk_42_method_149_code 39 = .ok (.astore 5, 2) := by decide +kernel
theorem dW42_41 : decode jdk_42_method_149_code 41 = .ok (.aload_n 0, 1) := by decide +kernel
theorem dW42_42 : decode jdk_42_method_149_code 42 = .ok (.aload 5, 2) := by decide +kernel
theorem dW42_44 : decode jdk_42_method_149_code 44 = .ok (.iload_n 3, 1) := by decide +kernel
theorem dW42_45 : decode jdk_42_method_149_code 45 = .ok (.invokestatic 47, 3) := by decide +kernel
theorem dW42_48 : decode jdk_42_method_149_code 48 = .ok (.putfield 15, 3) := by decide +kernel
theorem dW42_51 : decode jdk_42_method_149_code 51 = .ok (.aload_n 0, 1) := by decide +kernel
theorem dW42_52 : decode jdk_42_method_149_code 52 = .ok (.aload 5, 2) := by decide +kernel
theorem dW42_54 : decode jdk_42_method_149_code 54 = .ok (.putfield 9, 3) := by decide +kernel
theorem dW42_57 : decode jdk_42_method_149_code 57 = .ok (.return_, 1) := by decide +kernel
set_option maxRecDepth 65536 in
set_option maxHeartbeats 40000000 in
theorem rmW42 {l : Launch} {Z : State} {a0 : Array Value} {n0 : Nat} (X : Ctx Z a0) {x b : Addr} {kb : ClassId} {c0 c1 : Int32} {v0 c0_ dv : Value} (na : n0 ≤ x) {h : Heap} (hO : Old Z n0 h) (E : Exa Z h x ST) (Fv : Fld Z h x ST "value" "[B" v0) (Fc : Fld Z h x ST "coder" "B" c0_) (Vb : Arv Z h b kb .char (2 : Int32) [(.int c0), (.int c1)] dv) (rc0 : ¬ c0 < 0 ∧ ¬ (65535 : Int32) < c0) (rc1 : ¬ c1 < 0 ∧ ¬ (65535 : Int32) < c1) (hwd : (255 : Int32) < c0 ∨ (255 : Int32) < c1) :
    Ctr l Z EL1 n0 (⟨"java/lang/String", "<init>", "([CIILjava/lang/Void;)V"⟩ : MethodName) jdk_42_method_149_code 6 none ({ frames := 4, cells := 2, slots := 6, locals := 65 } : Room) #[(.ref x), (.ref b), (.int (0 : Int32)), (.int (2 : Int32)), .null] h [x] (fun v h' => v = none ∧ Keep h h' [x] ∧ StrF Z h' x [c0, c1]) := by
  have hw := X.hw
  obtain ⟨z1, hz1, hz2⟩ := X.2.2.1
  refine Ctr.intro (a0 := a0) (plainFor_of_name pn1) hO X.ew ?_
  intro p e s m below meth c T0 V0 S0 hby hml hret hnm hsf
  rw [ef7]
  refine s_aloadN S0 (hb hby dW42_0) rfl rfl (pc' := 1) rfl ?_
  refine g_initO S0 (w20 hw) (w21 hw) (w22 hw) (by rw [hml]; rfl) (hb hby dW42_1) (Nat.le_of_ble_eq_true rfl) (Nat.le_of_ble_eq_true rfl) ?_
  intro T262 ST262
  show Go p e below _ (T262.setTop (mkF m 4 #[.val (.ref x), .val (.ref b), .val (.int (0 : Int32)), .val (.int (2 : Int32)), .val .null, .unset] []))
  refine s_iloadN ST262 (hb hby dW42_4) rfl (pc' := 5) rfl ?_
  refine s_ifY ST262 (hb hby dW42_5) (by decide) (by decide) (pcT := 27) (by decide) ?_
  refine g_getS ST262 (w54 hw) Via.refl (hz1.ext ST262.old.2) (hb hby dW42_27) ?_
  intro T263 ST263
  show Go p e below _ (T263.setTop (mkF m 30 #[.val (.ref x), .val (.ref b), .val (.int (0 : Int32)), .val (.int (2 : Int32)), .val .null, .unset] [(.int z1)]))
  refine s_ifN ST263 (hb hby dW42_30) ((if0 _ _).trans (feq hz2).1) (pc' := 33) rfl ?_
  refine s_aloadN ST263 (hb hby dW42_33) rfl rfl (pc' := 34) rfl ?_
  refine s_iloadN ST263 (hb hby dW42_34) rfl (pc' := 35) rfl ?_
  refine s_iloadN ST263 (hb hby dW42_35) rfl (pc' := 36) rfl ?_
  show Go p e below _ (T263.setTop (mkF m 36 #[.val (.ref x), .val (.ref b), .val (.int (0 : Int32)), .val (.int (2 : Int32)), .val .null, .unset] [(.int (2 : Int32)), (.int (0 : Int32)), (.ref b)]))
  refine g_static ST263 (rmC32 X ST263.old Vb rc0 rc1 hwd) (fun _ q => nomatch q) (w55 hw) (w56 hw) (w57 hw) (w58 hw) (by decide) (hb hby dW42_36) (by rw [hml]; rfl) [(.ref b), (.int (0 : Int32)), (.int (2 : Int32))] (lenOf pd4 rfl) rfl rfl (Nat.le_of_ble_eq_true rfl) (Nat.le_of_ble_eq_true rfl) (Nat.le_of_ble_eq_true rfl) (Nat.le_of_ble_eq_true rfl) ?_
  intro v264 T264 V264 h264 S264 C264 q264
  obtain ⟨u, ku, rfl, Eu, Vu⟩ := q264
  have sf265 := C264.safe E.lt (hsf x List.mem_cons_self)
  have neu : u ≠ x := fun q => by obtain ⟨c1, A1, -⟩ := Vu; exact ne_arr (E.ext Eu) (w11 hw) A1 q.symm
  show Go p e below _ (T264.setTop (mkF m 39 #[.val (.ref x), .val (.ref b), .val (.int (0 : Int32)), .val (.int (2 : Int32)), .val .null, .unset] [(.ref u)]))
  refine s_astore S264 (hb hby dW42_39) rfl (L' := #[.val (.ref x), .val (.ref b), .val (.int (0 : Int32)), .val (.int (2 : Int32)), .val .null, .val (.ref u)]) rfl (pc' := 41) rfl ?_
  refine s_aloadN S264 (hb hby dW42_41) rfl rfl (pc' := 42) rfl ?_
  refine s_aload S264 (hb hby dW42_42) rfl rfl (pc' := 44) rfl ?_
  refine s_iloadN S264 (hb hby dW42_44) rfl (pc' := 45) rfl ?_
  show Go p e below _ (T264.setTop (mkF m 45 #[.val (.ref x), .val (.ref b), .val (.int (0 : Int32)), .val (.int (2 : Int32)), .val .null, .val (.ref u)] [(.int (2 : Int32)), (.ref u), (.ref x)]))
  refine g_static S264 (rmCL2 X S264.old Vu) (fun _ q => nomatch q) (w62 hw) (w63 hw) (w57 hw) (w64 hw) (by decide) (hb hby dW42_45) (by rw [hml]; rfl) [(.ref u), (.int (2 : Int32))] (lenOf pd6 rfl) rfl rfl (Nat.le_of_ble_eq_true rfl) (Nat.le_of_ble_eq_true rfl) (Nat.le_of_ble_eq_true rfl) (Nat.le_of_ble_eq_true rfl) ?_
  intro v266 T266 V266 h266 S266 C266 q266
  obtain ⟨rfl, rfl⟩ := q266
  have sf267 := C266.safe (Nat.lt_of_lt_of_le E.lt (Nat.le_trans (Nat.le_refl _) Eu.1)) sf265
  show Go p e below _ (T266.setTop (mkF m 48 #[.val (.ref x), .val (.ref b), .val (.int (0 : Int32)), .val (.int (2 : Int32)), .val .null, .val (.ref u)] [(.int (1 : Int32)), (.ref x)]))
  show Go p e below _ (T266.setTop (mkF m 48 #[.val (.ref x), .val (.ref b), .val (.int (0 : Int32)), .val (.int (2 : Int32)), .val .null, .val (.ref u)] [(.int (1 : Int32)), (.ref x)]))
  have Fc269 := Fc.ext Eu
  have E270 := E.ext Eu
  have Fv271 := Fv.ext Eu
  refine g_putF S266 (w30 hw) Via.refl Fc269 E270 (Or.inr ⟨(w26 hw), rfl, hnm⟩) (w11 hw) (ty := .byte) (v' := (.int (1 : Int32))) (by decide) rfl rfl na sf267 (hb hby dW42_48) ?_
  intro T268 h268 S268 K268 W268 A268 F268 sg268
  have sf272 := Safe.keep K268 (sfS sf267 sf0) S266.chv sf267
  have F273 := Fv271.other W268 (Or.inr (slot_ne (Or.inr (w25 hw)) (Or.inr (w26 hw)) (by decide) (t := (.array .byte)) (t' := .byte) (by decide) (by decide)))
  show Go p e below _ (T268.setTop (mkF m 51 #[.val (.ref x), .val (.ref b), .val (.int (0 : Int32)), .val (.int (2 : Int32)), .val .null, .val (.ref u)] []))
  refine s_aloadN S268 (hb hby dW42_51) rfl rfl (pc' := 52) rfl ?_
  refine s_aload S268 (hb hby dW42_52) rfl rfl (pc' := 54) rfl ?_
  show Go p e below _ (T268.setTop (mkF m 54 #[.val (.ref x), .val (.ref b), .val (.int (0 : Int32)), .val (.int (2 : Int32)), .val .null, .val (.ref u)] [(.ref u), (.ref x)]))
  refine g_putF S268 (w29 hw) Via.refl F273 A268 (Or.inr ⟨(w25 hw), rfl, hnm⟩) (w11 hw) (ty := (.array .byte)) (v' := (.ref u)) (by decide) rfl rfl na sg268 (hb hby dW42_54) ?_
  intro T274 h274 S274 K274 W274 A274 F274 sg274
  have sf275 := Safe.keep K274 (sfS sg268 sf0) S268.chv sg268
  have F276 := F268.other W274 (Or.inr (slot_ne (Or.inr (w26 hw)) (Or.inr (w25 hw)) (by decide) (t := .byte) (t' := (.array .byte)) (by decide) (by decide)))
  show Go p e below _ (T274.setTop (mkF m 57 #[.val (.ref x), .val (.ref b), .val (.int (0 : Int32)), .val (.int (2 : Int32)), .val .null, .val (.ref u)] []))
  show Go p e below _ (T274.setTop (mkF m 57 #[.val (.ref x), .val (.ref b), .val (.int (0 : Int32)), .val (.int (2 : Int32)), .val .null, .val (.ref u)] []))
  have KA277 : Keep h h274 [x] := ((((Keep.refl h [x]).ext Eu).trans K268 (fun y hy => Or.inl hy)).trans K274 (fun y hy => Or.inl hy))
  have F278 := Vu.keep K268 (ninS neu nin0)
  have F279 := F278.keep K274 (ninS neu nin0)
  exact g_ret S274 (hb hby dW42_57) hret ⟨rfl, KA277, u, ku, 1, _, _, A274, F274, F276, F279, Or.inr ⟨rfl, rfl, rfl, own_ex2 hwd⟩, (faS rc0 (faS rc1 (fa0))), (Nat.le_of_ble_eq_true rfl)⟩
theorem dW12_0 : decode jdk_42_method_3_code 0 = .ok (.aload_n 0, 1) := by decide +kernel
theorem dW12_1 : decode jdk_42_method_3_code 1 = .ok (.aload_n 1, 1) := by decide +kernel
theorem dW12_2 : decode jdk_42_method_3_code 2 = .ok (.iconst 0, 1) := by decide +kernel
theorem dW12_3 : decode jdk_42_method_3_code 3 = .ok (.aload_n 1, 1) := by decide +kernel
theorem dW12_4 : decode jdk_42_method_3_code 4 = .ok (.arraylength, 1) := by decide +kernel
theorem dW12_5 : decode jdk_42_method_3_code 5 = .ok (.aconst_null, 1) := by decide +kernel
theorem dW12_6 : decode jdk_42_method_3_code 6 = .ok (.invokespecial 27, 3) := by decide +kernel
theorem dW12_9 : decode jdk_42_method_3_code 9 = .ok (.return_, 1) := by decide +kernel
set_option maxRecDepth 65536 in
set_option maxHeartbeats 40000000 in
theorem rmW12 {l : Launch} {Z : State} {a0 : Array Value} {n0 : Nat} (X : Ctx Z a0) {x b : Addr} {kb : ClassId} {c0 c1 : Int32} {v0 c0_ dv : Value} (na : n0 ≤ x) {h : Heap} (hO : Old Z n0 h) (E : Exa Z h x ST) (Fv : Fld Z h x ST "value" "[B" v0) (Fc : Fld Z h x ST "coder" "B" c0_) (Vb : Arv Z h b kb .char (2 : Int32) [(.int c0), (.int c1)] dv) (rc0 : ¬ c0 < 0 ∧ ¬ (65535 : Int32) < c0) (rc1 : ¬ c1 < 0 ∧ ¬ (65535 : Int32) < c1) (hwd : (255 : Int32) < c0 ∨ (255 : Int32) < c1) :
    Ctr l Z EL1 n0 (⟨"java/lang/String", "<init>", "([C)V"⟩ : MethodName) jdk_42_method_3_code 2 none ({ frames := 5, cells := 2, slots := 6, locals := 82 } : Room) #[(.ref x), (.ref b)] h [x] (fun v h' => v = none ∧ Keep h h' [x] ∧ StrF Z h' x [c0, c1]) := by
  have hw := X.hw
  obtain ⟨z1, hz1, hz2⟩ := X.2.2.1
  refine Ctr.intro (a0 := a0) (plainFor_of_name pn1) hO X.ew ?_
  intro p e s m below meth c T0 V0 S0 hby hml hret hnm hsf
  rw [ef8]
  refine s_aloadN S0 (hb hby dW12_0) rfl rfl (pc' := 1) rfl ?_
  refine s_aloadN S0 (hb hby dW12_1) rfl rfl (pc' := 2) rfl ?_
  refine s_iconst S0 (hb hby dW12_2) (v := (0 : Int32)) rfl (pc' := 3) rfl ?_
  refine s_aloadN S0 (hb hby dW12_3) rfl rfl (pc' := 4) rfl ?_
  refine g_len S0 Vb (hb hby dW12_4) ?_
  show Go p e below _ (T0.setTop (mkF m 5 #[.val (.ref x), .val (.ref b)] [(.int (2 : Int32)), (.int (0 : Int32)), (.ref b), (.ref x)]))
  refine s_null S0 (hb hby dW12_5) (pc' := 6) rfl ?_
  show Go p e below _ (T0.setTop (mkF m 6 #[.val (.ref x), .val (.ref b)] [.null, (.int (2 : Int32)), (.int (0 : Int32)), (.ref b), (.ref x)]))
  refine g_special S0 (rmW42 X na S0.old E Fv Fc Vb rc0 rc1 hwd) (sf1 E.lt (hsf x List.mem_cons_self)) rfl (w16 hw) (w17 hw) (w12 hw) (w19 hw) (by decide) (hb hby dW12_6) (by rw [hml]; rfl) x [(.ref b), (.int (0 : Int32)), (.int (2 : Int32)), .null] (lenOf pd7 rfl) rfl rfl (Nat.le_of_ble_eq_true rfl) (Nat.le_of_ble_eq_true rfl) (Nat.le_of_ble_eq_true rfl) (Nat.le_of_ble_eq_true rfl) ?_
  intro v280 T280 V280 h280 S280 C280 q280
  obtain ⟨rfl, K6, F6⟩ := q280
  show Go p e below _ (T280.setTop (mkF m 9 #[.val (.ref x), .val (.ref b)] []))
  exact g_ret S280 (hb hby dW12_9) hret ⟨rfl, K6, F6⟩
theorem dPK10r_0 : decode jdk_41_method_11_code 0 = .ok (.iload_n 0, 1) := by decide +kernel
theorem dPK10r_1 : decode jdk_41_method_11_code 1 = .ok (.ifCond .lt 8, 3) := by decide +kernel
theorem dPK10r_4 : decode jdk_41_method_11_code 4 = .ok (.iload_n 0, 1) := by decide +kernel
theorem dPK10r_5 : decode jdk_41_method_11_code 5 = .ok (.iload_n 1, 1) := by decide +kernel
theorem dPK10r_6 : decode jdk_41_method_11_code 6 = .ok (.if_icmp .lt 10, 3) := by decide +kernel
theorem dPK10r_16 : decode jdk_41_method_11_code 16 = .ok (.iload_n 0, 1) := by decide +kernel
theorem dPK10r_17 : decode jdk_41_method_11_code 17 = .ok (.ireturn, 1) := by decide +kernel
set_option maxRecDepth 65536 in
set_option maxHeartbeats 40000000 in
theorem rmPK10r {l : Launch} {Z : State} {a0 : Array Value} {n0 : Nat} (X : Ctx Z a0) (fb : Addr) {h : Heap} (hO : Old Z n0 h)  :
    Ctr l Z EL1 n0 (⟨"jdk/internal/util/Preconditions", "checkIndex", "(IILjava/util/function/BiFunction;)I"⟩ : MethodName) jdk_41_method_11_code 3 (some .int) ({ frames := 0, cells := 0, slots := 0, locals := 0 } : Room) #[(.int (0 : Int32)), (.int (1 : Int32)), (.ref fb)] h [] (fun v h' => v = some (.int (0 : Int32)) ∧ h' = h) := by
  have hw := X.hw
  obtain ⟨z1, hz1, hz2⟩ := X.2.2.1
  refine Ctr.intro (a0 := a0) (plainFor_of_name pn2) hO X.ew ?_
  intro p e s m below meth c T0 V0 S0 hby hml hret hnm hsf
  rw [ef9]
  refine s_iloadN S0 (hb hby dPK10r_0) rfl (pc' := 1) rfl ?_
  refine s_ifN S0 (hb hby dPK10r_1) (by decide) (pc' := 4) rfl ?_
  refine s_iloadN S0 (hb hby dPK10r_4) rfl (pc' := 5) rfl ?_
  refine s_iloadN S0 (hb hby dPK10r_5) rfl (pc' := 6) rfl ?_
  refine s_icmpY S0 (hb hby dPK10r_6) (by decide) (by decide) (pcT := 16) (by decide) ?_
  refine s_iloadN S0 (hb hby dPK10r_16) rfl (pc' := 17) rfl ?_
  exact g_iret S0 (hb hby dPK10r_17) hret ⟨rfl, rfl⟩
theorem dPK10n_0 : decode jdk_41_method_11_code 0 = .ok (.iload_n 0, 1) := by decide +kernel
theorem dPK10n_1 : decode jdk_41_method_11_code 1 = .ok (.ifCond .lt 8, 3) := by decide +kernel
theorem dPK10n_4 : decode jdk_41_method_11_code 4 = .ok (.iload_n 0, 1) := by decide +kernel
theorem dPK10n_5 : decode jdk_41_method_11_code 5 = .ok (.iload_n 1, 1) := by decide +kernel
theorem dPK10n_6 : decode jdk_41_method_11_code 6 = .ok (.if_icmp .lt 10, 3) := by decide +kernel
theorem dPK10n_16 : decode jdk_41_method_11_code 16 = .ok (.iload_n 0, 1) := by decide +kernel
theorem dPK10n_17 : decode jdk_41_method_11_code 17 = .ok (.ireturn, 1) := by decide +kernel
set_option maxRecDepth 65536 in
set_option maxHeartbeats 40000000 in
theorem rmPK10n {l : Launch} {Z : State} {a0 : Array Value} {n0 : Nat} (X : Ctx Z a0)  {h : Heap} (hO : Old Z n0 h)  :
    Ctr l Z EL1 n0 (⟨"jdk/internal/util/Preconditions", "checkIndex", "(IILjava/util/function/BiFunction;)I"⟩ : MethodName) jdk_41_method_11_code 3 (some .int) ({ frames := 0, cells := 0, slots := 0, locals := 0 } : Room) #[(.int (0 : Int32)), (.int (1 : Int32)), .null] h [] (fun v h' => v = some (.int (0 : Int32)) ∧ h' = h) := by
  have hw := X.hw
  obtain ⟨z1, hz1, hz2⟩ := X.2.2.1
  refine Ctr.intro (a0 := a0) (plainFor_of_name pn2) hO X.ew ?_
  intro p e s m below meth c T0 V0 S0 hby hml hret hnm hsf
  rw [ef10]
  refine s_iloadN S0 (hb hby dPK10n_0) rfl (pc' := 1) rfl ?_
  refine s_ifN S0 (hb hby dPK10n_1) (by decide) (pc' := 4) rfl ?_
  refine s_iloadN S0 (hb hby dPK10n_4) rfl (pc' := 5) rfl ?_
  refine s_iloadN S0 (hb hby dPK10n_5) rfl (pc' := 6) rfl ?_
  refine s_icmpY S0 (hb hby dPK10n_6) (by decide) (by decide) (pcT := 16) (by decide) ?_
  refine s_iloadN S0 (hb hby dPK10n_16) rfl (pc' := 17) rfl ?_
  exact g_iret S0 (hb hby dPK10n_17) hret ⟨rfl, rfl⟩
theorem dSK10_0 : decode jdk_42_method_155_code 0 = .ok (.iload_n 0, 1) := by decide +kernel
theorem dSK10_1 : decode jdk_42_method_155_code 1 = .ok (.iload_n 1, 1) := by decide +kernel
theorem dSK10_2 : decode jdk_42_method_155_code 2 = .ok (.getstatic 1053, 3) := by decide +kernel
theorem dSK10_5 : decode jdk_42_method_155_code 5 = .ok (.invokestatic 1059, 3) := by decide +kernel
theorem dSK10_8 : decode jdk_42_method_155_code 8 = .ok (.pop, 1) := by decide +kernel
theorem dSK10_9 : decode jdk_42_method_155_code 9 = .ok (.return_, 1) := by decide +kernel
set_option maxRecDepth 65536 in
set_option maxHeartbeats 40000000 in
theorem rmSK10 {l : Launch} {Z : State} {a0 : Array Value} {n0 : Nat} (X : Ctx Z a0)  {h : Heap} (hO : Old Z n0 h)  :
    Ctr l Z EL1 n0 (⟨"java/lang/String", "checkIndex", "(II)V"⟩ : MethodName) jdk_42_method_155_code 2 none ({ frames := 1, cells := 0, slots := 0, locals := 14 } : Room) #[(.int (0 : Int32)), (.int (1 : Int32))] h [] (fun v h' => v = none ∧ h' = h) := by
  have hw := X.hw
  obtain ⟨z1, hz1, hz2⟩ := X.2.2.1
  refine Ctr.intro (a0 := a0) (plainFor_of_name pn1) hO X.ew ?_
  intro p e s m below meth c T0 V0 S0 hby hml hret hnm hsf
  rw [ef11]
  obtain ⟨fm, hfm, rfm⟩ := X.fm
  rcases ref_cases rfm with rfl | ⟨fb, rfl⟩
  · skip
    refine s_iloadN S0 (hb hby dSK10_0) rfl (pc' := 1) rfl ?_
    refine s_iloadN S0 (hb hby dSK10_1) rfl (pc' := 2) rfl ?_
    refine g_getS S0 (w82 hw) Via.refl (hfm.ext S0.old.2) (hb hby dSK10_2) ?_
    intro T281 ST281
    show Go p e below _ (T281.setTop (mkF m 5 #[.val (.int (0 : Int32)), .val (.int (1 : Int32))] [.null, (.int (1 : Int32)), (.int (0 : Int32))]))
    show Go p e below _ (T281.setTop (mkF m 5 #[.val (.int (0 : Int32)), .val (.int (1 : Int32))] [.null, (.int (1 : Int32)), (.int (0 : Int32))]))
    refine g_static ST281 (rmPK10n X ST281.old) (fun _ q => nomatch q) (w84 hw) (w85 hw) (w83 hw) (w86 hw) (by decide) (hb hby dSK10_5) (by rw [hml]; rfl) [(.int (0 : Int32)), (.int (1 : Int32)), .null] (lenOf pd8 rfl) rfl rfl (Nat.le_of_ble_eq_true rfl) (Nat.le_of_ble_eq_true rfl) (Nat.le_of_ble_eq_true rfl) (Nat.le_of_ble_eq_true rfl) ?_
    intro v282 T282 V282 h282 S282 C282 q282
    obtain ⟨rfl, rfl⟩ := q282
    show Go p e below _ (T282.setTop (mkF m 8 #[.val (.int (0 : Int32)), .val (.int (1 : Int32))] [(.int (0 : Int32))]))
    refine s_pop S282 (hb hby dSK10_8) rfl (pc' := 9) rfl ?_
    exact g_ret S282 (hb hby dSK10_9) hret ⟨rfl, rfl⟩
  · skip
    refine s_iloadN S0 (hb hby dSK10_0) rfl (pc' := 1) rfl ?_
    refine s_iloadN S0 (hb hby dSK10_1) rfl (pc' := 2) rfl ?_
    refine g_getS S0 (w82 hw) Via.refl (hfm.ext S0.old.2) (hb hby dSK10_2) ?_
    intro T283 ST283
    show Go p e below _ (T283.setTop (mkF m 5 #[.val (.int (0 : Int32)), .val (.int (1 : Int32))] [(.ref fb), (.int (1 : Int32)), (.int (0 : Int32))]))
    show Go p e below _ (T283.setTop (mkF m 5 #[.val (.int (0 : Int32)), .val (.int (1 : Int32))] [(.ref fb), (.int (1 : Int32)), (.int (0 : Int32))]))
    refine g_static ST283 (rmPK10r X fb ST283.old) (fun _ q => nomatch q) (w84 hw) (w85 hw) (w83 hw) (w86 hw) (by decide) (hb hby dSK10_5) (by rw [hml]; rfl) [(.int (0 : Int32)), (.int (1 : Int32)), (.ref fb)] (lenOf pd8 rfl) rfl rfl (Nat.le_of_ble_eq_true rfl) (Nat.le_of_ble_eq_true rfl) (Nat.le_of_ble_eq_true rfl) (Nat.le_of_ble_eq_true rfl) ?_
    intro v284 T284 V284 h284 S284 C284 q284
    obtain ⟨rfl, rfl⟩ := q284
    show Go p e below _ (T284.setTop (mkF m 8 #[.val (.int (0 : Int32)), .val (.int (1 : Int32))] [(.int (0 : Int32))]))
    refine s_pop S284 (hb hby dSK10_8) rfl (pc' := 9) rfl ?_
    exact g_ret S284 (hb hby dSK10_9) hret ⟨rfl, rfl⟩
theorem dUK10_0 : decode jdk_52_method_91_code 0 = .ok (.iload_n 0, 1) := by decide +kernel
theorem dUK10_1 : decode jdk_52_method_91_code 1 = .ok (.aload_n 1, 1) := by decide +kernel
theorem dUK10_2 : decode jdk_52_method_91_code 2 = .ok (.invokestatic 48, 3) := by decide +kernel
theorem dUK10_5 : decode jdk_52_method_91_code 5 = .ok (.invokestatic 414, 3) := by decide +kernel
theorem dUK10_8 : decode jdk_52_method_91_code 8 = .ok (.return_, 1) := by decide +kernel
set_option maxRecDepth 65536 in
set_option maxHeartbeats 40000000 in
theorem rmUK10 {l : Launch} {Z : State} {a0 : Array Value} {n0 : Nat} (X : Ctx Z a0) {u : Addr} {ku : ClassId} {c0 : Int32} {h : Heap} (hO : Old Z n0 h) (Vu : Arv Z h u ku .byte (2 : Int32) [(.int (StrChars.lo8 c0)), (.int (StrChars.hi8 c0))] (.int (0 : Int32))) :
    Ctr l Z EL1 n0 (⟨"java/lang/StringUTF16", "checkIndex", "(I[B)V"⟩ : MethodName) jdk_52_method_91_code 2 none ({ frames := 2, cells := 0, slots := 0, locals := 28 } : Room) #[(.int (0 : Int32)), (.ref u)] h [] (fun v h' => v = none ∧ h' = h) := by
  have hw := X.hw
  obtain ⟨z1, hz1, hz2⟩ := X.2.2.1
  refine Ctr.intro (a0 := a0) (plainFor_of_name pn0) hO X.ew ?_
  intro p e s m below meth c T0 V0 S0 hby hml hret hnm hsf
  rw [ef12]
  refine s_iloadN S0 (hb hby dUK10_0) rfl (pc' := 1) rfl ?_
  refine s_aloadN S0 (hb hby dUK10_1) rfl rfl (pc' := 2) rfl ?_
  show Go p e below _ (T0.setTop (mkF m 2 #[.val (.int (0 : Int32)), .val (.ref u)] [(.ref u), (.int (0 : Int32))]))
  refine g_static S0 (rmUL1 X S0.old Vu) (fun _ q => nomatch q) (w116 hw) (w117 hw) (w57 hw) (w118 hw) (by decide) (hb hby dUK10_2) (by rw [hml]; rfl) [(.ref u)] (lenOf pd9 rfl) rfl rfl (Nat.le_of_ble_eq_true rfl) (Nat.le_of_ble_eq_true rfl) (Nat.le_of_ble_eq_true rfl) (Nat.le_of_ble_eq_true rfl) ?_
  intro v285 T285 V285 h285 S285 C285 q285
  obtain ⟨rfl, rfl⟩ := q285
  show Go p e below _ (T285.setTop (mkF m 5 #[.val (.int (0 : Int32)), .val (.ref u)] [(.int (1 : Int32)), (.int (0 : Int32))]))
  show Go p e below _ (T285.setTop (mkF m 5 #[.val (.int (0 : Int32)), .val (.ref u)] [(.int (1 : Int32)), (.int (0 : Int32))]))
  refine g_static S285 (rmSK10 X S285.old) (fun _ q => nomatch q) (w119 hw) (w80 hw) (w12 hw) (w81 hw) (by decide) (hb hby dUK10_5) (by rw [hml]; rfl) [(.int (0 : Int32)), (.int (1 : Int32))] (lenOf pd10 rfl) rfl rfl (Nat.le_of_ble_eq_true rfl) (Nat.le_of_ble_eq_true rfl) (Nat.le_of_ble_eq_true rfl) (Nat.le_of_ble_eq_true rfl) ?_
  intro v286 T286 V286 h286 S286 C286 q286
  obtain ⟨rfl, rfl⟩ := q286
  show Go p e below _ (T286.setTop (mkF m 8 #[.val (.int (0 : Int32)), .val (.ref u)] []))
  exact g_ret S286 (hb hby dUK10_8) hret ⟨rfl, rfl⟩
theorem dUC10_0 : decode jdk_52_method_83_code 0 = .ok (.iload_n 1, 1) := by decide +kernel
theorem dUC10_1 : decode jdk_52_method_83_code 1 = .ok (.aload_n 0, 1) := by decide +kernel
theorem dUC10_2 : decode jdk_52_method_83_code 2 = .ok (.invokestatic 67, 3) := by decide +kernel
theorem dUC10_5 : decode jdk_52_method_83_code 5 = .ok (.aload_n 0, 1) := by decide +kernel
theorem dUC10_6 : decode jdk_52_method_83_code 6 = .ok (.iload_n 1, 1) := by decide +kernel
theorem dUC10_7 : decode jdk_52_method_83_code 7 = .ok (.invokestatic 71, 3) := by decide +kernel
theorem dUC10_10 : decode jdk_52_method_83_code 10 = .ok (.ireturn, 1) := by decide +kernel
set_option maxRecDepth 65536 in
set_option maxHeartbeats 40000000 in
theorem rmUC10 {l : Launch} {Z : State} {a0 : Array Value} {n0 : Nat} (X : Ctx Z a0) {u : Addr} {ku : ClassId} {c0 : Int32} {h : Heap} (hO : Old Z n0 h) (Vu : Arv Z h u ku .byte (2 : Int32) [(.int (StrChars.lo8 c0)), (.int (StrChars.hi8 c0))] (.int (0 : Int32))) (r : ¬ c0 < 0 ∧ ¬ (65535 : Int32) < c0) :
    Ctr l Z EL1 n0 (⟨"java/lang/StringUTF16", "charAt", "([BI)C"⟩ : MethodName) jdk_52_method_83_code 2 (some .char) ({ frames := 3, cells := 0, slots := 0, locals := 41 } : Room) #[(.ref u), (.int (0 : Int32))] h [] (fun v h' => v = some (.int c0) ∧ h' = h) := by
  have hw := X.hw
  obtain ⟨z1, hz1, hz2⟩ := X.2.2.1
  refine Ctr.intro (a0 := a0) (plainFor_of_name pn0) hO X.ew ?_
  intro p e s m below meth c T0 V0 S0 hby hml hret hnm hsf
  rw [ef1]
  refine s_iloadN S0 (hb hby dUC10_0) rfl (pc' := 1) rfl ?_
  refine s_aloadN S0 (hb hby dUC10_1) rfl rfl (pc' := 2) rfl ?_
  show Go p e below _ (T0.setTop (mkF m 2 #[.val (.ref u), .val (.int (0 : Int32))] [(.ref u), (.int (0 : Int32))]))
  refine g_static S0 (rmUK10 X S0.old Vu) (fun _ q => nomatch q) (w113 hw) (w114 hw) (w57 hw) (w115 hw) (by decide) (hb hby dUC10_2) (by rw [hml]; rfl) [(.int (0 : Int32)), (.ref u)] (lenOf pd11 rfl) rfl rfl (Nat.le_of_ble_eq_true rfl) (Nat.le_of_ble_eq_true rfl) (Nat.le_of_ble_eq_true rfl) (Nat.le_of_ble_eq_true rfl) ?_
  intro v287 T287 V287 h287 S287 C287 q287
  obtain ⟨rfl, rfl⟩ := q287
  show Go p e below _ (T287.setTop (mkF m 5 #[.val (.ref u), .val (.int (0 : Int32))] []))
  refine s_aloadN S287 (hb hby dUC10_5) rfl rfl (pc' := 6) rfl ?_
  refine s_iloadN S287 (hb hby dUC10_6) rfl (pc' := 7) rfl ?_
  show Go p e below _ (T287.setTop (mkF m 7 #[.val (.ref u), .val (.int (0 : Int32))] [(.int (0 : Int32)), (.ref u)]))
  refine g_static S287 (rmGC10 X S287.old Vu r) (fun _ q => nomatch q) (w107 hw) (w108 hw) (w57 hw) (w109 hw) (by decide) (hb hby dUC10_7) (by rw [hml]; rfl) [(.ref u), (.int (0 : Int32))] (lenOf pd5 rfl) rfl rfl (Nat.le_of_ble_eq_true rfl) (Nat.le_of_ble_eq_true rfl) (Nat.le_of_ble_eq_true rfl) (Nat.le_of_ble_eq_true rfl) ?_
  intro v288 T288 V288 h288 S288 C288 q288
  obtain ⟨rfl, rfl⟩ := q288
  show Go p e below _ (T288.setTop (mkF m 10 #[.val (.ref u), .val (.int (0 : Int32))] [(.int c0)]))
  exact g_iretN S288 (hb hby dUC10_10) hret (by simp) ⟨by rw [narC r], rfl⟩
theorem dIS_0 : decode jdk_42_method_154_code 0 = .ok (.getstatic 38, 3) := by decide +kernel
theorem dIS_3 : decode jdk_42_method_154_code 3 = .ok (.ifCond .eq 14, 3) := by decide +kernel
theorem dIS_6 : decode jdk_42_method_154_code 6 = .ok (.aload_n 0, 1) := by decide +kernel
theorem dIS_7 : decode jdk_42_method_154_code 7 = .ok (.getfield 15, 3) := by decide +kernel
theorem dIS_10 : decode jdk_42_method_154_code 10 = .ok (.ifCond .ne 7, 3) := by decide +kernel
theorem dIS_17 : decode jdk_42_method_154_code 17 = .ok (.iconst 0, 1) := by decide +kernel
theorem dIS_18 : decode jdk_42_method_154_code 18 = .ok (.ireturn, 1) := by decide +kernel
set_option maxRecDepth 65536 in
set_option maxHeartbeats 40000000 in
theorem rmIS {l : Launch} {Z : State} {a0 : Array Value} {n0 : Nat} (X : Ctx Z a0) {x : Addr} {h : Heap} (hO : Old Z n0 h) (Fc : Fld Z h x ST "coder" "B" (.int 1)) :
    Ctr l Z EL1 n0 (⟨"java/lang/String", "isLatin1", "()Z"⟩ : MethodName) jdk_42_method_154_code 1 (some .boolean) ({ frames := 0, cells := 0, slots := 0, locals := 0 } : Room) #[(.ref x)] h [] (fun v h' => v = some (.int 0) ∧ h' = h) := by
  have hw := X.hw
  obtain ⟨z1, hz1, hz2⟩ := X.2.2.1
  refine Ctr.intro (a0 := a0) (plainFor_of_name pn1) hO X.ew ?_
  intro p e s m below meth c T0 V0 S0 hby hml hret hnm hsf
  rw [ef0]
  refine g_getS S0 (w54 hw) Via.refl (hz1.ext S0.old.2) (hb hby dIS_0) ?_
  intro T289 ST289
  show Go p e below _ (T289.setTop (mkF m 3 #[.val (.ref x)] [(.int z1)]))
  refine s_ifN ST289 (hb hby dIS_3) ((if0 _ _).trans (feq hz2).1) (pc' := 6) rfl ?_
  refine s_aloadN ST289 (hb hby dIS_6) rfl rfl (pc' := 7) rfl ?_
  refine g_getF ST289 (w30 hw) Via.refl Fc (hb hby dIS_7) ?_
  intro T290 ST290
  show Go p e below _ (T290.setTop (mkF m 10 #[.val (.ref x)] [(.int (1 : Int32))]))
  refine s_ifY ST290 (hb hby dIS_10) (by decide) (by decide) (pcT := 17) (by decide) ?_
  refine s_iconst ST290 (hb hby dIS_17) (v := (0 : Int32)) rfl (pc' := 18) rfl ?_
  exact g_iretN ST290 (hb hby dIS_18) hret (by simp) ⟨rfl, rfl⟩
theorem dCA10_0 : decode jdk_42_method_56_code 0 = .ok (.aload_n 0, 1) := by decide +kernel
theorem dCA10_1 : decode jdk_42_method_56_code 1 = .ok (.invokevirtual 492, 3) := by decide +kernel
theorem dCA10_4 : decode jdk_42_method_56_code 4 = .ok (.ifCond .eq 12, 3) := by decide +kernel
theorem dCA10_16 : decode jdk_42_method_56_code 16 = .ok (.aload_n 0, 1) := by decide +kernel
theorem dCA10_17 : decode jdk_42_method_56_code 17 = .ok (.getfield 9, 3) := by decide +kernel
theorem dCA10_20 : decode jdk_42_method_56_code 20 = .ok (.iload_n 1, 1) := by decide +kernel
theorem dCA10_21 : decode jdk_42_method_56_code 21 = .ok (.invokestatic 498, 3) := by decide +kernel
theorem dCA10_24 : decode jdk_42_method_56_code 24 = .ok (.ireturn, 1) := by decide +kernel
set_option maxRecDepth 65536 in
set_option maxHeartbeats 40000000 in
theorem rmCA10 {l : Launch} {Z : State} {a0 : Array Value} {n0 : Nat} (X : Ctx Z a0) {x : Addr} {c0 : Int32} {h : Heap} (hO : Old Z n0 h) (F : StrF Z h x [c0]) (hwd : (255 : Int32) < c0) :
    Ctr l Z EL1 n0 (⟨"java/lang/String", "charAt", "(I)C"⟩ : MethodName) jdk_42_method_56_code 2 (some .char) ({ frames := 4, cells := 0, slots := 0, locals := 54 } : Room) #[(.ref x), (.int (0 : Int32))] h [] (fun v h' => v = some (.int c0) ∧ h' = h) := by
  have hw := X.hw
  obtain ⟨z1, hz1, hz2⟩ := X.2.2.1
  refine Ctr.intro (a0 := a0) (plainFor_of_name pn1) hO X.ew ?_
  intro p e s m below meth c T0 V0 S0 hby hml hret hnm hsf
  rw [ef1]
  obtain ⟨u, ku, cd, N2, vs, f1, f2, f3, f4, f5, f6, f7⟩ := F
  rcases f5 with ⟨-, -, -, f5⟩ | ⟨rfl, rfl, rfl, -⟩
  · obtain ⟨cc, hcc, hb_⟩ := own_ex1 hwd; exact absurd hb_ (f5 cc hcc)
  have Vu : Arv Z h u ku .byte (2 : Int32) [(.int (StrChars.lo8 c0)), (.int (StrChars.hi8 c0))] (.int (0 : Int32)) := f4
  show Go p e below _ (T0.setTop (mkF m 0 #[.val (.ref x), .val (.int (0 : Int32))] []))
  refine s_aloadN S0 (hb hby dCA10_0) rfl rfl (pc' := 1) rfl ?_
  show Go p e below _ (T0.setTop (mkF m 1 #[.val (.ref x), .val (.int (0 : Int32))] [(.ref x)]))
  refine g_virtual S0 (rmIS X S0.old f3) (fun _ q => nomatch q) (w70 hw) (w71 hw) (w73 hw) (w72 hw) (w12 hw) (w74 hw) (by decide) (fun _ h => notFace_of_selects h) (hb hby dCA10_1) (by rw [hml]; rfl) x f1 [] (lenOf pd12 rfl) rfl rfl (Nat.le_of_ble_eq_true rfl) (Nat.le_of_ble_eq_true rfl) (Nat.le_of_ble_eq_true rfl) (Nat.le_of_ble_eq_true rfl) ?_
  intro v291 T291 V291 h291 S291 C291 q291
  obtain ⟨rfl, rfl⟩ := q291
  show Go p e below _ (T291.setTop (mkF m 4 #[.val (.ref x), .val (.int (0 : Int32))] [(.int (0 : Int32))]))
  refine s_ifY S291 (hb hby dCA10_4) (by decide) (by decide) (pcT := 16) (by decide) ?_
  refine s_aloadN S291 (hb hby dCA10_16) rfl rfl (pc' := 17) rfl ?_
  refine g_getF S291 (w29 hw) Via.refl f2 (hb hby dCA10_17) ?_
  intro T292 ST292
  show Go p e below _ (T292.setTop (mkF m 20 #[.val (.ref x), .val (.int (0 : Int32))] [(.ref u)]))
  refine s_iloadN ST292 (hb hby dCA10_20) rfl (pc' := 21) rfl ?_
  show Go p e below _ (T292.setTop (mkF m 21 #[.val (.ref x), .val (.int (0 : Int32))] [(.int (0 : Int32)), (.ref u)]))
  refine g_static ST292 (rmUC10 X ST292.old Vu (f6 c0 (by simp))) (fun _ q => nomatch q) (w110 hw) (w111 hw) (w57 hw) (w112 hw) (by decide) (hb hby dCA10_21) (by rw [hml]; rfl) [(.ref u), (.int (0 : Int32))] (lenOf pd5 rfl) rfl rfl (Nat.le_of_ble_eq_true rfl) (Nat.le_of_ble_eq_true rfl) (Nat.le_of_ble_eq_true rfl) (Nat.le_of_ble_eq_true rfl) ?_
  intro v293 T293 V293 h293 S293 C293 q293
  obtain ⟨rfl, rfl⟩ := q293
  show Go p e below _ (T293.setTop (mkF m 24 #[.val (.ref x), .val (.int (0 : Int32))] [(.int c0)]))
  exact g_iretN S293 (hb hby dCA10_24) hret (by simp) ⟨by rw [narC (f6 c0 (by simp))], rfl⟩
theorem dPK20r_0 : decode jdk_41_method_11_code 0 = .ok (.iload_n 0, 1) := by decide +kernel
theorem dPK20r_1 : decode jdk_41_method_11_code 1 = .ok (.ifCond .lt 8, 3) := by decide +kernel
theorem dPK20r_4 : decode jdk_41_method_11_code 4 = .ok (.iload_n 0, 1) := by decide +kernel
theorem dPK20r_5 : decode jdk_41_method_11_code 5 = .ok (.iload_n 1, 1) := by decide +kernel
theorem dPK20r_6 : decode jdk_41_method_11_code 6 = .ok (.if_icmp .lt 10, 3) := by decide +kernel
theorem dPK20r_16 : decode jdk_41_method_11_code 16 = .ok (.iload_n 0, 1) := by decide +kernel
theorem dPK20r_17 : decode jdk_41_method_11_code 17 = .ok (.ireturn, 1) := by decide +kernel
set_option maxRecDepth 65536 in
set_option maxHeartbeats 40000000 in
theorem rmPK20r {l : Launch} {Z : State} {a0 : Array Value} {n0 : Nat} (X : Ctx Z a0) (fb : Addr) {h : Heap} (hO : Old Z n0 h)  :
    Ctr l Z EL1 n0 (⟨"jdk/internal/util/Preconditions", "checkIndex", "(IILjava/util/function/BiFunction;)I"⟩ : MethodName) jdk_41_method_11_code 3 (some .int) ({ frames := 0, cells := 0, slots := 0, locals := 0 } : Room) #[(.int (0 : Int32)), (.int (2 : Int32)), (.ref fb)] h [] (fun v h' => v = some (.int (0 : Int32)) ∧ h' = h) := by
  have hw := X.hw
  obtain ⟨z1, hz1, hz2⟩ := X.2.2.1
  refine Ctr.intro (a0 := a0) (plainFor_of_name pn2) hO X.ew ?_
  intro p e s m below meth c T0 V0 S0 hby hml hret hnm hsf
  rw [ef9]
  refine s_iloadN S0 (hb hby dPK20r_0) rfl (pc' := 1) rfl ?_
  refine s_ifN S0 (hb hby dPK20r_1) (by decide) (pc' := 4) rfl ?_
  refine s_iloadN S0 (hb hby dPK20r_4) rfl (pc' := 5) rfl ?_
  refine s_iloadN S0 (hb hby dPK20r_5) rfl (pc' := 6) rfl ?_
  refine s_icmpY S0 (hb hby dPK20r_6) (by decide) (by decide) (pcT := 16) (by decide) ?_
  refine s_iloadN S0 (hb hby dPK20r_16) rfl (pc' := 17) rfl ?_
  exact g_iret S0 (hb hby dPK20r_17) hret ⟨rfl, rfl⟩
theorem dPK20n_0 : decode jdk_41_method_11_code 0 = .ok (.iload_n 0, 1) := by decide +kernel
theorem dPK20n_1 : decode jdk_41_method_11_code 1 = .ok (.ifCond .lt 8, 3) := by decide +kernel
theorem dPK20n_4 : decode jdk_41_method_11_code 4 = .ok (.iload_n 0, 1) := by decide +kernel
theorem dPK20n_5 : decode jdk_41_method_11_code 5 = .ok (.iload_n 1, 1) := by decide +kernel
theorem dPK20n_6 : decode jdk_41_method_11_code 6 = .ok (.if_icmp .lt 10, 3) := by decide +kernel
theorem dPK20n_16 : decode jdk_41_method_11_code 16 = .ok (.iload_n 0, 1) := by decide +kernel
theorem dPK20n_17 : decode jdk_41_method_11_code 17 = .ok (.ireturn, 1) := by decide +kernel
set_option maxRecDepth 65536 in
set_option maxHeartbeats 40000000 in
theorem rmPK20n {l : Launch} {Z : State} {a0 : Array Value} {n0 : Nat} (X : Ctx Z a0)  {h : Heap} (hO : Old Z n0 h)  :
    Ctr l Z EL1 n0 (⟨"jdk/internal/util/Preconditions", "checkIndex", "(IILjava/util/function/BiFunction;)I"⟩ : MethodName) jdk_41_method_11_code 3 (some .int) ({ frames := 0, cells := 0, slots := 0, locals := 0 } : Room) #[(.int (0 : Int32)), (.int (2 : Int32)), .null] h [] (fun v h' => v = some (.int (0 : Int32)) ∧ h' = h) := by
  have hw := X.hw
  obtain ⟨z1, hz1, hz2⟩ := X.2.2.1
  refine Ctr.intro (a0 := a0) (plainFor_of_name pn2) hO X.ew ?_
  intro p e s m below meth c T0 V0 S0 hby hml hret hnm hsf
  rw [ef10]
  refine s_iloadN S0 (hb hby dPK20n_0) rfl (pc' := 1) rfl ?_
  refine s_ifN S0 (hb hby dPK20n_1) (by decide) (pc' := 4) rfl ?_
  refine s_iloadN S0 (hb hby dPK20n_4) rfl (pc' := 5) rfl ?_
  refine s_iloadN S0 (hb hby dPK20n_5) rfl (pc' := 6) rfl ?_
  refine s_icmpY S0 (hb hby dPK20n_6) (by decide) (by decide) (pcT := 16) (by decide) ?_
  refine s_iloadN S0 (hb hby dPK20n_16) rfl (pc' := 17) rfl ?_
  exact g_iret S0 (hb hby dPK20n_17) hret ⟨rfl, rfl⟩
theorem dSK20_0 : decode jdk_42_method_155_code 0 = .ok (.iload_n 0, 1) := by decide +kernel
theorem dSK20_1 : decode jdk_42_method_155_code 1 = .ok (.iload_n 1, 1) := by decide +kernel
theorem dSK20_2 : decode jdk_42_method_155_code 2 = .ok (.getstatic 1053, 3) := by decide +kernel
theorem dSK20_5 : decode jdk_42_method_155_code 5 = .ok (.invokestatic 1059, 3) := by decide +kernel
theorem dSK20_8 : decode jdk_42_method_155_code 8 = .ok (.pop, 1) := by decide +kernel
theorem dSK20_9 : decode jdk_42_method_155_code 9 = .ok (.return_, 1) := by decide +kernel
set_option maxRecDepth 65536 in
set_option maxHeartbeats 40000000 in
theorem rmSK20 {l : Launch} {Z : State} {a0 : Array Value} {n0 : Nat} (X : Ctx Z a0)  {h : Heap} (hO : Old Z n0 h)  :
    Ctr l Z EL1 n0 (⟨"java/lang/String", "checkIndex", "(II)V"⟩ : MethodName) jdk_42_method_155_code 2 none ({ frames := 1, cells := 0, slots := 0, locals := 14 } : Room) #[(.int (0 : Int32)), (.int (2 : Int32))] h [] (fun v h' => v = none ∧ h' = h) := by
  have hw := X.hw
  obtain ⟨z1, hz1, hz2⟩ := X.2.2.1
  refine Ctr.intro (a0 := a0) (plainFor_of_name pn1) hO X.ew ?_
  intro p e s m below meth c T0 V0 S0 hby hml hret hnm hsf
  rw [ef11]
  obtain ⟨fm, hfm, rfm⟩ := X.fm
  rcases ref_cases rfm with rfl | ⟨fb, rfl⟩
  · skip
    refine s_iloadN S0 (hb hby dSK20_0) rfl (pc' := 1) rfl ?_
    refine s_iloadN S0 (hb hby dSK20_1) rfl (pc' := 2) rfl ?_
    refine g_getS S0 (w82 hw) Via.refl (hfm.ext S0.old.2) (hb hby dSK20_2) ?_
    intro T294 ST294
    show Go p e below _ (T294.setTop (mkF m 5 #[.val (.int (0 : Int32)), .val (.int (2 : Int32))] [.null, (.int (2 : Int32)), (.int (0 : Int32))]))
    show Go p e below _ (T294.setTop (mkF m 5 #[.val (.int (0 : Int32)), .val (.int (2 : Int32))] [.null, (.int (2 : Int32)), (.int (0 : Int32))]))
    refine g_static ST294 (rmPK20n X ST294.old) (fun _ q => nomatch q) (w84 hw) (w85 hw) (w83 hw) (w86 hw) (by decide) (hb hby dSK20_5) (by rw [hml]; rfl) [(.int (0 : Int32)), (.int (2 : Int32)), .null] (lenOf pd8 rfl) rfl rfl (Nat.le_of_ble_eq_true rfl) (Nat.le_of_ble_eq_true rfl) (Nat.le_of_ble_eq_true rfl) (Nat.le_of_ble_eq_true rfl) ?_
    intro v295 T295 V295 h295 S295 C295 q295
    obtain ⟨rfl, rfl⟩ := q295
    show Go p e below _ (T295.setTop (mkF m 8 #[.val (.int (0 : Int32)), .val (.int (2 : Int32))] [(.int (0 : Int32))]))
    refine s_pop S295 (hb hby dSK20_8) rfl (pc' := 9) rfl ?_
    exact g_ret S295 (hb hby dSK20_9) hret ⟨rfl, rfl⟩
  · skip
    refine s_iloadN S0 (hb hby dSK20_0) rfl (pc' := 1) rfl ?_
    refine s_iloadN S0 (hb hby dSK20_1) rfl (pc' := 2) rfl ?_
    refine g_getS S0 (w82 hw) Via.refl (hfm.ext S0.old.2) (hb hby dSK20_2) ?_
    intro T296 ST296
    show Go p e below _ (T296.setTop (mkF m 5 #[.val (.int (0 : Int32)), .val (.int (2 : Int32))] [(.ref fb), (.int (2 : Int32)), (.int (0 : Int32))]))
    show Go p e below _ (T296.setTop (mkF m 5 #[.val (.int (0 : Int32)), .val (.int (2 : Int32))] [(.ref fb), (.int (2 : Int32)), (.int (0 : Int32))]))
    refine g_static ST296 (rmPK20r X fb ST296.old) (fun _ q => nomatch q) (w84 hw) (w85 hw) (w83 hw) (w86 hw) (by decide) (hb hby dSK20_5) (by rw [hml]; rfl) [(.int (0 : Int32)), (.int (2 : Int32)), (.ref fb)] (lenOf pd8 rfl) rfl rfl (Nat.le_of_ble_eq_true rfl) (Nat.le_of_ble_eq_true rfl) (Nat.le_of_ble_eq_true rfl) (Nat.le_of_ble_eq_true rfl) ?_
    intro v297 T297 V297 h297 S297 C297 q297
    obtain ⟨rfl, rfl⟩ := q297
    show Go p e below _ (T297.setTop (mkF m 8 #[.val (.int (0 : Int32)), .val (.int (2 : Int32))] [(.int (0 : Int32))]))
    refine s_pop S297 (hb hby dSK20_8) rfl (pc' := 9) rfl ?_
    exact g_ret S297 (hb hby dSK20_9) hret ⟨rfl, rfl⟩
theorem dUK20_0 : decode jdk_52_method_91_code 0 = .ok (.iload_n 0, 1) := by decide +kernel
theorem dUK20_1 : decode jdk_52_method_91_code 1 = .ok (.aload_n 1, 1) := by decide +kernel
theorem dUK20_2 : decode jdk_52_method_91_code 2 = .ok (.invokestatic 48, 3) := by decide +kernel
theorem dUK20_5 : decode jdk_52_method_91_code 5 = .ok (.invokestatic 414, 3) := by decide +kernel
theorem dUK20_8 : decode jdk_52_method_91_code 8 = .ok (.return_, 1) := by decide +kernel
set_option maxRecDepth 65536 in
set_option maxHeartbeats 40000000 in
theorem rmUK20 {l : Launch} {Z : State} {a0 : Array Value} {n0 : Nat} (X : Ctx Z a0) {u : Addr} {ku : ClassId} {c0 c1 : Int32} {h : Heap} (hO : Old Z n0 h) (Vu : Arv Z h u ku .byte (4 : Int32) [(.int (StrChars.lo8 c0)), (.int (StrChars.hi8 c0)), (.int (StrChars.lo8 c1)), (.int (StrChars.hi8 c1))] (.int (0 : Int32))) :
    Ctr l Z EL1 n0 (⟨"java/lang/StringUTF16", "checkIndex", "(I[B)V"⟩ : MethodName) jdk_52_method_91_code 2 none ({ frames := 2, cells := 0, slots := 0, locals := 28 } : Room) #[(.int (0 : Int32)), (.ref u)] h [] (fun v h' => v = none ∧ h' = h) := by
  have hw := X.hw
  obtain ⟨z1, hz1, hz2⟩ := X.2.2.1
  refine Ctr.intro (a0 := a0) (plainFor_of_name pn0) hO X.ew ?_
  intro p e s m below meth c T0 V0 S0 hby hml hret hnm hsf
  rw [ef12]
  refine s_iloadN S0 (hb hby dUK20_0) rfl (pc' := 1) rfl ?_
  refine s_aloadN S0 (hb hby dUK20_1) rfl rfl (pc' := 2) rfl ?_
  show Go p e below _ (T0.setTop (mkF m 2 #[.val (.int (0 : Int32)), .val (.ref u)] [(.ref u), (.int (0 : Int32))]))
  refine g_static S0 (rmUL2 X S0.old Vu) (fun _ q => nomatch q) (w116 hw) (w117 hw) (w57 hw) (w118 hw) (by decide) (hb hby dUK20_2) (by rw [hml]; rfl) [(.ref u)] (lenOf pd9 rfl) rfl rfl (Nat.le_of_ble_eq_true rfl) (Nat.le_of_ble_eq_true rfl) (Nat.le_of_ble_eq_true rfl) (Nat.le_of_ble_eq_true rfl) ?_
  intro v298 T298 V298 h298 S298 C298 q298
  obtain ⟨rfl, rfl⟩ := q298
  show Go p e below _ (T298.setTop (mkF m 5 #[.val (.int (0 : Int32)), .val (.ref u)] [(.int (2 : Int32)), (.int (0 : Int32))]))
  show Go p e below _ (T298.setTop (mkF m 5 #[.val (.int (0 : Int32)), .val (.ref u)] [(.int (2 : Int32)), (.int (0 : Int32))]))
  refine g_static S298 (rmSK20 X S298.old) (fun _ q => nomatch q) (w119 hw) (w80 hw) (w12 hw) (w81 hw) (by decide) (hb hby dUK20_5) (by rw [hml]; rfl) [(.int (0 : Int32)), (.int (2 : Int32))] (lenOf pd10 rfl) rfl rfl (Nat.le_of_ble_eq_true rfl) (Nat.le_of_ble_eq_true rfl) (Nat.le_of_ble_eq_true rfl) (Nat.le_of_ble_eq_true rfl) ?_
  intro v299 T299 V299 h299 S299 C299 q299
  obtain ⟨rfl, rfl⟩ := q299
  show Go p e below _ (T299.setTop (mkF m 8 #[.val (.int (0 : Int32)), .val (.ref u)] []))
  exact g_ret S299 (hb hby dUK20_8) hret ⟨rfl, rfl⟩
theorem dUC20_0 : decode jdk_52_method_83_code 0 = .ok (.iload_n 1, 1) := by decide +kernel
theorem dUC20_1 : decode jdk_52_method_83_code 1 = .ok (.aload_n 0, 1) := by decide +kernel
theorem dUC20_2 : decode jdk_52_method_83_code 2 = .ok (.invokestatic 67, 3) := by decide +kernel
theorem dUC20_5 : decode jdk_52_method_83_code 5 = .ok (.aload_n 0, 1) := by decide +kernel
theorem dUC20_6 : decode jdk_52_method_83_code 6 = .ok (.iload_n 1, 1) := by decide +kernel
theorem dUC20_7 : decode jdk_52_method_83_code 7 = .ok (.invokestatic 71, 3) := by decide +kernel
theorem dUC20_10 : decode jdk_52_method_83_code 10 = .ok (.ireturn, 1) := by decide +kernel
set_option maxRecDepth 65536 in
set_option maxHeartbeats 40000000 in
theorem rmUC20 {l : Launch} {Z : State} {a0 : Array Value} {n0 : Nat} (X : Ctx Z a0) {u : Addr} {ku : ClassId} {c0 c1 : Int32} {h : Heap} (hO : Old Z n0 h) (Vu : Arv Z h u ku .byte (4 : Int32) [(.int (StrChars.lo8 c0)), (.int (StrChars.hi8 c0)), (.int (StrChars.lo8 c1)), (.int (StrChars.hi8 c1))] (.int (0 : Int32))) (r : ¬ c0 < 0 ∧ ¬ (65535 : Int32) < c0) :
    Ctr l Z EL1 n0 (⟨"java/lang/StringUTF16", "charAt", "([BI)C"⟩ : MethodName) jdk_52_method_83_code 2 (some .char) ({ frames := 3, cells := 0, slots := 0, locals := 41 } : Room) #[(.ref u), (.int (0 : Int32))] h [] (fun v h' => v = some (.int c0) ∧ h' = h) := by
  have hw := X.hw
  obtain ⟨z1, hz1, hz2⟩ := X.2.2.1
  refine Ctr.intro (a0 := a0) (plainFor_of_name pn0) hO X.ew ?_
  intro p e s m below meth c T0 V0 S0 hby hml hret hnm hsf
  rw [ef1]
  refine s_iloadN S0 (hb hby dUC20_0) rfl (pc' := 1) rfl ?_
  refine s_aloadN S0 (hb hby dUC20_1) rfl rfl (pc' := 2) rfl ?_
  show Go p e below _ (T0.setTop (mkF m 2 #[.val (.ref u), .val (.int (0 : Int32))] [(.ref u), (.int (0 : Int32))]))
  refine g_static S0 (rmUK20 X S0.old Vu) (fun _ q => nomatch q) (w113 hw) (w114 hw) (w57 hw) (w115 hw) (by decide) (hb hby dUC20_2) (by rw [hml]; rfl) [(.int (0 : Int32)), (.ref u)] (lenOf pd11 rfl) rfl rfl (Nat.le_of_ble_eq_true rfl) (Nat.le_of_ble_eq_true rfl) (Nat.le_of_ble_eq_true rfl) (Nat.le_of_ble_eq_true rfl) ?_
  intro v300 T300 V300 h300 S300 C300 q300
  obtain ⟨rfl, rfl⟩ := q300
  show Go p e below _ (T300.setTop (mkF m 5 #[.val (.ref u), .val (.int (0 : Int32))] []))
  refine s_aloadN S300 (hb hby dUC20_5) rfl rfl (pc' := 6) rfl ?_
  refine s_iloadN S300 (hb hby dUC20_6) rfl (pc' := 7) rfl ?_
  show Go p e below _ (T300.setTop (mkF m 7 #[.val (.ref u), .val (.int (0 : Int32))] [(.int (0 : Int32)), (.ref u)]))
  refine g_static S300 (rmGC20 X S300.old Vu r) (fun _ q => nomatch q) (w107 hw) (w108 hw) (w57 hw) (w109 hw) (by decide) (hb hby dUC20_7) (by rw [hml]; rfl) [(.ref u), (.int (0 : Int32))] (lenOf pd5 rfl) rfl rfl (Nat.le_of_ble_eq_true rfl) (Nat.le_of_ble_eq_true rfl) (Nat.le_of_ble_eq_true rfl) (Nat.le_of_ble_eq_true rfl) ?_
  intro v301 T301 V301 h301 S301 C301 q301
  obtain ⟨rfl, rfl⟩ := q301
  show Go p e below _ (T301.setTop (mkF m 10 #[.val (.ref u), .val (.int (0 : Int32))] [(.int c0)]))
  exact g_iretN S301 (hb hby dUC20_10) hret (by simp) ⟨by rw [narC r], rfl⟩
theorem dCA20_0 : decode jdk_42_method_56_code 0 = .ok (.aload_n 0, 1) := by decide +kernel
theorem dCA20_1 : decode jdk_42_method_56_code 1 = .ok (.invokevirtual 492, 3) := by decide +kernel
theorem dCA20_4 : decode jdk_42_method_56_code 4 = .ok (.ifCond .eq 12, 3) := by decide +kernel
theorem dCA20_16 : decode jdk_42_method_56_code 16 = .ok (.aload_n 0, 1) := by decide +kernel
theorem dCA20_17 : decode jdk_42_method_56_code 17 = .ok (.getfield 9, 3) := by decide +kernel
theorem dCA20_20 : decode jdk_42_method_56_code 20 = .ok (.iload_n 1, 1) := by decide +kernel
theorem dCA20_21 : decode jdk_42_method_56_code 21 = .ok (.invokestatic 498, 3) := by decide +kernel
theorem dCA20_24 : decode jdk_42_method_56_code 24 = .ok (.ireturn, 1) := by decide +kernel
set_option maxRecDepth 65536 in
set_option maxHeartbeats 40000000 in
theorem rmCA20 {l : Launch} {Z : State} {a0 : Array Value} {n0 : Nat} (X : Ctx Z a0) {x : Addr} {c0 c1 : Int32} {h : Heap} (hO : Old Z n0 h) (F : StrF Z h x [c0, c1]) (hwd : (255 : Int32) < c0 ∨ (255 : Int32) < c1) :
    Ctr l Z EL1 n0 (⟨"java/lang/String", "charAt", "(I)C"⟩ : MethodName) jdk_42_method_56_code 2 (some .char) ({ frames := 4, cells := 0, slots := 0, locals := 54 } : Room) #[(.ref x), (.int (0 : Int32))] h [] (fun v h' => v = some (.int c0) ∧ h' = h) := by
  have hw := X.hw
  obtain ⟨z1, hz1, hz2⟩ := X.2.2.1
  refine Ctr.intro (a0 := a0) (plainFor_of_name pn1) hO X.ew ?_
  intro p e s m below meth c T0 V0 S0 hby hml hret hnm hsf
  rw [ef1]
  obtain ⟨u, ku, cd, N2, vs, f1, f2, f3, f4, f5, f6, f7⟩ := F
  rcases f5 with ⟨-, -, -, f5⟩ | ⟨rfl, rfl, rfl, -⟩
  · obtain ⟨cc, hcc, hb_⟩ := own_ex2 hwd; exact absurd hb_ (f5 cc hcc)
  have Vu : Arv Z h u ku .byte (4 : Int32) [(.int (StrChars.lo8 c0)), (.int (StrChars.hi8 c0)), (.int (StrChars.lo8 c1)), (.int (StrChars.hi8 c1))] (.int (0 : Int32)) := f4
  show Go p e below _ (T0.setTop (mkF m 0 #[.val (.ref x), .val (.int (0 : Int32))] []))
  refine s_aloadN S0 (hb hby dCA20_0) rfl rfl (pc' := 1) rfl ?_
  show Go p e below _ (T0.setTop (mkF m 1 #[.val (.ref x), .val (.int (0 : Int32))] [(.ref x)]))
  refine g_virtual S0 (rmIS X S0.old f3) (fun _ q => nomatch q) (w70 hw) (w71 hw) (w73 hw) (w72 hw) (w12 hw) (w74 hw) (by decide) (fun _ h => notFace_of_selects h) (hb hby dCA20_1) (by rw [hml]; rfl) x f1 [] (lenOf pd12 rfl) rfl rfl (Nat.le_of_ble_eq_true rfl) (Nat.le_of_ble_eq_true rfl) (Nat.le_of_ble_eq_true rfl) (Nat.le_of_ble_eq_true rfl) ?_
  intro v302 T302 V302 h302 S302 C302 q302
  obtain ⟨rfl, rfl⟩ := q302
  show Go p e below _ (T302.setTop (mkF m 4 #[.val (.ref x), .val (.int (0 : Int32))] [(.int (0 : Int32))]))
  refine s_ifY S302 (hb hby dCA20_4) (by decide) (by decide) (pcT := 16) (by decide) ?_
  refine s_aloadN S302 (hb hby dCA20_16) rfl rfl (pc' := 17) rfl ?_
  refine g_getF S302 (w29 hw) Via.refl f2 (hb hby dCA20_17) ?_
  intro T303 ST303
  show Go p e below _ (T303.setTop (mkF m 20 #[.val (.ref x), .val (.int (0 : Int32))] [(.ref u)]))
  refine s_iloadN ST303 (hb hby dCA20_20) rfl (pc' := 21) rfl ?_
  show Go p e below _ (T303.setTop (mkF m 21 #[.val (.ref x), .val (.int (0 : Int32))] [(.int (0 : Int32)), (.ref u)]))
  refine g_static ST303 (rmUC20 X ST303.old Vu (f6 c0 (by simp))) (fun _ q => nomatch q) (w110 hw) (w111 hw) (w57 hw) (w112 hw) (by decide) (hb hby dCA20_21) (by rw [hml]; rfl) [(.ref u), (.int (0 : Int32))] (lenOf pd5 rfl) rfl rfl (Nat.le_of_ble_eq_true rfl) (Nat.le_of_ble_eq_true rfl) (Nat.le_of_ble_eq_true rfl) (Nat.le_of_ble_eq_true rfl) ?_
  intro v304 T304 V304 h304 S304 C304 q304
  obtain ⟨rfl, rfl⟩ := q304
  show Go p e below _ (T304.setTop (mkF m 24 #[.val (.ref x), .val (.int (0 : Int32))] [(.int c0)]))
  exact g_iretN S304 (hb hby dCA20_24) hret (by simp) ⟨by rw [narC (f6 c0 (by simp))], rfl⟩
theorem dKO0_0 : decode method_2_code 0 = .ok (.iload_n 0, 1) := by decide +kernel
theorem dKO0_1 : decode method_2_code 1 = .ok (.ifCond .ne 7, 3) := by decide +kernel
theorem dKO0_4 : decode method_2_code 4 = .ok (.getstatic 7, 3) := by decide +kernel
theorem dKO0_7 : decode method_2_code 7 = .ok (.areturn, 1) := by decide +kernel
set_option maxRecDepth 65536 in
set_option maxHeartbeats 40000000 in
theorem rmKO0 {l : Launch} {Z : State} {a0 : Array Value} {n0 : Nat} (X : Ctx Z a0) {kk : Addr} {h : Heap} (hO : Old Z n0 h) (hk : Sta Z Z.heap "com/example/converge_to_schema/convergetoschema/schema/Token$Kind" "WORD" "Lcom/example/converge_to_schema/convergetoschema/schema/Token$Kind;" (.ref kk)) :
    Ctr l Z EL1 n0 (⟨"com/example/converge_to_schema/convergetoschema/schema/TokenIsSymbolPinLaw", "kindOf", "(I)Lcom/example/converge_to_schema/convergetoschema/schema/Token$Kind;"⟩ : MethodName) method_2_code 1 (some (.object "com/example/converge_to_schema/convergetoschema/schema/Token$Kind")) ({ frames := 0, cells := 0, slots := 0, locals := 0 } : Room) #[(.int (0 : Int32))] h [] (fun v h' => v = some (.ref kk) ∧ h' = h) := by
  have hw := X.hw
  obtain ⟨z1, hz1, hz2⟩ := X.2.2.1
  refine Ctr.intro (a0 := a0) (plainFor_of_name pn3) hO X.ew ?_
  intro p e s m below meth c T0 V0 S0 hby hml hret hnm hsf
  rw [ef3]
  refine s_iloadN S0 (hb hby dKO0_0) rfl (pc' := 1) rfl ?_
  refine s_ifN S0 (hb hby dKO0_1) (by decide) (pc' := 4) rfl ?_
  refine g_getS S0 (w5 hw) Via.refl (hk.ext S0.old.2) (hb hby dKO0_4) ?_
  intro T311 ST311
  show Go p e below _ (T311.setTop (mkF m 7 #[.val (.int (0 : Int32))] [(.ref kk)]))
  exact g_aret ST311 (hb hby dKO0_7) hret rfl rfl rfl ⟨rfl, rfl⟩
theorem dKO1_0 : decode method_2_code 0 = .ok (.iload_n 0, 1) := by decide +kernel
theorem dKO1_1 : decode method_2_code 1 = .ok (.ifCond .ne 7, 3) := by decide +kernel
theorem dKO1_8 : decode method_2_code 8 = .ok (.iload_n 0, 1) := by decide +kernel
theorem dKO1_9 : decode method_2_code 9 = .ok (.iconst 1, 1) := by decide +kernel
theorem dKO1_10 : decode method_2_code 10 = .ok (.if_icmp .ne 7, 3) := by decide +kernel
theorem dKO1_13 : decode method_2_code 13 = .ok (.getstatic 13, 3) := by decide +kernel
theorem dKO1_16 : decode method_2_code 16 = .ok (.areturn, 1) := by decide +kernel
set_option maxRecDepth 65536 in
set_option maxHeartbeats 40000000 in
theorem rmKO1 {l : Launch} {Z : State} {a0 : Array Value} {n0 : Nat} (X : Ctx Z a0) {kk : Addr} {h : Heap} (hO : Old Z n0 h) (hk : Sta Z Z.heap "com/example/converge_to_schema/convergetoschema/schema/Token$Kind" "NUMBER" "Lcom/example/converge_to_schema/convergetoschema/schema/Token$Kind;" (.ref kk)) :
    Ctr l Z EL1 n0 (⟨"com/example/converge_to_schema/convergetoschema/schema/TokenIsSymbolPinLaw", "kindOf", "(I)Lcom/example/converge_to_schema/convergetoschema/schema/Token$Kind;"⟩ : MethodName) method_2_code 1 (some (.object "com/example/converge_to_schema/convergetoschema/schema/Token$Kind")) ({ frames := 0, cells := 0, slots := 0, locals := 0 } : Room) #[(.int (1 : Int32))] h [] (fun v h' => v = some (.ref kk) ∧ h' = h) := by
  have hw := X.hw
  obtain ⟨z1, hz1, hz2⟩ := X.2.2.1
  refine Ctr.intro (a0 := a0) (plainFor_of_name pn3) hO X.ew ?_
  intro p e s m below meth c T0 V0 S0 hby hml hret hnm hsf
  rw [ef3]
  refine s_iloadN S0 (hb hby dKO1_0) rfl (pc' := 1) rfl ?_
  refine s_ifY S0 (hb hby dKO1_1) (by decide) (by decide) (pcT := 8) (by decide) ?_
  refine s_iloadN S0 (hb hby dKO1_8) rfl (pc' := 9) rfl ?_
  refine s_iconst S0 (hb hby dKO1_9) (v := (1 : Int32)) rfl (pc' := 10) rfl ?_
  refine s_icmpN S0 (hb hby dKO1_10) (by decide) (pc' := 13) rfl ?_
  refine g_getS S0 (w120 hw) Via.refl (hk.ext S0.old.2) (hb hby dKO1_13) ?_
  intro T312 ST312
  show Go p e below _ (T312.setTop (mkF m 16 #[.val (.int (1 : Int32))] [(.ref kk)]))
  exact g_aret ST312 (hb hby dKO1_16) hret rfl rfl rfl ⟨rfl, rfl⟩
theorem dKO2_0 : decode method_2_code 0 = .ok (.iload_n 0, 1) := by decide +kernel
theorem dKO2_1 : decode method_2_code 1 = .ok (.ifCond .ne 7, 3) := by decide +kernel
theorem dKO2_8 : decode method_2_code 8 = .ok (.iload_n 0, 1) := by decide +kernel
theorem dKO2_9 : decode method_2_code 9 = .ok (.iconst 1, 1) := by decide +kernel
theorem dKO2_10 : decode method_2_code 10 = .ok (.if_icmp .ne 7, 3) := by decide +kernel
theorem dKO2_17 : decode method_2_code 17 = .ok (.iload_n 0, 1) := by decide +kernel
theorem dKO2_18 : decode method_2_code 18 = .ok (.iconst 2, 1) := by decide +kernel
theorem dKO2_19 : decode method_2_code 19 = .ok (.if_icmp .ne 7, 3) := by decide +kernel
theorem dKO2_22 : decode method_2_code 22 = .ok (.getstatic 16, 3) := by decide +kernel
theorem dKO2_25 : decode method_2_code 25 = .ok (.areturn, 1) := by decide +kernel
set_option maxRecDepth 65536 in
set_option maxHeartbeats 40000000 in
theorem rmKO2 {l : Launch} {Z : State} {a0 : Array Value} {n0 : Nat} (X : Ctx Z a0) {kk : Addr} {h : Heap} (hO : Old Z n0 h) (hk : Sta Z Z.heap "com/example/converge_to_schema/convergetoschema/schema/Token$Kind" "STRING" "Lcom/example/converge_to_schema/convergetoschema/schema/Token$Kind;" (.ref kk)) :
    Ctr l Z EL1 n0 (⟨"com/example/converge_to_schema/convergetoschema/schema/TokenIsSymbolPinLaw", "kindOf", "(I)Lcom/example/converge_to_schema/convergetoschema/schema/Token$Kind;"⟩ : MethodName) method_2_code 1 (some (.object "com/example/converge_to_schema/convergetoschema/schema/Token$Kind")) ({ frames := 0, cells := 0, slots := 0, locals := 0 } : Room) #[(.int (2 : Int32))] h [] (fun v h' => v = some (.ref kk) ∧ h' = h) := by
  have hw := X.hw
  obtain ⟨z1, hz1, hz2⟩ := X.2.2.1
  refine Ctr.intro (a0 := a0) (plainFor_of_name pn3) hO X.ew ?_
  intro p e s m below meth c T0 V0 S0 hby hml hret hnm hsf
  rw [ef3]
  refine s_iloadN S0 (hb hby dKO2_0) rfl (pc' := 1) rfl ?_
  refine s_ifY S0 (hb hby dKO2_1) (by decide) (by decide) (pcT := 8) (by decide) ?_
  refine s_iloadN S0 (hb hby dKO2_8) rfl (pc' := 9) rfl ?_
  refine s_iconst S0 (hb hby dKO2_9) (v := (1 : Int32)) rfl (pc' := 10) rfl ?_
  refine s_icmpY S0 (hb hby dKO2_10) (by decide) (by decide) (pcT := 17) (by decide) ?_
  refine s_iloadN S0 (hb hby dKO2_17) rfl (pc' := 18) rfl ?_
  refine s_iconst S0 (hb hby dKO2_18) (v := (2 : Int32)) rfl (pc' := 19) rfl ?_
  refine s_icmpN S0 (hb hby dKO2_19) (by decide) (pc' := 22) rfl ?_
  refine g_getS S0 (w87 hw) Via.refl (hk.ext S0.old.2) (hb hby dKO2_22) ?_
  intro T313 ST313
  show Go p e below _ (T313.setTop (mkF m 25 #[.val (.int (2 : Int32))] [(.ref kk)]))
  exact g_aret ST313 (hb hby dKO2_25) hret rfl rfl rfl ⟨rfl, rfl⟩
theorem dKO3_0 : decode method_2_code 0 = .ok (.iload_n 0, 1) := by decide +kernel
theorem dKO3_1 : decode method_2_code 1 = .ok (.ifCond .ne 7, 3) := by decide +kernel
theorem dKO3_8 : decode method_2_code 8 = .ok (.iload_n 0, 1) := by decide +kernel
theorem dKO3_9 : decode method_2_code 9 = .ok (.iconst 1, 1) := by decide +kernel
theorem dKO3_10 : decode method_2_code 10 = .ok (.if_icmp .ne 7, 3) := by decide +kernel
theorem dKO3_17 : decode method_2_code 17 = .ok (.iload_n 0, 1) := by decide +kernel
theorem dKO3_18 : decode method_2_code 18 = .ok (.iconst 2, 1) := by decide +kernel
theorem dKO3_19 : decode method_2_code 19 = .ok (.if_icmp .ne 7, 3) := by decide +kernel
theorem dKO3_26 : decode method_2_code 26 = .ok (.iload_n 0, 1) := by decide +kernel
theorem dKO3_27 : decode method_2_code 27 = .ok (.iconst 3, 1) := by decide +kernel
theorem dKO3_28 : decode method_2_code 28 = .ok (.if_icmp .ne 7, 3) := by decide +kernel
theorem dKO3_31 : decode method_2_code 31 = .ok (.getstatic 19, 3) := by decide +kernel
theorem dKO3_34 : decode method_2_code 34 = .ok (.areturn, 1) := by decide +kernel
set_option maxRecDepth 65536 in
set_option maxHeartbeats 40000000 in
theorem rmKO3 {l : Launch} {Z : State} {a0 : Array Value} {n0 : Nat} (X : Ctx Z a0) {kk : Addr} {h : Heap} (hO : Old Z n0 h) (hk : Sta Z Z.heap "com/example/converge_to_schema/convergetoschema/schema/Token$Kind" "SYMBOL" "Lcom/example/converge_to_schema/convergetoschema/schema/Token$Kind;" (.ref kk)) :
    Ctr l Z EL1 n0 (⟨"com/example/converge_to_schema/convergetoschema/schema/TokenIsSymbolPinLaw", "kindOf", "(I)Lcom/example/converge_to_schema/convergetoschema/schema/Token$Kind;"⟩ : MethodName) method_2_code 1 (some (.object "com/example/converge_to_schema/convergetoschema/schema/Token$Kind")) ({ frames := 0, cells := 0, slots := 0, locals := 0 } : Room) #[(.int (3 : Int32))] h [] (fun v h' => v = some (.ref kk) ∧ h' = h) := by
  have hw := X.hw
  obtain ⟨z1, hz1, hz2⟩ := X.2.2.1
  refine Ctr.intro (a0 := a0) (plainFor_of_name pn3) hO X.ew ?_
  intro p e s m below meth c T0 V0 S0 hby hml hret hnm hsf
  rw [ef3]
  refine s_iloadN S0 (hb hby dKO3_0) rfl (pc' := 1) rfl ?_
  refine s_ifY S0 (hb hby dKO3_1) (by decide) (by decide) (pcT := 8) (by decide) ?_
  refine s_iloadN S0 (hb hby dKO3_8) rfl (pc' := 9) rfl ?_
  refine s_iconst S0 (hb hby dKO3_9) (v := (1 : Int32)) rfl (pc' := 10) rfl ?_
  refine s_icmpY S0 (hb hby dKO3_10) (by decide) (by decide) (pcT := 17) (by decide) ?_
  refine s_iloadN S0 (hb hby dKO3_17) rfl (pc' := 18) rfl ?_
  refine s_iconst S0 (hb hby dKO3_18) (v := (2 : Int32)) rfl (pc' := 19) rfl ?_
  refine s_icmpY S0 (hb hby dKO3_19) (by decide) (by decide) (pcT := 26) (by decide) ?_
  refine s_iloadN S0 (hb hby dKO3_26) rfl (pc' := 27) rfl ?_
  refine s_iconst S0 (hb hby dKO3_27) (v := (3 : Int32)) rfl (pc' := 28) rfl ?_
  refine s_icmpN S0 (hb hby dKO3_28) (by decide) (pc' := 31) rfl ?_
  refine g_getS S0 (w53 hw) Via.refl (hk.ext S0.old.2) (hb hby dKO3_31) ?_
  intro T314 ST314
  show Go p e below _ (T314.setTop (mkF m 34 #[.val (.int (3 : Int32))] [(.ref kk)]))
  exact g_aret ST314 (hb hby dKO3_34) hret rfl rfl rfl ⟨rfl, rfl⟩
theorem dKO4_0 : decode method_2_code 0 = .ok (.iload_n 0, 1) := by decide +kernel
theorem dKO4_1 : decode method_2_code 1 = .ok (.ifCond .ne 7, 3) := by decide +kernel
theorem dKO4_8 : decode method_2_code 8 = .ok (.iload_n 0, 1) := by decide +kernel
theorem dKO4_9 : decode method_2_code 9 = .ok (.iconst 1, 1) := by decide +kernel
theorem dKO4_10 : decode method_2_code 10 = .ok (.if_icmp .ne 7, 3) := by decide +kernel
theorem dKO4_17 : decode method_2_code 17 = .ok (.iload_n 0, 1) := by decide +kernel
theorem dKO4_18 : decode method_2_code 18 = .ok (.iconst 2, 1) := by decide +kernel
theorem dKO4_19 : decode method_2_code 19 = .ok (.if_icmp .ne 7, 3) := by decide +kernel
theorem dKO4_26 : decode method_2_code 26 = .ok (.iload_n 0, 1) := by decide +kernel
theorem dKO4_27 : decode method_2_code 27 = .ok (.iconst 3, 1) := by decide +kernel
theorem dKO4_28 : decode method_2_code 28 = .ok (.if_icmp .ne 7, 3) := by decide +kernel
theorem dKO4_35 : decode method_2_code 35 = .ok (.iload_n 0, 1) := by decide +kernel
theorem dKO4_36 : decode method_2_code 36 = .ok (.iconst 4, 1) := by decide +kernel
theorem dKO4_37 : decode method_2_code 37 = .ok (.if_icmp .ne 7, 3) := by decide +kernel
theorem dKO4_40 : decode method_2_code 40 = .ok (.getstatic 22, 3) := by decide +kernel
theorem dKO4_43 : decode method_2_code 43 = .ok (.areturn, 1) := by decide +kernel
set_option maxRecDepth 65536 in
set_option maxHeartbeats 40000000 in
theorem rmKO4 {l : Launch} {Z : State} {a0 : Array Value} {n0 : Nat} (X : Ctx Z a0) {kk : Addr} {h : Heap} (hO : Old Z n0 h) (hk : Sta Z Z.heap "com/example/converge_to_schema/convergetoschema/schema/Token$Kind" "DOCUMENTATION" "Lcom/example/converge_to_schema/convergetoschema/schema/Token$Kind;" (.ref kk)) :
    Ctr l Z EL1 n0 (⟨"com/example/converge_to_schema/convergetoschema/schema/TokenIsSymbolPinLaw", "kindOf", "(I)Lcom/example/converge_to_schema/convergetoschema/schema/Token$Kind;"⟩ : MethodName) method_2_code 1 (some (.object "com/example/converge_to_schema/convergetoschema/schema/Token$Kind")) ({ frames := 0, cells := 0, slots := 0, locals := 0 } : Room) #[(.int (4 : Int32))] h [] (fun v h' => v = some (.ref kk) ∧ h' = h) := by
  have hw := X.hw
  obtain ⟨z1, hz1, hz2⟩ := X.2.2.1
  refine Ctr.intro (a0 := a0) (plainFor_of_name pn3) hO X.ew ?_
  intro p e s m below meth c T0 V0 S0 hby hml hret hnm hsf
  rw [ef3]
  refine s_iloadN S0 (hb hby dKO4_0) rfl (pc' := 1) rfl ?_
  refine s_ifY S0 (hb hby dKO4_1) (by decide) (by decide) (pcT := 8) (by decide) ?_
  refine s_iloadN S0 (hb hby dKO4_8) rfl (pc' := 9) rfl ?_
  refine s_iconst S0 (hb hby dKO4_9) (v := (1 : Int32)) rfl (pc' := 10) rfl ?_
  refine s_icmpY S0 (hb hby dKO4_10) (by decide) (by decide) (pcT := 17) (by decide) ?_
  refine s_iloadN S0 (hb hby dKO4_17) rfl (pc' := 18) rfl ?_
  refine s_iconst S0 (hb hby dKO4_18) (v := (2 : Int32)) rfl (pc' := 19) rfl ?_
  refine s_icmpY S0 (hb hby dKO4_19) (by decide) (by decide) (pcT := 26) (by decide) ?_
  refine s_iloadN S0 (hb hby dKO4_26) rfl (pc' := 27) rfl ?_
  refine s_iconst S0 (hb hby dKO4_27) (v := (3 : Int32)) rfl (pc' := 28) rfl ?_
  refine s_icmpY S0 (hb hby dKO4_28) (by decide) (by decide) (pcT := 35) (by decide) ?_
  refine s_iloadN S0 (hb hby dKO4_35) rfl (pc' := 36) rfl ?_
  refine s_iconst S0 (hb hby dKO4_36) (v := (4 : Int32)) rfl (pc' := 37) rfl ?_
  refine s_icmpN S0 (hb hby dKO4_37) (by decide) (pc' := 40) rfl ?_
  refine g_getS S0 (w89 hw) Via.refl (hk.ext S0.old.2) (hb hby dKO4_40) ?_
  intro T315 ST315
  show Go p e below _ (T315.setTop (mkF m 43 #[.val (.int (4 : Int32))] [(.ref kk)]))
  exact g_aret ST315 (hb hby dKO4_43) hret rfl rfl rfl ⟨rfl, rfl⟩
theorem dKO5_0 : decode method_2_code 0 = .ok (.iload_n 0, 1) := by decide +kernel
theorem dKO5_1 : decode method_2_code 1 = .ok (.ifCond .ne 7, 3) := by decide +kernel
theorem dKO5_8 : decode method_2_code 8 = .ok (.iload_n 0, 1) := by decide +kernel
theorem dKO5_9 : decode method_2_code 9 = .ok (.iconst 1, 1) := by decide +kernel
theorem dKO5_10 : decode method_2_code 10 = .ok (.if_icmp .ne 7, 3) := by decide +kernel
theorem dKO5_17 : decode method_2_code 17 = .ok (.iload_n 0, 1) := by decide +kernel
theorem dKO5_18 : decode method_2_code 18 = .ok (.iconst 2, 1) := by decide +kernel
theorem dKO5_19 : decode method_2_code 19 = .ok (.if_icmp .ne 7, 3) := by decide +kernel
theorem dKO5_26 : decode method_2_code 26 = .ok (.iload_n 0, 1) := by decide +kernel
theorem dKO5_27 : decode method_2_code 27 = .ok (.iconst 3, 1) := by decide +kernel
theorem dKO5_28 : decode method_2_code 28 = .ok (.if_icmp .ne 7, 3) := by decide +kernel
theorem dKO5_35 : decode method_2_code 35 = .ok (.iload_n 0, 1) := by decide +kernel
theorem dKO5_36 : decode method_2_code 36 = .ok (.iconst 4, 1) := by decide +kernel
theorem dKO5_37 : decode method_2_code 37 = .ok (.if_icmp .ne 7, 3) := by decide +kernel
theorem dKO5_44 : decode method_2_code 44 = .ok (.getstatic 25, 3) := by decide +kernel
theorem dKO5_47 : decode method_2_code 47 = .ok (.areturn, 1) := by decide +kernel
set_option maxRecDepth 65536 in
set_option maxHeartbeats 40000000 in
theorem rmKO5 {l : Launch} {Z : State} {a0 : Array Value} {n0 : Nat} (X : Ctx Z a0) {kk : Addr} {h : Heap} (hO : Old Z n0 h) (hk : Sta Z Z.heap "com/example/converge_to_schema/convergetoschema/schema/Token$Kind" "END" "Lcom/example/converge_to_schema/convergetoschema/schema/Token$Kind;" (.ref kk)) :
    Ctr l Z EL1 n0 (⟨"com/example/converge_to_schema/convergetoschema/schema/TokenIsSymbolPinLaw", "kindOf", "(I)Lcom/example/converge_to_schema/convergetoschema/schema/Token$Kind;"⟩ : MethodName) method_2_code 1 (some (.object "com/example/converge_to_schema/convergetoschema/schema/Token$Kind")) ({ frames := 0, cells := 0, slots := 0, locals := 0 } : Room) #[(.int (5 : Int32))] h [] (fun v h' => v = some (.ref kk) ∧ h' = h) := by
  have hw := X.hw
  obtain ⟨z1, hz1, hz2⟩ := X.2.2.1
  refine Ctr.intro (a0 := a0) (plainFor_of_name pn3) hO X.ew ?_
  intro p e s m below meth c T0 V0 S0 hby hml hret hnm hsf
  rw [ef3]
  refine s_iloadN S0 (hb hby dKO5_0) rfl (pc' := 1) rfl ?_
  refine s_ifY S0 (hb hby dKO5_1) (by decide) (by decide) (pcT := 8) (by decide) ?_
  refine s_iloadN S0 (hb hby dKO5_8) rfl (pc' := 9) rfl ?_
  refine s_iconst S0 (hb hby dKO5_9) (v := (1 : Int32)) rfl (pc' := 10) rfl ?_
  refine s_icmpY S0 (hb hby dKO5_10) (by decide) (by decide) (pcT := 17) (by decide) ?_
  refine s_iloadN S0 (hb hby dKO5_17) rfl (pc' := 18) rfl ?_
  refine s_iconst S0 (hb hby dKO5_18) (v := (2 : Int32)) rfl (pc' := 19) rfl ?_
  refine s_icmpY S0 (hb hby dKO5_19) (by decide) (by decide) (pcT := 26) (by decide) ?_
  refine s_iloadN S0 (hb hby dKO5_26) rfl (pc' := 27) rfl ?_
  refine s_iconst S0 (hb hby dKO5_27) (v := (3 : Int32)) rfl (pc' := 28) rfl ?_
  refine s_icmpY S0 (hb hby dKO5_28) (by decide) (by decide) (pcT := 35) (by decide) ?_
  refine s_iloadN S0 (hb hby dKO5_35) rfl (pc' := 36) rfl ?_
  refine s_iconst S0 (hb hby dKO5_36) (v := (4 : Int32)) rfl (pc' := 37) rfl ?_
  refine s_icmpY S0 (hb hby dKO5_37) (by decide) (by decide) (pcT := 44) (by decide) ?_
  refine g_getS S0 (w122 hw) Via.refl (hk.ext S0.old.2) (hb hby dKO5_44) ?_
  intro T316 ST316
  show Go p e below _ (T316.setTop (mkF m 47 #[.val (.int (5 : Int32))] [(.ref kk)]))
  exact g_aret ST316 (hb hby dKO5_47) hret rfl rfl rfl ⟨rfl, rfl⟩
theorem dTK_0 : decode prog_68_method_1_code 0 = .ok (.aload_n 0, 1) := by decide +kernel
theorem dTK_1 : decode prog_68_method_1_code 1 = .ok (.invokespecial 1, 3) := by decide +kernel
theorem dTK_4 : decode prog_68_method_1_code 4 = .ok (.aload_n 0, 1) := by decide +kernel
theorem dTK_5 : decode prog_68_method_1_code 5 = .ok (.aload_n 1, 1) := by decide +kernel
theorem dTK_6 : decode prog_68_method_1_code 6 = .ok (.putfield 7, 3) := by decide +kernel
theorem dTK_9 : decode prog_68_method_1_code 9 = .ok (.aload_n 0, 1) := by decide +kernel
theorem dTK_10 : decode prog_68_method_1_code 10 = .ok (.aload_n 2, 1) := by decide +kernel
theorem dTK_11 : decode prog_68_method_1_code 11 = .ok (.putfield 13, 3) := by decide +kernel
theorem dTK_14 : decode prog_68_method_1_code 14 = .ok (.aload_n 0, 1) := by decide +kernel
theorem dTK_15 : decode prog_68_method_1_code 15 = .ok (.iload_n 3, 1) := by decide +kernel
theorem dTK_16 : decode prog_68_method_1_code 16 = .ok (.putfield 17, 3) := by decide +kernel
theorem dTK_19 : decode prog_68_method_1_code 19 = .ok (.aload_n 0, 1) := by decide +kernel
theorem dTK_20 : decode prog_68_method_1_code 20 = .ok (.iload 4, 2) := by decide +kernel
theorem dTK_22 : decode prog_68_method_1_code 22 = .ok (.putfield 21, 3) := by decide +kernel
theorem dTK_25 : decode prog_68_method_1_code 25 = .ok (.return_, 1) := by decide +kernel
set_option maxRecDepth 65536 in
set_option maxHeartbeats 40000000 in
theorem rmTK {l : Launch} {Z : State} {a0 : Array Value} {n0 : Nat} (X : Ctx Z a0) {x kk sa : Addr} {li co : Int32} {o0 o1 o2 o3 : Value} (na : n0 ≤ x) {h : Heap} (hO : Old Z n0 h) (Ex : Exa Z h x "com/example/converge_to_schema/convergetoschema/schema/Token") (F0 : Fld Z h x "com/example/converge_to_schema/convergetoschema/schema/Token" "kind" "Lcom/example/converge_to_schema/convergetoschema/schema/Token$Kind;" o0) (F1 : Fld Z h x "com/example/converge_to_schema/convergetoschema/schema/Token" "text" "Ljava/lang/String;" o1) (F2 : Fld Z h x "com/example/converge_to_schema/convergetoschema/schema/Token" "line" "I" o2) (F3 : Fld Z h x "com/example/converge_to_schema/convergetoschema/schema/Token" "column" "I" o3) :
    Ctr l Z EL1 n0 (⟨"com/example/converge_to_schema/convergetoschema/schema/Token", "<init>", "(Lcom/example/converge_to_schema/convergetoschema/schema/Token$Kind;Ljava/lang/String;II)V"⟩ : MethodName) prog_68_method_1_code 5 none ({ frames := 1, cells := 0, slots := 0, locals := 12 } : Room) #[(.ref x), (.ref kk), (.ref sa), (.int li), (.int co)] h [] (fun v h' => v = none ∧ Keep h h' [x] ∧ Exa Z h' x "com/example/converge_to_schema/convergetoschema/schema/Token" ∧ Fld Z h' x "com/example/converge_to_schema/convergetoschema/schema/Token" "kind" "Lcom/example/converge_to_schema/convergetoschema/schema/Token$Kind;" (.ref kk) ∧ Fld Z h' x "com/example/converge_to_schema/convergetoschema/schema/Token" "text" "Ljava/lang/String;" (.ref sa)) := by
  have hw := X.hw
  obtain ⟨z1, hz1, hz2⟩ := X.2.2.1
  refine Ctr.intro (a0 := a0) (plainFor_of_name pn4) hO X.ew ?_
  intro p e s m below meth c T0 V0 S0 hby hml hret hnm hsf
  rw [ef13]
  refine s_aloadN S0 (hb hby dTK_0) rfl rfl (pc' := 1) rfl ?_
  refine g_initO S0 (w37 hw) (w21 hw) (w22 hw) (by rw [hml]; rfl) (hb hby dTK_1) (Nat.le_of_ble_eq_true rfl) (Nat.le_of_ble_eq_true rfl) ?_
  intro T317 ST317
  show Go p e below _ (T317.setTop (mkF m 4 #[.val (.ref x), .val (.ref kk), .val (.ref sa), .val (.int li), .val (.int co)] []))
  refine s_aloadN ST317 (hb hby dTK_4) rfl rfl (pc' := 5) rfl ?_
  refine s_aloadN ST317 (hb hby dTK_5) rfl rfl (pc' := 6) rfl ?_
  show Go p e below _ (T317.setTop (mkF m 6 #[.val (.ref x), .val (.ref kk), .val (.ref sa), .val (.int li), .val (.int co)] [(.ref kk), (.ref x)]))
  refine g_putF ST317 (w38 hw) Via.refl F0 Ex (Or.inr ⟨(w39 hw), rfl, hnm⟩) (w32 hw) (ty := (.object "com/example/converge_to_schema/convergetoschema/schema/Token$Kind")) (v' := (.ref kk)) (by decide) rfl rfl na (Safe.exa ST317.warm.alike Ex (by decide) (by decide)) (hb hby dTK_6) ?_
  intro T318 h318 S318 K318 W318 A318 F318 sg318
  have F319 := F1.other W318 (Or.inr (slot_ne (Or.inr (w41 hw)) (Or.inr (w39 hw)) (by decide) (t := (.object "java/lang/String")) (t' := (.object "com/example/converge_to_schema/convergetoschema/schema/Token$Kind")) (by decide) (by decide)))
  have F320 := F2.other W318 (Or.inr (slot_ne (Or.inr (w43 hw)) (Or.inr (w39 hw)) (by decide) (t := .int) (t' := (.object "com/example/converge_to_schema/convergetoschema/schema/Token$Kind")) (by decide) (by decide)))
  have F321 := F3.other W318 (Or.inr (slot_ne (Or.inr (w45 hw)) (Or.inr (w39 hw)) (by decide) (t := .int) (t' := (.object "com/example/converge_to_schema/convergetoschema/schema/Token$Kind")) (by decide) (by decide)))
  show Go p e below _ (T318.setTop (mkF m 9 #[.val (.ref x), .val (.ref kk), .val (.ref sa), .val (.int li), .val (.int co)] []))
  refine s_aloadN S318 (hb hby dTK_9) rfl rfl (pc' := 10) rfl ?_
  refine s_aloadN S318 (hb hby dTK_10) rfl rfl (pc' := 11) rfl ?_
  show Go p e below _ (T318.setTop (mkF m 11 #[.val (.ref x), .val (.ref kk), .val (.ref sa), .val (.int li), .val (.int co)] [(.ref sa), (.ref x)]))
  refine g_putF S318 (w40 hw) Via.refl F319 A318 (Or.inr ⟨(w41 hw), rfl, hnm⟩) (w32 hw) (ty := (.object "java/lang/String")) (v' := (.ref sa)) (by decide) rfl rfl na (Safe.exa S318.warm.alike A318 (by decide) (by decide)) (hb hby dTK_11) ?_
  intro T322 h322 S322 K322 W322 A322 F322 sg322
  have F323 := F318.other W322 (Or.inr (slot_ne (Or.inr (w39 hw)) (Or.inr (w41 hw)) (by decide) (t := (.object "com/example/converge_to_schema/convergetoschema/schema/Token$Kind")) (t' := (.object "java/lang/String")) (by decide) (by decide)))
  have F324 := F320.other W322 (Or.inr (slot_ne (Or.inr (w43 hw)) (Or.inr (w41 hw)) (by decide) (t := .int) (t' := (.object "java/lang/String")) (by decide) (by decide)))
  have F325 := F321.other W322 (Or.inr (slot_ne (Or.inr (w45 hw)) (Or.inr (w41 hw)) (by decide) (t := .int) (t' := (.object "java/lang/String")) (by decide) (by decide)))
  show Go p e below _ (T322.setTop (mkF m 14 #[.val (.ref x), .val (.ref kk), .val (.ref sa), .val (.int li), .val (.int co)] []))
  refine s_aloadN S322 (hb hby dTK_14) rfl rfl (pc' := 15) rfl ?_
  refine s_iloadN S322 (hb hby dTK_15) rfl (pc' := 16) rfl ?_
  show Go p e below _ (T322.setTop (mkF m 16 #[.val (.ref x), .val (.ref kk), .val (.ref sa), .val (.int li), .val (.int co)] [(.int li), (.ref x)]))
  refine g_putF S322 (w42 hw) Via.refl F324 A322 (Or.inr ⟨(w43 hw), rfl, hnm⟩) (w32 hw) (ty := .int) (v' := (.int li)) (by decide) rfl rfl na (Safe.exa S322.warm.alike A322 (by decide) (by decide)) (hb hby dTK_16) ?_
  intro T326 h326 S326 K326 W326 A326 F326 sg326
  have F327 := F323.other W326 (Or.inr (slot_ne (Or.inr (w39 hw)) (Or.inr (w43 hw)) (by decide) (t := (.object "com/example/converge_to_schema/convergetoschema/schema/Token$Kind")) (t' := .int) (by decide) (by decide)))
  have F328 := F322.other W326 (Or.inr (slot_ne (Or.inr (w41 hw)) (Or.inr (w43 hw)) (by decide) (t := (.object "java/lang/String")) (t' := .int) (by decide) (by decide)))
  have F329 := F325.other W326 (Or.inr (slot_ne (Or.inr (w45 hw)) (Or.inr (w43 hw)) (by decide) (t := .int) (t' := .int) (by decide) (by decide)))
  show Go p e below _ (T326.setTop (mkF m 19 #[.val (.ref x), .val (.ref kk), .val (.ref sa), .val (.int li), .val (.int co)] []))
  refine s_aloadN S326 (hb hby dTK_19) rfl rfl (pc' := 20) rfl ?_
  refine s_iload S326 (hb hby dTK_20) rfl (pc' := 22) rfl ?_
  show Go p e below _ (T326.setTop (mkF m 22 #[.val (.ref x), .val (.ref kk), .val (.ref sa), .val (.int li), .val (.int co)] [(.int co), (.ref x)]))
  refine g_putF S326 (w44 hw) Via.refl F329 A326 (Or.inr ⟨(w45 hw), rfl, hnm⟩) (w32 hw) (ty := .int) (v' := (.int co)) (by decide) rfl rfl na (Safe.exa S326.warm.alike A326 (by decide) (by decide)) (hb hby dTK_22) ?_
  intro T330 h330 S330 K330 W330 A330 F330 sg330
  have F331 := F327.other W330 (Or.inr (slot_ne (Or.inr (w39 hw)) (Or.inr (w45 hw)) (by decide) (t := (.object "com/example/converge_to_schema/convergetoschema/schema/Token$Kind")) (t' := .int) (by decide) (by decide)))
  have F332 := F328.other W330 (Or.inr (slot_ne (Or.inr (w41 hw)) (Or.inr (w45 hw)) (by decide) (t := (.object "java/lang/String")) (t' := .int) (by decide) (by decide)))
  have F333 := F326.other W330 (Or.inr (slot_ne (Or.inr (w43 hw)) (Or.inr (w45 hw)) (by decide) (t := .int) (t' := .int) (by decide) (by decide)))
  show Go p e below _ (T330.setTop (mkF m 25 #[.val (.ref x), .val (.ref kk), .val (.ref sa), .val (.int li), .val (.int co)] []))
  show Go p e below _ (T330.setTop (mkF m 25 #[.val (.ref x), .val (.ref kk), .val (.ref sa), .val (.int li), .val (.int co)] []))
  have KA334 : Keep h h330 [x] := (((((Keep.refl h [x]).trans K318 (fun y hy => Or.inl hy)).trans K322 (fun y hy => Or.inl hy)).trans K326 (fun y hy => Or.inl hy)).trans K330 (fun y hy => Or.inl hy))
  exact g_ret S330 (hb hby dTK_25) hret ⟨rfl, KA334, A330, F331, F332⟩
theorem dI0_0 : decode prog_68_method_7_code 0 = .ok (.aload_n 0, 1) := by decide +kernel
theorem dI0_1 : decode prog_68_method_7_code 1 = .ok (.getfield 7, 3) := by decide +kernel
theorem dI0_4 : decode prog_68_method_7_code 4 = .ok (.getstatic 35, 3) := by decide +kernel
theorem dI0_7 : decode prog_68_method_7_code 7 = .ok (.if_acmp .ne 19, 3) := by decide +kernel
theorem dI0_26 : decode prog_68_method_7_code 26 = .ok (.iconst 0, 1) := by decide +kernel
theorem dI0_27 : decode prog_68_method_7_code 27 = .ok (.ireturn, 1) := by decide +kernel
set_option maxRecDepth 65536 in
set_option maxHeartbeats 40000000 in
theorem rmI0 {l : Launch} {Z : State} {a0 : Array Value} {n0 : Nat} (X : Ctx Z a0) {x kk ky : Addr} {ch : Int32} {h : Heap} (hO : Old Z n0 h) (Ex : Exa Z h x "com/example/converge_to_schema/convergetoschema/schema/Token") (Fk : Fld Z h x "com/example/converge_to_schema/convergetoschema/schema/Token" "kind" "Lcom/example/converge_to_schema/convergetoschema/schema/Token$Kind;" (.ref kk)) (hy : Sta Z Z.heap "com/example/converge_to_schema/convergetoschema/schema/Token$Kind" "SYMBOL" "Lcom/example/converge_to_schema/convergetoschema/schema/Token$Kind;" (.ref ky)) (hne : ¬ kk = ky) :
    Ctr l Z EL1 n0 (⟨"com/example/converge_to_schema/convergetoschema/schema/Token", "isSymbol", "(C)Z"⟩ : MethodName) prog_68_method_7_code 2 (some .boolean) ({ frames := 0, cells := 0, slots := 0, locals := 0 } : Room) #[(.ref x), (.int ch)] h [] (fun v h' => v = some (.int 0) ∧ h' = h) := by
  have hw := X.hw
  obtain ⟨z1, hz1, hz2⟩ := X.2.2.1
  refine Ctr.intro (a0 := a0) (plainFor_of_name pn4) hO X.ew ?_
  intro p e s m below meth c T0 V0 S0 hby hml hret hnm hsf
  rw [ef1]
  refine s_aloadN S0 (hb hby dI0_0) rfl rfl (pc' := 1) rfl ?_
  refine g_getF S0 (w38 hw) Via.refl Fk (hb hby dI0_1) ?_
  intro T335 ST335
  show Go p e below _ (T335.setTop (mkF m 4 #[.val (.ref x), .val (.int ch)] [(.ref kk)]))
  refine g_getS ST335 (w51 hw) Via.refl (hy.ext ST335.old.2) (hb hby dI0_4) ?_
  intro T336 ST336
  show Go p e below _ (T336.setTop (mkF m 7 #[.val (.ref x), .val (.int ch)] [(.ref ky), (.ref kk)]))
  refine s_acmp ST336 rfl rfl (hb hby dI0_7) (same := false) (decide_eq_false fun q => hne (Value.ref.inj q)) (by decide) (pcT := 26) (by decide) ?_
  refine s_iconst ST336 (hb hby dI0_26) (v := (0 : Int32)) rfl (pc' := 27) rfl ?_
  exact g_iretN ST336 (hb hby dI0_27) hret (by simp) ⟨rfl, rfl⟩
theorem dI1_0 : decode prog_68_method_7_code 0 = .ok (.aload_n 0, 1) := by decide +kernel
theorem dI1_1 : decode prog_68_method_7_code 1 = .ok (.getfield 7, 3) := by decide +kernel
theorem dI1_4 : decode prog_68_method_7_code 4 = .ok (.getstatic 35, 3) := by decide +kernel
theorem dI1_7 : decode prog_68_method_7_code 7 = .ok (.if_acmp .ne 19, 3) := by decide +kernel
theorem dI1_10 : decode prog_68_method_7_code 10 = .ok (.aload_n 0, 1) := by decide +kernel
theorem dI1_11 : decode prog_68_method_7_code 11 = .ok (.getfield 13, 3) := by decide +kernel
theorem dI1_14 : decode prog_68_method_7_code 14 = .ok (.iconst 0, 1) := by decide +kernel
theorem dI1_15 : decode prog_68_method_7_code 15 = .ok (.invokevirtual 38, 3) := by decide +kernel
theorem dI1_18 : decode prog_68_method_7_code 18 = .ok (.iload_n 1, 1) := by decide +kernel
theorem dI1_19 : decode prog_68_method_7_code 19 = .ok (.if_icmp .ne 7, 3) := by decide +kernel
theorem dI1_22 : decode prog_68_method_7_code 22 = .ok (.iconst 1, 1) := by decide +kernel
theorem dI1_23 : decode prog_68_method_7_code 23 = .ok (.goto 4, 3) := by decide +kernel
theorem dI1_26 : decode prog_68_method_7_code 26 = .ok (.iconst 0, 1) := by decide +kernel
theorem dI1_27 : decode prog_68_method_7_code 27 = .ok (.ireturn, 1) := by decide +kernel
set_option maxRecDepth 65536 in
set_option maxHeartbeats 40000000 in
theorem rmI1 {l : Launch} {Z : State} {a0 : Array Value} {n0 : Nat} (X : Ctx Z a0) {x sa ky : Addr} {ch c0 : Int32} {h : Heap} (hO : Old Z n0 h) (Ex : Exa Z h x "com/example/converge_to_schema/convergetoschema/schema/Token") (Fk : Fld Z h x "com/example/converge_to_schema/convergetoschema/schema/Token" "kind" "Lcom/example/converge_to_schema/convergetoschema/schema/Token$Kind;" (.ref ky)) (Ft : Fld Z h x "com/example/converge_to_schema/convergetoschema/schema/Token" "text" "Ljava/lang/String;" (.ref sa)) (hy : Sta Z Z.heap "com/example/converge_to_schema/convergetoschema/schema/Token$Kind" "SYMBOL" "Lcom/example/converge_to_schema/convergetoschema/schema/Token$Kind;" (.ref ky)) (F : StrF Z h sa [c0]) :
    Ctr l Z EL1 n0 (⟨"com/example/converge_to_schema/convergetoschema/schema/Token", "isSymbol", "(C)Z"⟩ : MethodName) prog_68_method_7_code 2 (some .boolean) ({ frames := 5, cells := 0, slots := 0, locals := 67 } : Room) #[(.ref x), (.int ch)] h [] (fun v h' => ∃ r : Int32, v = some (.int r) ∧ ((r = 1 ∧ c0 = ch) ∨ (r = 0 ∧ ¬ c0 = ch)) ∧ h' = h) := by
  have hw := X.hw
  obtain ⟨z1, hz1, hz2⟩ := X.2.2.1
  refine Ctr.intro (a0 := a0) (plainFor_of_name pn4) hO X.ew ?_
  intro p e s m below meth c T0 V0 S0 hby hml hret hnm hsf
  rw [ef1]
  rcases Classical.em ((255 : Int32) < c0) with hwd | hnw
  · skip
    show Go p e below _ (T0.setTop (mkF m 0 #[.val (.ref x), .val (.int ch)] []))
    refine s_aloadN S0 (hb hby dI1_0) rfl rfl (pc' := 1) rfl ?_
    refine g_getF S0 (w38 hw) Via.refl Fk (hb hby dI1_1) ?_
    intro T337 ST337
    show Go p e below _ (T337.setTop (mkF m 4 #[.val (.ref x), .val (.int ch)] [(.ref ky)]))
    refine g_getS ST337 (w51 hw) Via.refl (hy.ext ST337.old.2) (hb hby dI1_4) ?_
    intro T338 ST338
    show Go p e below _ (T338.setTop (mkF m 7 #[.val (.ref x), .val (.int ch)] [(.ref ky), (.ref ky)]))
    refine s_acmp ST338 rfl rfl (hb hby dI1_7) (same := true) (decide_eq_true rfl) (by decide) (pcT := 10) (by decide) ?_
    refine s_aloadN ST338 (hb hby dI1_10) rfl rfl (pc' := 11) rfl ?_
    refine g_getF ST338 (w40 hw) Via.refl Ft (hb hby dI1_11) ?_
    intro T339 ST339
    show Go p e below _ (T339.setTop (mkF m 14 #[.val (.ref x), .val (.int ch)] [(.ref sa)]))
    refine s_iconst ST339 (hb hby dI1_14) (v := (0 : Int32)) rfl (pc' := 15) rfl ?_
    show Go p e below _ (T339.setTop (mkF m 15 #[.val (.ref x), .val (.int ch)] [(.int (0 : Int32)), (.ref sa)]))
    refine g_virtual ST339 (rmCA10 X ST339.old F hwd) (fun _ q => nomatch q) (w65 hw) (w66 hw) (w68 hw) (w67 hw) (w12 hw) (w69 hw) (by decide) (fun _ h => notFace_of_selects h) (hb hby dI1_15) (by rw [hml]; rfl) sa F.exa [(.int (0 : Int32))] (lenOf pd13 rfl) rfl rfl (Nat.le_of_ble_eq_true rfl) (Nat.le_of_ble_eq_true rfl) (Nat.le_of_ble_eq_true rfl) (Nat.le_of_ble_eq_true rfl) ?_
    intro v340 T340 V340 h340 S340 C340 q340
    obtain ⟨rfl, rfl⟩ := q340
    show Go p e below _ (T340.setTop (mkF m 18 #[.val (.ref x), .val (.int ch)] [(.int c0)]))
    refine s_iloadN S340 (hb hby dI1_18) rfl (pc' := 19) rfl ?_
    refine g_icmp S340 (hb hby dI1_19) (by decide) (pcT := 26) (by decide) (fun q => ?_) (fun q => ?_)
    · have hc19_341 : ¬ c0 = ch := icT_ne q
      show Go p e below _ (T340.setTop (mkF m 26 #[.val (.ref x), .val (.int ch)] []))
      refine s_iconst S340 (hb hby dI1_26) (v := (0 : Int32)) rfl (pc' := 27) rfl ?_
      show Go p e below _ (T340.setTop (mkF m 27 #[.val (.ref x), .val (.int ch)] [(.int (0 : Int32))]))
      exact g_iretN S340 (hb hby dI1_27) hret (by simp) ⟨_, rfl, Or.inr ⟨rfl, hc19_341⟩, rfl⟩
    · have hc19_341 : c0 = ch := icF_ne q
      show Go p e below _ (T340.setTop (mkF m 22 #[.val (.ref x), .val (.int ch)] []))
      refine s_iconst S340 (hb hby dI1_22) (v := (1 : Int32)) rfl (pc' := 23) rfl ?_
      refine s_goto S340 (hb hby dI1_23) (by decide) (pcT := 27) (by decide) ?_
      show Go p e below _ (T340.setTop (mkF m 27 #[.val (.ref x), .val (.int ch)] [(.int (1 : Int32))]))
      exact g_iretN S340 (hb hby dI1_27) hret (by simp) ⟨_, rfl, Or.inl ⟨rfl, hc19_341⟩, rfl⟩
  · skip
    have lat : ∀ c ∈ [c0], ¬ (255 : Int32) < c := by simpa [not_or] using hnw
    show Go p e below _ (T0.setTop (mkF m 0 #[.val (.ref x), .val (.int ch)] []))
    refine s_aloadN S0 (hb hby dI1_0) rfl rfl (pc' := 1) rfl ?_
    refine g_getF S0 (w38 hw) Via.refl Fk (hb hby dI1_1) ?_
    intro T342 ST342
    show Go p e below _ (T342.setTop (mkF m 4 #[.val (.ref x), .val (.int ch)] [(.ref ky)]))
    refine g_getS ST342 (w51 hw) Via.refl (hy.ext ST342.old.2) (hb hby dI1_4) ?_
    intro T343 ST343
    show Go p e below _ (T343.setTop (mkF m 7 #[.val (.ref x), .val (.int ch)] [(.ref ky), (.ref ky)]))
    refine s_acmp ST343 rfl rfl (hb hby dI1_7) (same := true) (decide_eq_true rfl) (by decide) (pcT := 10) (by decide) ?_
    refine s_aloadN ST343 (hb hby dI1_10) rfl rfl (pc' := 11) rfl ?_
    refine g_getF ST343 (w40 hw) Via.refl Ft (hb hby dI1_11) ?_
    intro T344 ST344
    show Go p e below _ (T344.setTop (mkF m 14 #[.val (.ref x), .val (.int ch)] [(.ref sa)]))
    refine s_iconst ST344 (hb hby dI1_14) (v := (0 : Int32)) rfl (pc' := 15) rfl ?_
    show Go p e below _ (T344.setTop (mkF m 15 #[.val (.ref x), .val (.int ch)] [(.int (0 : Int32)), (.ref sa)]))
    refine g_strChar ST344 X (i := 0) F lat (Nat.le_of_ble_eq_true rfl) rfl (w65 hw) (hb hby dI1_15) (by rw [hml]; rfl) (Nat.le_of_ble_eq_true rfl) (Nat.le_of_ble_eq_true rfl) (Nat.le_of_ble_eq_true rfl) (Nat.le_of_ble_eq_true rfl) ?_
    intro T345 S345
    show Go p e below _ (T345.setTop (mkF m 18 #[.val (.ref x), .val (.int ch)] [(.int c0)]))
    refine s_iloadN S345 (hb hby dI1_18) rfl (pc' := 19) rfl ?_
    refine g_icmp S345 (hb hby dI1_19) (by decide) (pcT := 26) (by decide) (fun q => ?_) (fun q => ?_)
    · have hc19_346 : ¬ c0 = ch := icT_ne q
      show Go p e below _ (T345.setTop (mkF m 26 #[.val (.ref x), .val (.int ch)] []))
      refine s_iconst S345 (hb hby dI1_26) (v := (0 : Int32)) rfl (pc' := 27) rfl ?_
      show Go p e below _ (T345.setTop (mkF m 27 #[.val (.ref x), .val (.int ch)] [(.int (0 : Int32))]))
      exact g_iretN S345 (hb hby dI1_27) hret (by simp) ⟨_, rfl, Or.inr ⟨rfl, hc19_346⟩, rfl⟩
    · have hc19_346 : c0 = ch := icF_ne q
      show Go p e below _ (T345.setTop (mkF m 22 #[.val (.ref x), .val (.int ch)] []))
      refine s_iconst S345 (hb hby dI1_22) (v := (1 : Int32)) rfl (pc' := 23) rfl ?_
      refine s_goto S345 (hb hby dI1_23) (by decide) (pcT := 27) (by decide) ?_
      show Go p e below _ (T345.setTop (mkF m 27 #[.val (.ref x), .val (.int ch)] [(.int (1 : Int32))]))
      exact g_iretN S345 (hb hby dI1_27) hret (by simp) ⟨_, rfl, Or.inl ⟨rfl, hc19_346⟩, rfl⟩
theorem dI2_0 : decode prog_68_method_7_code 0 = .ok (.aload_n 0, 1) := by decide +kernel
theorem dI2_1 : decode prog_68_method_7_code 1 = .ok (.getfield 7, 3) := by decide +kernel
theorem dI2_4 : decode prog_68_method_7_code 4 = .ok (.getstatic 35, 3) := by decide +kernel
theorem dI2_7 : decode prog_68_method_7_code 7 = .ok (.if_acmp .ne 19, 3) := by decide +kernel
theorem dI2_10 : decode prog_68_method_7_code 10 = .ok (.aload_n 0, 1) := by decide +kernel
theorem dI2_11 : decode prog_68_method_7_code 11 = .ok (.getfield 13, 3) := by decide +kernel
theorem dI2_14 : decode prog_68_method_7_code 14 = .ok (.iconst 0, 1) := by decide +kernel
theorem dI2_15 : decode prog_68_method_7_code 15 = .ok (.invokevirtual 38, 3) := by decide +kernel
theorem dI2_18 : decode prog_68_method_7_code 18 = .ok (.iload_n 1, 1) := by decide +kernel
theorem dI2_19 : decode prog_68_method_7_code 19 = .ok (.if_icmp .ne 7, 3) := by decide +kernel
theorem dI2_22 : decode prog_68_method_7_code 22 = .ok (.iconst 1, 1) := by decide +kernel
theorem dI2_23 : decode prog_68_method_7_code 23 = .ok (.goto 4, 3) := by decide +kernel
theorem dI2_26 : decode prog_68_method_7_code 26 = .ok (.iconst 0, 1) := by decide +kernel
theorem dI2_27 : decode prog_68_method_7_code 27 = .ok (.ireturn, 1) := by decide +kernel
set_option maxRecDepth 65536 in
set_option maxHeartbeats 40000000 in
theorem rmI2 {l : Launch} {Z : State} {a0 : Array Value} {n0 : Nat} (X : Ctx Z a0) {x sa ky : Addr} {ch c0 c1 : Int32} {h : Heap} (hO : Old Z n0 h) (Ex : Exa Z h x "com/example/converge_to_schema/convergetoschema/schema/Token") (Fk : Fld Z h x "com/example/converge_to_schema/convergetoschema/schema/Token" "kind" "Lcom/example/converge_to_schema/convergetoschema/schema/Token$Kind;" (.ref ky)) (Ft : Fld Z h x "com/example/converge_to_schema/convergetoschema/schema/Token" "text" "Ljava/lang/String;" (.ref sa)) (hy : Sta Z Z.heap "com/example/converge_to_schema/convergetoschema/schema/Token$Kind" "SYMBOL" "Lcom/example/converge_to_schema/convergetoschema/schema/Token$Kind;" (.ref ky)) (F : StrF Z h sa [c0, c1]) :
    Ctr l Z EL1 n0 (⟨"com/example/converge_to_schema/convergetoschema/schema/Token", "isSymbol", "(C)Z"⟩ : MethodName) prog_68_method_7_code 2 (some .boolean) ({ frames := 5, cells := 0, slots := 0, locals := 67 } : Room) #[(.ref x), (.int ch)] h [] (fun v h' => ∃ r : Int32, v = some (.int r) ∧ ((r = 1 ∧ c0 = ch) ∨ (r = 0 ∧ ¬ c0 = ch)) ∧ h' = h) := by
  have hw := X.hw
  obtain ⟨z1, hz1, hz2⟩ := X.2.2.1
  refine Ctr.intro (a0 := a0) (plainFor_of_name pn4) hO X.ew ?_
  intro p e s m below meth c T0 V0 S0 hby hml hret hnm hsf
  rw [ef1]
  rcases Classical.em ((255 : Int32) < c0 ∨ (255 : Int32) < c1) with hwd | hnw
  · skip
    show Go p e below _ (T0.setTop (mkF m 0 #[.val (.ref x), .val (.int ch)] []))
    refine s_aloadN S0 (hb hby dI2_0) rfl rfl (pc' := 1) rfl ?_
    refine g_getF S0 (w38 hw) Via.refl Fk (hb hby dI2_1) ?_
    intro T347 ST347
    show Go p e below _ (T347.setTop (mkF m 4 #[.val (.ref x), .val (.int ch)] [(.ref ky)]))
    refine g_getS ST347 (w51 hw) Via.refl (hy.ext ST347.old.2) (hb hby dI2_4) ?_
    intro T348 ST348
    show Go p e below _ (T348.setTop (mkF m 7 #[.val (.ref x), .val (.int ch)] [(.ref ky), (.ref ky)]))
    refine s_acmp ST348 rfl rfl (hb hby dI2_7) (same := true) (decide_eq_true rfl) (by decide) (pcT := 10) (by decide) ?_
    refine s_aloadN ST348 (hb hby dI2_10) rfl rfl (pc' := 11) rfl ?_
    refine g_getF ST348 (w40 hw) Via.refl Ft (hb hby dI2_11) ?_
    intro T349 ST349
    show Go p e below _ (T349.setTop (mkF m 14 #[.val (.ref x), .val (.int ch)] [(.ref sa)]))
    refine s_iconst ST349 (hb hby dI2_14) (v := (0 : Int32)) rfl (pc' := 15) rfl ?_
    show Go p e below _ (T349.setTop (mkF m 15 #[.val (.ref x), .val (.int ch)] [(.int (0 : Int32)), (.ref sa)]))
    refine g_virtual ST349 (rmCA20 X ST349.old F hwd) (fun _ q => nomatch q) (w65 hw) (w66 hw) (w68 hw) (w67 hw) (w12 hw) (w69 hw) (by decide) (fun _ h => notFace_of_selects h) (hb hby dI2_15) (by rw [hml]; rfl) sa F.exa [(.int (0 : Int32))] (lenOf pd13 rfl) rfl rfl (Nat.le_of_ble_eq_true rfl) (Nat.le_of_ble_eq_true rfl) (Nat.le_of_ble_eq_true rfl) (Nat.le_of_ble_eq_true rfl) ?_
    intro v350 T350 V350 h350 S350 C350 q350
    obtain ⟨rfl, rfl⟩ := q350
    show Go p e below _ (T350.setTop (mkF m 18 #[.val (.ref x), .val (.int ch)] [(.int c0)]))
    refine s_iloadN S350 (hb hby dI2_18) rfl (pc' := 19) rfl ?_
    refine g_icmp S350 (hb hby dI2_19) (by decide) (pcT := 26) (by decide) (fun q => ?_) (fun q => ?_)
    · have hc19_351 : ¬ c0 = ch := icT_ne q
      show Go p e below _ (T350.setTop (mkF m 26 #[.val (.ref x), .val (.int ch)] []))
      refine s_iconst S350 (hb hby dI2_26) (v := (0 : Int32)) rfl (pc' := 27) rfl ?_
      show Go p e below _ (T350.setTop (mkF m 27 #[.val (.ref x), .val (.int ch)] [(.int (0 : Int32))]))
      exact g_iretN S350 (hb hby dI2_27) hret (by simp) ⟨_, rfl, Or.inr ⟨rfl, hc19_351⟩, rfl⟩
    · have hc19_351 : c0 = ch := icF_ne q
      show Go p e below _ (T350.setTop (mkF m 22 #[.val (.ref x), .val (.int ch)] []))
      refine s_iconst S350 (hb hby dI2_22) (v := (1 : Int32)) rfl (pc' := 23) rfl ?_
      refine s_goto S350 (hb hby dI2_23) (by decide) (pcT := 27) (by decide) ?_
      show Go p e below _ (T350.setTop (mkF m 27 #[.val (.ref x), .val (.int ch)] [(.int (1 : Int32))]))
      exact g_iretN S350 (hb hby dI2_27) hret (by simp) ⟨_, rfl, Or.inl ⟨rfl, hc19_351⟩, rfl⟩
  · skip
    have lat : ∀ c ∈ [c0, c1], ¬ (255 : Int32) < c := by simpa [not_or] using hnw
    show Go p e below _ (T0.setTop (mkF m 0 #[.val (.ref x), .val (.int ch)] []))
    refine s_aloadN S0 (hb hby dI2_0) rfl rfl (pc' := 1) rfl ?_
    refine g_getF S0 (w38 hw) Via.refl Fk (hb hby dI2_1) ?_
    intro T352 ST352
    show Go p e below _ (T352.setTop (mkF m 4 #[.val (.ref x), .val (.int ch)] [(.ref ky)]))
    refine g_getS ST352 (w51 hw) Via.refl (hy.ext ST352.old.2) (hb hby dI2_4) ?_
    intro T353 ST353
    show Go p e below _ (T353.setTop (mkF m 7 #[.val (.ref x), .val (.int ch)] [(.ref ky), (.ref ky)]))
    refine s_acmp ST353 rfl rfl (hb hby dI2_7) (same := true) (decide_eq_true rfl) (by decide) (pcT := 10) (by decide) ?_
    refine s_aloadN ST353 (hb hby dI2_10) rfl rfl (pc' := 11) rfl ?_
    refine g_getF ST353 (w40 hw) Via.refl Ft (hb hby dI2_11) ?_
    intro T354 ST354
    show Go p e below _ (T354.setTop (mkF m 14 #[.val (.ref x), .val (.int ch)] [(.ref sa)]))
    refine s_iconst ST354 (hb hby dI2_14) (v := (0 : Int32)) rfl (pc' := 15) rfl ?_
    show Go p e below _ (T354.setTop (mkF m 15 #[.val (.ref x), .val (.int ch)] [(.int (0 : Int32)), (.ref sa)]))
    refine g_strChar ST354 X (i := 0) F lat (Nat.le_of_ble_eq_true rfl) rfl (w65 hw) (hb hby dI2_15) (by rw [hml]; rfl) (Nat.le_of_ble_eq_true rfl) (Nat.le_of_ble_eq_true rfl) (Nat.le_of_ble_eq_true rfl) (Nat.le_of_ble_eq_true rfl) ?_
    intro T355 S355
    show Go p e below _ (T355.setTop (mkF m 18 #[.val (.ref x), .val (.int ch)] [(.int c0)]))
    refine s_iloadN S355 (hb hby dI2_18) rfl (pc' := 19) rfl ?_
    refine g_icmp S355 (hb hby dI2_19) (by decide) (pcT := 26) (by decide) (fun q => ?_) (fun q => ?_)
    · have hc19_356 : ¬ c0 = ch := icT_ne q
      show Go p e below _ (T355.setTop (mkF m 26 #[.val (.ref x), .val (.int ch)] []))
      refine s_iconst S355 (hb hby dI2_26) (v := (0 : Int32)) rfl (pc' := 27) rfl ?_
      show Go p e below _ (T355.setTop (mkF m 27 #[.val (.ref x), .val (.int ch)] [(.int (0 : Int32))]))
      exact g_iretN S355 (hb hby dI2_27) hret (by simp) ⟨_, rfl, Or.inr ⟨rfl, hc19_356⟩, rfl⟩
    · have hc19_356 : c0 = ch := icF_ne q
      show Go p e below _ (T355.setTop (mkF m 22 #[.val (.ref x), .val (.int ch)] []))
      refine s_iconst S355 (hb hby dI2_22) (v := (1 : Int32)) rfl (pc' := 23) rfl ?_
      refine s_goto S355 (hb hby dI2_23) (by decide) (pcT := 27) (by decide) ?_
      show Go p e below _ (T355.setTop (mkF m 27 #[.val (.ref x), .val (.int ch)] [(.int (1 : Int32))]))
      exact g_iretN S355 (hb hby dI2_27) hret (by simp) ⟨_, rfl, Or.inl ⟨rfl, hc19_356⟩, rfl⟩
end Jvm.Pilot.@@N@@

namespace Jvm.Pilot.@@N@@
open Jvm Jvm.ClassFile Sem Op Lib Jvm.Free Jvm.Stand Jvm.LawKit Jvm.RoadKit Jvm.OwnKit Bundle Jvm.Pilot.@@N@@.Jvm.D
set_option maxRecDepth 65536 in
set_option maxHeartbeats 40000000 in
theorem rmL {l : Launch} {Z : State} {a0 : Array Value} {n0 : Nat} (X : Ctx Z a0) (k_ xa xb xs xm : Int32) {h : Heap} (hO : Old Z n0 h)  :
    Ctr l Z EL1 n0 x code maxLocals ret room_1 #[(.int k_), (.int xa), (.int xb), (.int xs), (.int xm)] h [] (fun v h' => v = some (.int 1) ∧ True) := by
  have hw := X.hw
  obtain ⟨z1, hz1, hz2⟩ := X.2.2.1
  refine Ctr.intro (a0 := a0) (plainFor_of_name pn3) hO X.ew ?_
  intro p e s m below meth c T0 V0 S0 hby hml hret hnm hsf
  rw [ef14]
  obtain ⟨k0_, k1_, k2_, k3_, k4_, k5_, hk0, hk1, hk2, hk3, hk4, hk5, hne0, hne1, hne2, hne4, hne5⟩ := X.2.2.2.2.2.2.2
  show Go p e below _ (T0.setTop (mkF m 0 #[.val (.int k_), .val (.int xa), .val (.int xb), .val (.int xs), .val (.int xm), .unset, .unset, .unset, .unset, .unset, .unset, .unset, .unset, .unset, .unset, .unset, .unset] []))
  refine s_iloadN S0 (hb hby at_0) rfl (pc' := 1) rfl ?_
  refine g_ldcI S0 (w0 hw) (hb hby at_1) ?_
  show Go p e below _ (T0.setTop (mkF m 3 #[.val (.int k_), .val (.int xa), .val (.int xb), .val (.int xs), .val (.int xm), .unset, .unset, .unset, .unset, .unset, .unset, .unset, .unset, .unset, .unset, .unset, .unset] [(.int (2147483647 : Int32)), (.int k_)]))
  refine s_iand S0 (hb hby at_3) (z := (k_ &&& (2147483647 : Int32))) rfl (pc' := 4) rfl ?_
  refine s_bipush S0 (hb hby at_4) (v := (6 : Int32)) rfl (pc' := 6) rfl ?_
  refine s_irem S0 (hb hby at_6) (by decide) (z := ((k_ &&& (2147483647 : Int32)) % (6 : Int32))) rfl (pc' := 7) rfl ?_
  generalize eki357 : ((k_ &&& (2147483647 : Int32)) % (6 : Int32)) = ki357
  refine s_istore S0 (hb hby at_7) (L' := #[.val (.int k_), .val (.int xa), .val (.int xb), .val (.int xs), .val (.int xm), .val (.int ki357), .unset, .unset, .unset, .unset, .unset, .unset, .unset, .unset, .unset, .unset, .unset]) rfl (pc' := 9) rfl ?_
  have K358 : ∀ (kx : Int32) (kk : Addr), ¬ kx = 3 → ¬ kk = k3_ → ∀ (T8 : State) (V8 : Vm), St p l e room_1 s m #[(.int k_), (.int xa), (.int xb), (.int xs), (.int xm)] below meth c Z a0 EL1 n0 "com/example/converge_to_schema/convergetoschema/schema/TokenIsSymbolPinLaw" T8 V8 h 0 0 → Go p e below (Fini Z EL1 n0 s room_1 (fun v h' => v = some (.int 1) ∧ True)) (T8.setTop (mkF m 14 #[.val (.int k_), .val (.int xa), .val (.int xb), .val (.int xs), .val (.int xm), .val (.int kx), .unset, .unset, .unset, .unset, .unset, .unset, .unset, .unset, .unset, .unset, .unset] [(.ref kk)])) := by
    intro kx kk hkx hkk T8 V8 S8
    show Go p e below _ (T8.setTop (mkF m 14 #[.val (.int k_), .val (.int xa), .val (.int xb), .val (.int xs), .val (.int xm), .val (.int kx), .unset, .unset, .unset, .unset, .unset, .unset, .unset, .unset, .unset, .unset, .unset] [(.ref kk)]))
    refine s_astore S8 (hb hby at_14) rfl (L' := #[.val (.int k_), .val (.int xa), .val (.int xb), .val (.int xs), .val (.int xm), .val (.int kx), .val (.ref kk), .unset, .unset, .unset, .unset, .unset, .unset, .unset, .unset, .unset, .unset]) rfl (pc' := 16) rfl ?_
    refine s_iload S8 (hb hby at_16) rfl (pc' := 18) rfl ?_
    refine s_iconst S8 (hb hby at_18) (v := (3 : Int32)) rfl (pc' := 19) rfl ?_
    refine s_icmpY S8 (hb hby at_19) ((feq hkx).2) (by decide) (pcT := 26) (by decide) ?_
    refine s_iconst S8 (hb hby at_26) (v := (0 : Int32)) rfl (pc' := 27) rfl ?_
    refine s_istore S8 (hb hby at_27) (L' := #[.val (.int k_), .val (.int xa), .val (.int xb), .val (.int xs), .val (.int xm), .val (.int kx), .val (.ref kk), .val (.int (0 : Int32)), .unset, .unset, .unset, .unset, .unset, .unset, .unset, .unset, .unset]) rfl (pc' := 29) rfl ?_
    refine s_iloadN S8 (hb hby at_29) rfl (pc' := 30) rfl ?_
    refine g_ldcI S8 (w8 hw) (hb hby at_30) ?_
    show Go p e below _ (T8.setTop (mkF m 32 #[.val (.int k_), .val (.int xa), .val (.int xb), .val (.int xs), .val (.int xm), .val (.int kx), .val (.ref kk), .val (.int (0 : Int32)), .unset, .unset, .unset, .unset, .unset, .unset, .unset, .unset, .unset] [(.int (65535 : Int32)), (.int xa)]))
    refine s_iand S8 (hb hby at_32) (z := (xa &&& (65535 : Int32))) rfl (pc' := 33) rfl ?_
    refine s_i2c S8 (hb hby at_33) (z := ((xa &&& (65535 : Int32)).toUInt32.toUInt16.toUInt32.toInt32)) rfl (pc' := 34) rfl ?_
    generalize ec359 : ((xa &&& (65535 : Int32)).toUInt32.toUInt16.toUInt32.toInt32) = c359
    refine s_istore S8 (hb hby at_34) (L' := #[.val (.int k_), .val (.int xa), .val (.int xb), .val (.int xs), .val (.int xm), .val (.int kx), .val (.ref kk), .val (.int (0 : Int32)), .val (.int c359), .unset, .unset, .unset, .unset, .unset, .unset, .unset, .unset]) rfl (pc' := 36) rfl ?_
    have rc359 : ¬ c359 < 0 ∧ ¬ (65535 : Int32) < c359 := by rw [← ec359]; exact own_i2c _
    refine s_iloadN S8 (hb hby at_36) rfl (pc' := 37) rfl ?_
    refine g_ldcI S8 (w8 hw) (hb hby at_37) ?_
    show Go p e below _ (T8.setTop (mkF m 39 #[.val (.int k_), .val (.int xa), .val (.int xb), .val (.int xs), .val (.int xm), .val (.int kx), .val (.ref kk), .val (.int (0 : Int32)), .val (.int c359), .unset, .unset, .unset, .unset, .unset, .unset, .unset, .unset] [(.int (65535 : Int32)), (.int xb)]))
    refine s_iand S8 (hb hby at_39) (z := (xb &&& (65535 : Int32))) rfl (pc' := 40) rfl ?_
    refine s_i2c S8 (hb hby at_40) (z := ((xb &&& (65535 : Int32)).toUInt32.toUInt16.toUInt32.toInt32)) rfl (pc' := 41) rfl ?_
    generalize ec360 : ((xb &&& (65535 : Int32)).toUInt32.toUInt16.toUInt32.toInt32) = c360
    refine s_istore S8 (hb hby at_41) (L' := #[.val (.int k_), .val (.int xa), .val (.int xb), .val (.int xs), .val (.int xm), .val (.int kx), .val (.ref kk), .val (.int (0 : Int32)), .val (.int c359), .val (.int c360), .unset, .unset, .unset, .unset, .unset, .unset, .unset]) rfl (pc' := 43) rfl ?_
    have rc360 : ¬ c360 < 0 ∧ ¬ (65535 : Int32) < c360 := by rw [← ec360]; exact own_i2c _
    refine s_iload S8 (hb hby at_43) rfl (pc' := 45) rfl ?_
    refine s_iconst S8 (hb hby at_45) (v := (3 : Int32)) rfl (pc' := 46) rfl ?_
    refine s_iand S8 (hb hby at_46) (z := (xm &&& (3 : Int32))) rfl (pc' := 47) rfl ?_
    refine s_iconst S8 (hb hby at_47) (v := (3 : Int32)) rfl (pc' := 48) rfl ?_
    refine s_irem S8 (hb hby at_48) (by decide) (z := ((xm &&& (3 : Int32)) % (3 : Int32))) rfl (pc' := 49) rfl ?_
    generalize enn361 : ((xm &&& (3 : Int32)) % (3 : Int32)) = nn361
    refine s_istore S8 (hb hby at_49) (L' := #[.val (.int k_), .val (.int xa), .val (.int xb), .val (.int xs), .val (.int xm), .val (.int kx), .val (.ref kk), .val (.int (0 : Int32)), .val (.int c359), .val (.int c360), .val (.int nn361), .unset, .unset, .unset, .unset, .unset, .unset]) rfl (pc' := 51) rfl ?_
    rcases own_mod3 xm nn361 enn361 with rfl | rfl | rfl
    · skip
      show Go p e below _ (T8.setTop (mkF m 51 #[.val (.int k_), .val (.int xa), .val (.int xb), .val (.int xs), .val (.int xm), .val (.int kx), .val (.ref kk), .val (.int (0 : Int32)), .val (.int c359), .val (.int c360), .val (.int (0 : Int32)), .unset, .unset, .unset, .unset, .unset, .unset] []))
      refine s_iload S8 (hb hby at_51) rfl (pc' := 53) rfl ?_
      refine s_ifY S8 (hb hby at_53) (by decide) (by decide) (pcT := 64) (by decide) ?_
      refine s_iload S8 (hb hby at_64) rfl (pc' := 66) rfl ?_
      refine s_ifN S8 (hb hby at_66) (by decide) (pc' := 69) rfl ?_
      refine s_iconst S8 (hb hby at_69) (v := (0 : Int32)) rfl (pc' := 70) rfl ?_
      refine g_newarr (aty := .char) S8 (w9 hw) (hb hby at_70) (by decide) (cap := 0) (by decide) (by decide) (Nat.le_of_ble_eq_true rfl) (Nat.le_of_ble_eq_true rfl) ?_
      intro T362 h362 b362 kc362 S362 E362 fr362 lt362 na362 sf362 A362
      have V362 : Arv Z h362 b362 kc362 .char (0 : Int32) [] (.int (0 : Int32)) := A362 0
      show Go p e below _ (T362.setTop (mkF m 72 #[.val (.int k_), .val (.int xa), .val (.int xb), .val (.int xs), .val (.int xm), .val (.int kx), .val (.ref kk), .val (.int (0 : Int32)), .val (.int c359), .val (.int c360), .val (.int (0 : Int32)), .unset, .unset, .unset, .unset, .unset, .unset] [(.ref b362)]))
      refine s_astore S362 (hb hby at_72) rfl (L' := #[.val (.int k_), .val (.int xa), .val (.int xb), .val (.int xs), .val (.int xm), .val (.int kx), .val (.ref kk), .val (.int (0 : Int32)), .val (.int c359), .val (.int c360), .val (.int (0 : Int32)), .val (.ref b362), .unset, .unset, .unset, .unset, .unset]) rfl (pc' := 74) rfl ?_
      refine s_goto S362 (hb hby at_74) (by decide) (pcT := 111) (by decide) ?_
      refine g_new S362 (w10 hw) (w11 hw) (w12 hw) (hb hby at_111) (Nat.le_of_ble_eq_true rfl) (Nat.le_of_ble_eq_true rfl) ?_
      intro T363 h363 b363 S363 E363 fr363 lt363 na363 sf363 A363 D363
      have F364 : Fld Z h363 b363 "java/lang/String" "value" "[B" .null := D363 (Or.inr (w25 hw)) (ty := (.array .byte)) (by decide)
      have F365 : Fld Z h363 b363 "java/lang/String" "coder" "B" (.int (0 : Int32)) := D363 (Or.inr (w26 hw)) (ty := .byte) (by decide)
      show Go p e below _ (T363.setTop (mkF m 114 #[.val (.int k_), .val (.int xa), .val (.int xb), .val (.int xs), .val (.int xm), .val (.int kx), .val (.ref kk), .val (.int (0 : Int32)), .val (.int c359), .val (.int c360), .val (.int (0 : Int32)), .val (.ref b362), .unset, .unset, .unset, .unset, .unset] [(.ref b363)]))
      refine s_dup S363 (hb hby at_114) rfl (pc' := 115) rfl ?_
      refine s_aload S363 (hb hby at_115) rfl rfl (pc' := 117) rfl ?_
      show Go p e below _ (T363.setTop (mkF m 117 #[.val (.int k_), .val (.int xa), .val (.int xb), .val (.int xs), .val (.int xm), .val (.int kx), .val (.ref kk), .val (.int (0 : Int32)), .val (.int c359), .val (.int c360), .val (.int (0 : Int32)), .val (.ref b362), .unset, .unset, .unset, .unset, .unset] [(.ref b362), (.ref b363), (.ref b363)]))
      have V367 := V362.ext E363
      refine g_special S363 (rmN1 X na363 S363.old A363 F364 F365 V367) (sf1 (A363).lt sf363) rfl (w13 hw) (w14 hw) (w12 hw) (w15 hw) (by decide) (hb hby at_117) (by rw [hml]; rfl) b363 [.ref b362] (lenOf pd14 rfl) rfl rfl (Nat.le_of_ble_eq_true rfl) (Nat.le_of_ble_eq_true rfl) (Nat.le_of_ble_eq_true rfl) (Nat.le_of_ble_eq_true rfl) ?_
      intro v366 T366 V366 h366 S366 C366 q366
      obtain ⟨rfl, K366, F366⟩ := q366
      show Go p e below _ (T366.setTop (mkF m 120 #[.val (.int k_), .val (.int xa), .val (.int xb), .val (.int xs), .val (.int xm), .val (.int kx), .val (.ref kk), .val (.int (0 : Int32)), .val (.int c359), .val (.int c360), .val (.int (0 : Int32)), .val (.ref b362), .unset, .unset, .unset, .unset, .unset] [(.ref b363)]))
      refine s_astore S366 (hb hby at_120) rfl (L' := #[.val (.int k_), .val (.int xa), .val (.int xb), .val (.int xs), .val (.int xm), .val (.int kx), .val (.ref kk), .val (.int (0 : Int32)), .val (.int c359), .val (.int c360), .val (.int (0 : Int32)), .val (.ref b362), .val (.ref b363), .unset, .unset, .unset, .unset]) rfl (pc' := 122) rfl ?_
      refine s_iload S366 (hb hby at_122) rfl (pc' := 124) rfl ?_
      refine s_iconst S366 (hb hby at_124) (v := (2 : Int32)) rfl (pc' := 125) rfl ?_
      refine s_ishr S366 (hb hby at_125) (z := (xm >>> ((2 : Int32) &&& 31))) rfl (pc' := 126) rfl ?_
      refine s_iconst S366 (hb hby at_126) (v := (3 : Int32)) rfl (pc' := 127) rfl ?_
      refine s_iand S366 (hb hby at_127) (z := ((xm >>> ((2 : Int32) &&& 31)) &&& (3 : Int32))) rfl (pc' := 128) rfl ?_
      generalize epk368 : ((xm >>> ((2 : Int32) &&& 31)) &&& (3 : Int32)) = pk368
      refine s_istore S366 (hb hby at_128) (L' := #[.val (.int k_), .val (.int xa), .val (.int xb), .val (.int xs), .val (.int xm), .val (.int kx), .val (.ref kk), .val (.int (0 : Int32)), .val (.int c359), .val (.int c360), .val (.int (0 : Int32)), .val (.ref b362), .val (.ref b363), .val (.int pk368), .unset, .unset, .unset]) rfl (pc' := 130) rfl ?_
      have K369 : ∀ sm : Int32, Go p e below (Fini Z EL1 n0 s room_1 (fun v h' => v = some (.int 1) ∧ True)) (T366.setTop (mkF m 162 #[.val (.int k_), .val (.int xa), .val (.int xb), .val (.int xs), .val (.int xm), .val (.int kx), .val (.ref kk), .val (.int (0 : Int32)), .val (.int c359), .val (.int c360), .val (.int (0 : Int32)), .val (.ref b362), .val (.ref b363), .val (.int pk368), .val (.int sm), .unset, .unset] [])) := by
        intro sm
        show Go p e below _ (T366.setTop (mkF m 162 #[.val (.int k_), .val (.int xa), .val (.int xb), .val (.int xs), .val (.int xm), .val (.int kx), .val (.ref kk), .val (.int (0 : Int32)), .val (.int c359), .val (.int c360), .val (.int (0 : Int32)), .val (.ref b362), .val (.ref b363), .val (.int pk368), .val (.int sm), .unset, .unset] []))
        refine g_new S366 (w31 hw) (w32 hw) (w33 hw) (hb hby at_162) (Nat.le_of_ble_eq_true rfl) (Nat.le_of_ble_eq_true rfl) ?_
        intro T370 h370 b370 S370 E370 fr370 lt370 na370 sf370 A370 D370
        have F371 : Fld Z h370 b370 "com/example/converge_to_schema/convergetoschema/schema/Token" "kind" "Lcom/example/converge_to_schema/convergetoschema/schema/Token$Kind;" .null := D370 (Or.inr (w39 hw)) (ty := (.object "com/example/converge_to_schema/convergetoschema/schema/Token$Kind")) (by decide)
        have F372 : Fld Z h370 b370 "com/example/converge_to_schema/convergetoschema/schema/Token" "text" "Ljava/lang/String;" .null := D370 (Or.inr (w41 hw)) (ty := (.object "java/lang/String")) (by decide)
        have F373 : Fld Z h370 b370 "com/example/converge_to_schema/convergetoschema/schema/Token" "line" "I" (.int (0 : Int32)) := D370 (Or.inr (w43 hw)) (ty := .int) (by decide)
        have F374 : Fld Z h370 b370 "com/example/converge_to_schema/convergetoschema/schema/Token" "column" "I" (.int (0 : Int32)) := D370 (Or.inr (w45 hw)) (ty := .int) (by decide)
        show Go p e below _ (T370.setTop (mkF m 165 #[.val (.int k_), .val (.int xa), .val (.int xb), .val (.int xs), .val (.int xm), .val (.int kx), .val (.ref kk), .val (.int (0 : Int32)), .val (.int c359), .val (.int c360), .val (.int (0 : Int32)), .val (.ref b362), .val (.ref b363), .val (.int pk368), .val (.int sm), .unset, .unset] [(.ref b370)]))
        refine s_dup S370 (hb hby at_165) rfl (pc' := 166) rfl ?_
        refine s_aload S370 (hb hby at_166) rfl rfl (pc' := 168) rfl ?_
        refine s_aload S370 (hb hby at_168) rfl rfl (pc' := 170) rfl ?_
        refine s_iloadN S370 (hb hby at_170) rfl (pc' := 171) rfl ?_
        refine s_iloadN S370 (hb hby at_171) rfl (pc' := 172) rfl ?_
        show Go p e below _ (T370.setTop (mkF m 172 #[.val (.int k_), .val (.int xa), .val (.int xb), .val (.int xs), .val (.int xm), .val (.int kx), .val (.ref kk), .val (.int (0 : Int32)), .val (.int c359), .val (.int c360), .val (.int (0 : Int32)), .val (.ref b362), .val (.ref b363), .val (.int pk368), .val (.int sm), .unset, .unset] [(.int k_), (.int xs), (.ref b363), (.ref kk), (.ref b370), (.ref b370)]))
        refine g_special S370 (rmTK X na370 S370.old A370 F371 F372 F373 F374) (fun _ q => nomatch q) rfl (w34 hw) (w35 hw) (w33 hw) (w36 hw) (by decide) (hb hby at_172) (by rw [hml]; rfl) b370 [(.ref kk), (.ref b363), (.int xs), (.int k_)] (lenOf pd15 rfl) rfl rfl (Nat.le_of_ble_eq_true rfl) (Nat.le_of_ble_eq_true rfl) (Nat.le_of_ble_eq_true rfl) (Nat.le_of_ble_eq_true rfl) ?_
        intro v376 T376 V376 h376 S376 C376 q376
        obtain ⟨rfl, Ko375, Ao375, Fko375, Fto375⟩ := q376
        show Go p e below _ (T376.setTop (mkF m 175 #[.val (.int k_), .val (.int xa), .val (.int xb), .val (.int xs), .val (.int xm), .val (.int kx), .val (.ref kk), .val (.int (0 : Int32)), .val (.int c359), .val (.int c360), .val (.int (0 : Int32)), .val (.ref b362), .val (.ref b363), .val (.int pk368), .val (.int sm), .unset, .unset] [(.ref b370)]))
        refine s_astore S376 (hb hby at_175) rfl (L' := #[.val (.int k_), .val (.int xa), .val (.int xb), .val (.int xs), .val (.int xm), .val (.int kx), .val (.ref kk), .val (.int (0 : Int32)), .val (.int c359), .val (.int c360), .val (.int (0 : Int32)), .val (.ref b362), .val (.ref b363), .val (.int pk368), .val (.int sm), .val (.ref b370), .unset]) rfl (pc' := 177) rfl ?_
        refine s_iload S376 (hb hby at_177) rfl (pc' := 179) rfl ?_
        refine s_ifY S376 (hb hby at_179) (by decide) (by decide) (pcT := 193) (by decide) ?_
        refine s_iconst S376 (hb hby at_193) (v := (0 : Int32)) rfl (pc' := 194) rfl ?_
        refine s_istore S376 (hb hby at_194) (L' := #[.val (.int k_), .val (.int xa), .val (.int xb), .val (.int xs), .val (.int xm), .val (.int kx), .val (.ref kk), .val (.int (0 : Int32)), .val (.int c359), .val (.int c360), .val (.int (0 : Int32)), .val (.ref b362), .val (.ref b363), .val (.int pk368), .val (.int sm), .val (.ref b370), .val (.int (0 : Int32))]) rfl (pc' := 196) rfl ?_
        refine s_aload S376 (hb hby at_196) rfl rfl (pc' := 198) rfl ?_
        refine s_iload S376 (hb hby at_198) rfl (pc' := 200) rfl ?_
        show Go p e below _ (T376.setTop (mkF m 200 #[.val (.int k_), .val (.int xa), .val (.int xb), .val (.int xs), .val (.int xm), .val (.int kx), .val (.ref kk), .val (.int (0 : Int32)), .val (.int c359), .val (.int c360), .val (.int (0 : Int32)), .val (.ref b362), .val (.ref b363), .val (.int pk368), .val (.int sm), .val (.ref b370), .val (.int (0 : Int32))] [(.int sm), (.ref b370)]))
        refine g_virtual S376 (rmI0 X S376.old Ao375 Fko375 hk3 hkk) (fun _ q => nomatch q) (w46 hw) (w47 hw) (w49 hw) (w48 hw) (w33 hw) (w50 hw) (by decide) (fun _ h => notFace_of_selects h) (hb hby at_200) (by rw [hml]; rfl) b370 Ao375 [(.int sm)] (lenOf pd16 rfl) rfl rfl (Nat.le_of_ble_eq_true rfl) (Nat.le_of_ble_eq_true rfl) (Nat.le_of_ble_eq_true rfl) (Nat.le_of_ble_eq_true rfl) ?_
        intro v377 T377 V377 h377 S377 C377 q377
        obtain ⟨rfl, rfl⟩ := q377
        show Go p e below _ (T377.setTop (mkF m 203 #[.val (.int k_), .val (.int xa), .val (.int xb), .val (.int xs), .val (.int xm), .val (.int kx), .val (.ref kk), .val (.int (0 : Int32)), .val (.int c359), .val (.int c360), .val (.int (0 : Int32)), .val (.ref b362), .val (.ref b363), .val (.int pk368), .val (.int sm), .val (.ref b370), .val (.int (0 : Int32))] [(.int (0 : Int32))]))
        refine s_iload S377 (hb hby at_203) rfl (pc' := 205) rfl ?_
        refine s_icmpN S377 (hb hby at_205) (by decide) (pc' := 208) rfl ?_
        refine s_iconst S377 (hb hby at_208) (v := (1 : Int32)) rfl (pc' := 209) rfl ?_
        refine s_goto S377 (hb hby at_209) (by decide) (pcT := 213) (by decide) ?_
        exact g_iretN S377 (hb hby at_213) hret (by simp) ⟨rfl, trivial⟩
      refine s_iload S366 (hb hby at_130) rfl (pc' := 132) rfl ?_
      refine g_if S366 (hb hby at_132) (by decide) (pcT := 142) (by decide) (fun q => ?_) (fun q => ?_)
      · have hc132_378 : ¬ pk368 = (0 : Int32) := icT_ne q
        show Go p e below _ (T366.setTop (mkF m 142 #[.val (.int k_), .val (.int xa), .val (.int xb), .val (.int xs), .val (.int xm), .val (.int kx), .val (.ref kk), .val (.int (0 : Int32)), .val (.int c359), .val (.int c360), .val (.int (0 : Int32)), .val (.ref b362), .val (.ref b363), .val (.int pk368), .unset, .unset, .unset] []))
        refine s_iload S366 (hb hby at_142) rfl (pc' := 144) rfl ?_
        refine s_iconst S366 (hb hby at_144) (v := (1 : Int32)) rfl (pc' := 145) rfl ?_
        refine g_icmp S366 (hb hby at_145) (by decide) (pcT := 155) (by decide) (fun q => ?_) (fun q => ?_)
        · have hc145_379 : ¬ pk368 = (1 : Int32) := icT_ne q
          show Go p e below _ (T366.setTop (mkF m 155 #[.val (.int k_), .val (.int xa), .val (.int xb), .val (.int xs), .val (.int xm), .val (.int kx), .val (.ref kk), .val (.int (0 : Int32)), .val (.int c359), .val (.int c360), .val (.int (0 : Int32)), .val (.ref b362), .val (.ref b363), .val (.int pk368), .unset, .unset, .unset] []))
          refine s_iloadN S366 (hb hby at_155) rfl (pc' := 156) rfl ?_
          refine g_ldcI S366 (w8 hw) (hb hby at_156) ?_
          show Go p e below _ (T366.setTop (mkF m 158 #[.val (.int k_), .val (.int xa), .val (.int xb), .val (.int xs), .val (.int xm), .val (.int kx), .val (.ref kk), .val (.int (0 : Int32)), .val (.int c359), .val (.int c360), .val (.int (0 : Int32)), .val (.ref b362), .val (.ref b363), .val (.int pk368), .unset, .unset, .unset] [(.int (65535 : Int32)), (.int xs)]))
          refine s_iand S366 (hb hby at_158) (z := (xs &&& (65535 : Int32))) rfl (pc' := 159) rfl ?_
          refine s_i2c S366 (hb hby at_159) (z := ((xs &&& (65535 : Int32)).toUInt32.toUInt16.toUInt32.toInt32)) rfl (pc' := 160) rfl ?_
          generalize esy380 : ((xs &&& (65535 : Int32)).toUInt32.toUInt16.toUInt32.toInt32) = sy380
          refine s_istore S366 (hb hby at_160) (L' := #[.val (.int k_), .val (.int xa), .val (.int xb), .val (.int xs), .val (.int xm), .val (.int kx), .val (.ref kk), .val (.int (0 : Int32)), .val (.int c359), .val (.int c360), .val (.int (0 : Int32)), .val (.ref b362), .val (.ref b363), .val (.int pk368), .val (.int sy380), .unset, .unset]) rfl (pc' := 162) rfl ?_
          exact K369 _
        · have hc145_379 : pk368 = (1 : Int32) := icF_ne q
          show Go p e below _ (T366.setTop (mkF m 148 #[.val (.int k_), .val (.int xa), .val (.int xb), .val (.int xs), .val (.int xm), .val (.int kx), .val (.ref kk), .val (.int (0 : Int32)), .val (.int c359), .val (.int c360), .val (.int (0 : Int32)), .val (.ref b362), .val (.ref b363), .val (.int pk368), .unset, .unset, .unset] []))
          refine s_iload S366 (hb hby at_148) rfl (pc' := 150) rfl ?_
          refine s_istore S366 (hb hby at_150) (L' := #[.val (.int k_), .val (.int xa), .val (.int xb), .val (.int xs), .val (.int xm), .val (.int kx), .val (.ref kk), .val (.int (0 : Int32)), .val (.int c359), .val (.int c360), .val (.int (0 : Int32)), .val (.ref b362), .val (.ref b363), .val (.int pk368), .val (.int c360), .unset, .unset]) rfl (pc' := 152) rfl ?_
          refine s_goto S366 (hb hby at_152) (by decide) (pcT := 162) (by decide) ?_
          exact K369 _
      · have hc132_378 : pk368 = (0 : Int32) := icF_ne q
        show Go p e below _ (T366.setTop (mkF m 135 #[.val (.int k_), .val (.int xa), .val (.int xb), .val (.int xs), .val (.int xm), .val (.int kx), .val (.ref kk), .val (.int (0 : Int32)), .val (.int c359), .val (.int c360), .val (.int (0 : Int32)), .val (.ref b362), .val (.ref b363), .val (.int pk368), .unset, .unset, .unset] []))
        refine s_iload S366 (hb hby at_135) rfl (pc' := 137) rfl ?_
        refine s_istore S366 (hb hby at_137) (L' := #[.val (.int k_), .val (.int xa), .val (.int xb), .val (.int xs), .val (.int xm), .val (.int kx), .val (.ref kk), .val (.int (0 : Int32)), .val (.int c359), .val (.int c360), .val (.int (0 : Int32)), .val (.ref b362), .val (.ref b363), .val (.int pk368), .val (.int c359), .unset, .unset]) rfl (pc' := 139) rfl ?_
        refine s_goto S366 (hb hby at_139) (by decide) (pcT := 162) (by decide) ?_
        exact K369 _
    · skip
      show Go p e below _ (T8.setTop (mkF m 51 #[.val (.int k_), .val (.int xa), .val (.int xb), .val (.int xs), .val (.int xm), .val (.int kx), .val (.ref kk), .val (.int (0 : Int32)), .val (.int c359), .val (.int c360), .val (.int (1 : Int32)), .unset, .unset, .unset, .unset, .unset, .unset] []))
      refine s_iload S8 (hb hby at_51) rfl (pc' := 53) rfl ?_
      refine s_ifY S8 (hb hby at_53) (by decide) (by decide) (pcT := 64) (by decide) ?_
      refine s_iload S8 (hb hby at_64) rfl (pc' := 66) rfl ?_
      refine s_ifY S8 (hb hby at_66) (by decide) (by decide) (pcT := 77) (by decide) ?_
      refine s_iload S8 (hb hby at_77) rfl (pc' := 79) rfl ?_
      refine s_iconst S8 (hb hby at_79) (v := (1 : Int32)) rfl (pc' := 80) rfl ?_
      refine s_icmpN S8 (hb hby at_80) (by decide) (pc' := 83) rfl ?_
      refine s_iconst S8 (hb hby at_83) (v := (1 : Int32)) rfl (pc' := 84) rfl ?_
      refine g_newarr (aty := .char) S8 (w9 hw) (hb hby at_84) (by decide) (cap := 1) (by decide) (by decide) (Nat.le_of_ble_eq_true rfl) (Nat.le_of_ble_eq_true rfl) ?_
      intro T381 h381 b381 kc381 S381 E381 fr381 lt381 na381 sf381 A381
      have V381 : Arv Z h381 b381 kc381 .char (1 : Int32) [(.int (0 : Int32))] (.int (0 : Int32)) := A381 1
      show Go p e below _ (T381.setTop (mkF m 86 #[.val (.int k_), .val (.int xa), .val (.int xb), .val (.int xs), .val (.int xm), .val (.int kx), .val (.ref kk), .val (.int (0 : Int32)), .val (.int c359), .val (.int c360), .val (.int (1 : Int32)), .unset, .unset, .unset, .unset, .unset, .unset] [(.ref b381)]))
      refine s_dup S381 (hb hby at_86) rfl (pc' := 87) rfl ?_
      refine s_iconst S381 (hb hby at_87) (v := (0 : Int32)) rfl (pc' := 88) rfl ?_
      refine s_iload S381 (hb hby at_88) rfl (pc' := 90) rfl ?_
      refine g_castore S381 V381 ⟨by decide, by decide⟩ 0 rfl (Nat.le_of_ble_eq_true rfl) na381 (hb hby at_90) ?_
      intro T382 h382 S382 K382 V382
      rw [narC rc359] at V382
      have V382 : Arv Z h382 b381 kc381 .char (1 : Int32) [(.int c359)] (.int (0 : Int32)) := V382
      show Go p e below _ (T382.setTop (mkF m 91 #[.val (.int k_), .val (.int xa), .val (.int xb), .val (.int xs), .val (.int xm), .val (.int kx), .val (.ref kk), .val (.int (0 : Int32)), .val (.int c359), .val (.int c360), .val (.int (1 : Int32)), .unset, .unset, .unset, .unset, .unset, .unset] [(.ref b381)]))
      refine s_astore S382 (hb hby at_91) rfl (L' := #[.val (.int k_), .val (.int xa), .val (.int xb), .val (.int xs), .val (.int xm), .val (.int kx), .val (.ref kk), .val (.int (0 : Int32)), .val (.int c359), .val (.int c360), .val (.int (1 : Int32)), .val (.ref b381), .unset, .unset, .unset, .unset, .unset]) rfl (pc' := 93) rfl ?_
      refine s_goto S382 (hb hby at_93) (by decide) (pcT := 111) (by decide) ?_
      refine g_new S382 (w10 hw) (w11 hw) (w12 hw) (hb hby at_111) (Nat.le_of_ble_eq_true rfl) (Nat.le_of_ble_eq_true rfl) ?_
      intro T383 h383 b383 S383 E383 fr383 lt383 na383 sf383 A383 D383
      have F384 : Fld Z h383 b383 "java/lang/String" "value" "[B" .null := D383 (Or.inr (w25 hw)) (ty := (.array .byte)) (by decide)
      have F385 : Fld Z h383 b383 "java/lang/String" "coder" "B" (.int (0 : Int32)) := D383 (Or.inr (w26 hw)) (ty := .byte) (by decide)
      show Go p e below _ (T383.setTop (mkF m 114 #[.val (.int k_), .val (.int xa), .val (.int xb), .val (.int xs), .val (.int xm), .val (.int kx), .val (.ref kk), .val (.int (0 : Int32)), .val (.int c359), .val (.int c360), .val (.int (1 : Int32)), .val (.ref b381), .unset, .unset, .unset, .unset, .unset] [(.ref b383)]))
      refine s_dup S383 (hb hby at_114) rfl (pc' := 115) rfl ?_
      refine s_aload S383 (hb hby at_115) rfl rfl (pc' := 117) rfl ?_
      have K386 : ∀ (T387 : State) (V387 : Vm) (h387 : Heap), St p l e room_1 s m #[(.int k_), (.int xa), (.int xb), (.int xs), (.int xm)] below meth c Z a0 EL1 n0 "com/example/converge_to_schema/convergetoschema/schema/TokenIsSymbolPinLaw" T387 V387 h387 4 8 → Ext h382 h387 → StrF Z h387 b383 [c359] → Go p e below (Fini Z EL1 n0 s room_1 (fun v h' => v = some (.int 1) ∧ True)) (T387.setTop (mkF m 120 #[.val (.int k_), .val (.int xa), .val (.int xb), .val (.int xs), .val (.int xm), .val (.int kx), .val (.ref kk), .val (.int (0 : Int32)), .val (.int c359), .val (.int c360), .val (.int (1 : Int32)), .val (.ref b381), .unset, .unset, .unset, .unset, .unset] [(.ref b383)])) := by
        intro T387 V387 h387 S387 EJ387 FJ387
        show Go p e below _ (T387.setTop (mkF m 120 #[.val (.int k_), .val (.int xa), .val (.int xb), .val (.int xs), .val (.int xm), .val (.int kx), .val (.ref kk), .val (.int (0 : Int32)), .val (.int c359), .val (.int c360), .val (.int (1 : Int32)), .val (.ref b381), .unset, .unset, .unset, .unset, .unset] [(.ref b383)]))
        refine s_astore S387 (hb hby at_120) rfl (L' := #[.val (.int k_), .val (.int xa), .val (.int xb), .val (.int xs), .val (.int xm), .val (.int kx), .val (.ref kk), .val (.int (0 : Int32)), .val (.int c359), .val (.int c360), .val (.int (1 : Int32)), .val (.ref b381), .val (.ref b383), .unset, .unset, .unset, .unset]) rfl (pc' := 122) rfl ?_
        refine s_iload S387 (hb hby at_122) rfl (pc' := 124) rfl ?_
        refine s_iconst S387 (hb hby at_124) (v := (2 : Int32)) rfl (pc' := 125) rfl ?_
        refine s_ishr S387 (hb hby at_125) (z := (xm >>> ((2 : Int32) &&& 31))) rfl (pc' := 126) rfl ?_
        refine s_iconst S387 (hb hby at_126) (v := (3 : Int32)) rfl (pc' := 127) rfl ?_
        refine s_iand S387 (hb hby at_127) (z := ((xm >>> ((2 : Int32) &&& 31)) &&& (3 : Int32))) rfl (pc' := 128) rfl ?_
        generalize epk388 : ((xm >>> ((2 : Int32) &&& 31)) &&& (3 : Int32)) = pk388
        refine s_istore S387 (hb hby at_128) (L' := #[.val (.int k_), .val (.int xa), .val (.int xb), .val (.int xs), .val (.int xm), .val (.int kx), .val (.ref kk), .val (.int (0 : Int32)), .val (.int c359), .val (.int c360), .val (.int (1 : Int32)), .val (.ref b381), .val (.ref b383), .val (.int pk388), .unset, .unset, .unset]) rfl (pc' := 130) rfl ?_
        have K389 : ∀ sm : Int32, Go p e below (Fini Z EL1 n0 s room_1 (fun v h' => v = some (.int 1) ∧ True)) (T387.setTop (mkF m 162 #[.val (.int k_), .val (.int xa), .val (.int xb), .val (.int xs), .val (.int xm), .val (.int kx), .val (.ref kk), .val (.int (0 : Int32)), .val (.int c359), .val (.int c360), .val (.int (1 : Int32)), .val (.ref b381), .val (.ref b383), .val (.int pk388), .val (.int sm), .unset, .unset] [])) := by
          intro sm
          show Go p e below _ (T387.setTop (mkF m 162 #[.val (.int k_), .val (.int xa), .val (.int xb), .val (.int xs), .val (.int xm), .val (.int kx), .val (.ref kk), .val (.int (0 : Int32)), .val (.int c359), .val (.int c360), .val (.int (1 : Int32)), .val (.ref b381), .val (.ref b383), .val (.int pk388), .val (.int sm), .unset, .unset] []))
          refine g_new S387 (w31 hw) (w32 hw) (w33 hw) (hb hby at_162) (Nat.le_of_ble_eq_true rfl) (Nat.le_of_ble_eq_true rfl) ?_
          intro T390 h390 b390 S390 E390 fr390 lt390 na390 sf390 A390 D390
          have F391 : Fld Z h390 b390 "com/example/converge_to_schema/convergetoschema/schema/Token" "kind" "Lcom/example/converge_to_schema/convergetoschema/schema/Token$Kind;" .null := D390 (Or.inr (w39 hw)) (ty := (.object "com/example/converge_to_schema/convergetoschema/schema/Token$Kind")) (by decide)
          have F392 : Fld Z h390 b390 "com/example/converge_to_schema/convergetoschema/schema/Token" "text" "Ljava/lang/String;" .null := D390 (Or.inr (w41 hw)) (ty := (.object "java/lang/String")) (by decide)
          have F393 : Fld Z h390 b390 "com/example/converge_to_schema/convergetoschema/schema/Token" "line" "I" (.int (0 : Int32)) := D390 (Or.inr (w43 hw)) (ty := .int) (by decide)
          have F394 : Fld Z h390 b390 "com/example/converge_to_schema/convergetoschema/schema/Token" "column" "I" (.int (0 : Int32)) := D390 (Or.inr (w45 hw)) (ty := .int) (by decide)
          show Go p e below _ (T390.setTop (mkF m 165 #[.val (.int k_), .val (.int xa), .val (.int xb), .val (.int xs), .val (.int xm), .val (.int kx), .val (.ref kk), .val (.int (0 : Int32)), .val (.int c359), .val (.int c360), .val (.int (1 : Int32)), .val (.ref b381), .val (.ref b383), .val (.int pk388), .val (.int sm), .unset, .unset] [(.ref b390)]))
          refine s_dup S390 (hb hby at_165) rfl (pc' := 166) rfl ?_
          refine s_aload S390 (hb hby at_166) rfl rfl (pc' := 168) rfl ?_
          refine s_aload S390 (hb hby at_168) rfl rfl (pc' := 170) rfl ?_
          refine s_iloadN S390 (hb hby at_170) rfl (pc' := 171) rfl ?_
          refine s_iloadN S390 (hb hby at_171) rfl (pc' := 172) rfl ?_
          show Go p e below _ (T390.setTop (mkF m 172 #[.val (.int k_), .val (.int xa), .val (.int xb), .val (.int xs), .val (.int xm), .val (.int kx), .val (.ref kk), .val (.int (0 : Int32)), .val (.int c359), .val (.int c360), .val (.int (1 : Int32)), .val (.ref b381), .val (.ref b383), .val (.int pk388), .val (.int sm), .unset, .unset] [(.int k_), (.int xs), (.ref b383), (.ref kk), (.ref b390), (.ref b390)]))
          refine g_special S390 (rmTK X na390 S390.old A390 F391 F392 F393 F394) (fun _ q => nomatch q) rfl (w34 hw) (w35 hw) (w33 hw) (w36 hw) (by decide) (hb hby at_172) (by rw [hml]; rfl) b390 [(.ref kk), (.ref b383), (.int xs), (.int k_)] (lenOf pd15 rfl) rfl rfl (Nat.le_of_ble_eq_true rfl) (Nat.le_of_ble_eq_true rfl) (Nat.le_of_ble_eq_true rfl) (Nat.le_of_ble_eq_true rfl) ?_
          intro v396 T396 V396 h396 S396 C396 q396
          obtain ⟨rfl, Ko395, Ao395, Fko395, Fto395⟩ := q396
          show Go p e below _ (T396.setTop (mkF m 175 #[.val (.int k_), .val (.int xa), .val (.int xb), .val (.int xs), .val (.int xm), .val (.int kx), .val (.ref kk), .val (.int (0 : Int32)), .val (.int c359), .val (.int c360), .val (.int (1 : Int32)), .val (.ref b381), .val (.ref b383), .val (.int pk388), .val (.int sm), .unset, .unset] [(.ref b390)]))
          refine s_astore S396 (hb hby at_175) rfl (L' := #[.val (.int k_), .val (.int xa), .val (.int xb), .val (.int xs), .val (.int xm), .val (.int kx), .val (.ref kk), .val (.int (0 : Int32)), .val (.int c359), .val (.int c360), .val (.int (1 : Int32)), .val (.ref b381), .val (.ref b383), .val (.int pk388), .val (.int sm), .val (.ref b390), .unset]) rfl (pc' := 177) rfl ?_
          refine s_iload S396 (hb hby at_177) rfl (pc' := 179) rfl ?_
          refine s_ifY S396 (hb hby at_179) (by decide) (by decide) (pcT := 193) (by decide) ?_
          refine s_iconst S396 (hb hby at_193) (v := (0 : Int32)) rfl (pc' := 194) rfl ?_
          refine s_istore S396 (hb hby at_194) (L' := #[.val (.int k_), .val (.int xa), .val (.int xb), .val (.int xs), .val (.int xm), .val (.int kx), .val (.ref kk), .val (.int (0 : Int32)), .val (.int c359), .val (.int c360), .val (.int (1 : Int32)), .val (.ref b381), .val (.ref b383), .val (.int pk388), .val (.int sm), .val (.ref b390), .val (.int (0 : Int32))]) rfl (pc' := 196) rfl ?_
          refine s_aload S396 (hb hby at_196) rfl rfl (pc' := 198) rfl ?_
          refine s_iload S396 (hb hby at_198) rfl (pc' := 200) rfl ?_
          show Go p e below _ (T396.setTop (mkF m 200 #[.val (.int k_), .val (.int xa), .val (.int xb), .val (.int xs), .val (.int xm), .val (.int kx), .val (.ref kk), .val (.int (0 : Int32)), .val (.int c359), .val (.int c360), .val (.int (1 : Int32)), .val (.ref b381), .val (.ref b383), .val (.int pk388), .val (.int sm), .val (.ref b390), .val (.int (0 : Int32))] [(.int sm), (.ref b390)]))
          refine g_virtual S396 (rmI0 X S396.old Ao395 Fko395 hk3 hkk) (fun _ q => nomatch q) (w46 hw) (w47 hw) (w49 hw) (w48 hw) (w33 hw) (w50 hw) (by decide) (fun _ h => notFace_of_selects h) (hb hby at_200) (by rw [hml]; rfl) b390 Ao395 [(.int sm)] (lenOf pd16 rfl) rfl rfl (Nat.le_of_ble_eq_true rfl) (Nat.le_of_ble_eq_true rfl) (Nat.le_of_ble_eq_true rfl) (Nat.le_of_ble_eq_true rfl) ?_
          intro v397 T397 V397 h397 S397 C397 q397
          obtain ⟨rfl, rfl⟩ := q397
          show Go p e below _ (T397.setTop (mkF m 203 #[.val (.int k_), .val (.int xa), .val (.int xb), .val (.int xs), .val (.int xm), .val (.int kx), .val (.ref kk), .val (.int (0 : Int32)), .val (.int c359), .val (.int c360), .val (.int (1 : Int32)), .val (.ref b381), .val (.ref b383), .val (.int pk388), .val (.int sm), .val (.ref b390), .val (.int (0 : Int32))] [(.int (0 : Int32))]))
          refine s_iload S397 (hb hby at_203) rfl (pc' := 205) rfl ?_
          refine s_icmpN S397 (hb hby at_205) (by decide) (pc' := 208) rfl ?_
          refine s_iconst S397 (hb hby at_208) (v := (1 : Int32)) rfl (pc' := 209) rfl ?_
          refine s_goto S397 (hb hby at_209) (by decide) (pcT := 213) (by decide) ?_
          exact g_iretN S397 (hb hby at_213) hret (by simp) ⟨rfl, trivial⟩
        refine s_iload S387 (hb hby at_130) rfl (pc' := 132) rfl ?_
        refine g_if S387 (hb hby at_132) (by decide) (pcT := 142) (by decide) (fun q => ?_) (fun q => ?_)
        · have hc132_398 : ¬ pk388 = (0 : Int32) := icT_ne q
          show Go p e below _ (T387.setTop (mkF m 142 #[.val (.int k_), .val (.int xa), .val (.int xb), .val (.int xs), .val (.int xm), .val (.int kx), .val (.ref kk), .val (.int (0 : Int32)), .val (.int c359), .val (.int c360), .val (.int (1 : Int32)), .val (.ref b381), .val (.ref b383), .val (.int pk388), .unset, .unset, .unset] []))
          refine s_iload S387 (hb hby at_142) rfl (pc' := 144) rfl ?_
          refine s_iconst S387 (hb hby at_144) (v := (1 : Int32)) rfl (pc' := 145) rfl ?_
          refine g_icmp S387 (hb hby at_145) (by decide) (pcT := 155) (by decide) (fun q => ?_) (fun q => ?_)
          · have hc145_399 : ¬ pk388 = (1 : Int32) := icT_ne q
            show Go p e below _ (T387.setTop (mkF m 155 #[.val (.int k_), .val (.int xa), .val (.int xb), .val (.int xs), .val (.int xm), .val (.int kx), .val (.ref kk), .val (.int (0 : Int32)), .val (.int c359), .val (.int c360), .val (.int (1 : Int32)), .val (.ref b381), .val (.ref b383), .val (.int pk388), .unset, .unset, .unset] []))
            refine s_iloadN S387 (hb hby at_155) rfl (pc' := 156) rfl ?_
            refine g_ldcI S387 (w8 hw) (hb hby at_156) ?_
            show Go p e below _ (T387.setTop (mkF m 158 #[.val (.int k_), .val (.int xa), .val (.int xb), .val (.int xs), .val (.int xm), .val (.int kx), .val (.ref kk), .val (.int (0 : Int32)), .val (.int c359), .val (.int c360), .val (.int (1 : Int32)), .val (.ref b381), .val (.ref b383), .val (.int pk388), .unset, .unset, .unset] [(.int (65535 : Int32)), (.int xs)]))
            refine s_iand S387 (hb hby at_158) (z := (xs &&& (65535 : Int32))) rfl (pc' := 159) rfl ?_
            refine s_i2c S387 (hb hby at_159) (z := ((xs &&& (65535 : Int32)).toUInt32.toUInt16.toUInt32.toInt32)) rfl (pc' := 160) rfl ?_
            generalize esy400 : ((xs &&& (65535 : Int32)).toUInt32.toUInt16.toUInt32.toInt32) = sy400
            refine s_istore S387 (hb hby at_160) (L' := #[.val (.int k_), .val (.int xa), .val (.int xb), .val (.int xs), .val (.int xm), .val (.int kx), .val (.ref kk), .val (.int (0 : Int32)), .val (.int c359), .val (.int c360), .val (.int (1 : Int32)), .val (.ref b381), .val (.ref b383), .val (.int pk388), .val (.int sy400), .unset, .unset]) rfl (pc' := 162) rfl ?_
            exact K389 _
          · have hc145_399 : pk388 = (1 : Int32) := icF_ne q
            show Go p e below _ (T387.setTop (mkF m 148 #[.val (.int k_), .val (.int xa), .val (.int xb), .val (.int xs), .val (.int xm), .val (.int kx), .val (.ref kk), .val (.int (0 : Int32)), .val (.int c359), .val (.int c360), .val (.int (1 : Int32)), .val (.ref b381), .val (.ref b383), .val (.int pk388), .unset, .unset, .unset] []))
            refine s_iload S387 (hb hby at_148) rfl (pc' := 150) rfl ?_
            refine s_istore S387 (hb hby at_150) (L' := #[.val (.int k_), .val (.int xa), .val (.int xb), .val (.int xs), .val (.int xm), .val (.int kx), .val (.ref kk), .val (.int (0 : Int32)), .val (.int c359), .val (.int c360), .val (.int (1 : Int32)), .val (.ref b381), .val (.ref b383), .val (.int pk388), .val (.int c360), .unset, .unset]) rfl (pc' := 152) rfl ?_
            refine s_goto S387 (hb hby at_152) (by decide) (pcT := 162) (by decide) ?_
            exact K389 _
        · have hc132_398 : pk388 = (0 : Int32) := icF_ne q
          show Go p e below _ (T387.setTop (mkF m 135 #[.val (.int k_), .val (.int xa), .val (.int xb), .val (.int xs), .val (.int xm), .val (.int kx), .val (.ref kk), .val (.int (0 : Int32)), .val (.int c359), .val (.int c360), .val (.int (1 : Int32)), .val (.ref b381), .val (.ref b383), .val (.int pk388), .unset, .unset, .unset] []))
          refine s_iload S387 (hb hby at_135) rfl (pc' := 137) rfl ?_
          refine s_istore S387 (hb hby at_137) (L' := #[.val (.int k_), .val (.int xa), .val (.int xb), .val (.int xs), .val (.int xm), .val (.int kx), .val (.ref kk), .val (.int (0 : Int32)), .val (.int c359), .val (.int c360), .val (.int (1 : Int32)), .val (.ref b381), .val (.ref b383), .val (.int pk388), .val (.int c359), .unset, .unset]) rfl (pc' := 139) rfl ?_
          refine s_goto S387 (hb hby at_139) (by decide) (pcT := 162) (by decide) ?_
          exact K389 _
      rcases Classical.em ((255 : Int32) < c359) with hwd | hnw
      · skip
        show Go p e below _ (T383.setTop (mkF m 117 #[.val (.int k_), .val (.int xa), .val (.int xb), .val (.int xs), .val (.int xm), .val (.int kx), .val (.ref kk), .val (.int (0 : Int32)), .val (.int c359), .val (.int c360), .val (.int (1 : Int32)), .val (.ref b381), .unset, .unset, .unset, .unset, .unset] [(.ref b381), (.ref b383), (.ref b383)]))
        have V401 := V382.ext E383
        refine g_special S383 (rmW11 X na383 S383.old A383 F384 F385 V401 rc359 hwd) (sf1 (A383).lt sf383) rfl (w13 hw) (w14 hw) (w12 hw) (w15 hw) (by decide) (hb hby at_117) (by rw [hml]; rfl) b383 [.ref b381] (lenOf pd14 rfl) rfl rfl (Nat.le_of_ble_eq_true rfl) (Nat.le_of_ble_eq_true rfl) (Nat.le_of_ble_eq_true rfl) (Nat.le_of_ble_eq_true rfl) ?_
        intro v402 T402 V402 h402 S402 C402 q402
        obtain ⟨rfl, K402, F402⟩ := q402
        show Go p e below _ (T402.setTop (mkF m 120 #[.val (.int k_), .val (.int xa), .val (.int xb), .val (.int xs), .val (.int xm), .val (.int kx), .val (.ref kk), .val (.int (0 : Int32)), .val (.int c359), .val (.int c360), .val (.int (1 : Int32)), .val (.ref b381), .unset, .unset, .unset, .unset, .unset] [(.ref b383)]))
        have X403 : Ext h382 h402 := ext_keep1 E383 K402 fr383
        exact K386 _ _ _ (S402.mono (Nat.le_of_ble_eq_true rfl) (Nat.le_of_ble_eq_true rfl)) X403 F402
      · skip
        show Go p e below _ (T383.setTop (mkF m 117 #[.val (.int k_), .val (.int xa), .val (.int xb), .val (.int xs), .val (.int xm), .val (.int kx), .val (.ref kk), .val (.int (0 : Int32)), .val (.int c359), .val (.int c360), .val (.int (1 : Int32)), .val (.ref b381), .unset, .unset, .unset, .unset, .unset] [(.ref b381), (.ref b383), (.ref b383)]))
        have r8c359 : ¬ c359 < 0 ∧ ¬ (255 : Int32) < c359 := ⟨rc359.1, fun q => hnw (q)⟩
        show Go p e below _ (T383.setTop (mkF m 117 #[.val (.int k_), .val (.int xa), .val (.int xb), .val (.int xs), .val (.int xm), .val (.int kx), .val (.ref kk), .val (.int (0 : Int32)), .val (.int c359), .val (.int c360), .val (.int (1 : Int32)), .val (.ref b381), .unset, .unset, .unset, .unset, .unset] [(.ref b381), (.ref b383), (.ref b383)]))
        have V405 := V382.ext E383
        refine g_newStr S383 X (cs := [c359]) (Nat.le_of_ble_eq_true rfl) (Nat.le_of_ble_eq_true rfl) rfl na383 sf383 A383 F384 F385 V405 (faS r8c359 fa0) (w13 hw) (hb hby at_117) (by rw [hml]; rfl) (Nat.le_of_ble_eq_true rfl) (Nat.le_of_ble_eq_true rfl) (Nat.le_of_ble_eq_true rfl) (Nat.le_of_ble_eq_true rfl) ?_
        intro T404 h404 S404 K404 F404
        show Go p e below _ (T404.setTop (mkF m 120 #[.val (.int k_), .val (.int xa), .val (.int xb), .val (.int xs), .val (.int xm), .val (.int kx), .val (.ref kk), .val (.int (0 : Int32)), .val (.int c359), .val (.int c360), .val (.int (1 : Int32)), .val (.ref b381), .unset, .unset, .unset, .unset, .unset] [(.ref b383)]))
        have X406 : Ext h382 h404 := ext_keep1 E383 K404 fr383
        exact K386 _ _ _ (S404.mono (Nat.le_of_ble_eq_true rfl) (Nat.le_of_ble_eq_true rfl)) X406 F404
    · skip
      show Go p e below _ (T8.setTop (mkF m 51 #[.val (.int k_), .val (.int xa), .val (.int xb), .val (.int xs), .val (.int xm), .val (.int kx), .val (.ref kk), .val (.int (0 : Int32)), .val (.int c359), .val (.int c360), .val (.int (2 : Int32)), .unset, .unset, .unset, .unset, .unset, .unset] []))
      refine s_iload S8 (hb hby at_51) rfl (pc' := 53) rfl ?_
      refine s_ifY S8 (hb hby at_53) (by decide) (by decide) (pcT := 64) (by decide) ?_
      refine s_iload S8 (hb hby at_64) rfl (pc' := 66) rfl ?_
      refine s_ifY S8 (hb hby at_66) (by decide) (by decide) (pcT := 77) (by decide) ?_
      refine s_iload S8 (hb hby at_77) rfl (pc' := 79) rfl ?_
      refine s_iconst S8 (hb hby at_79) (v := (1 : Int32)) rfl (pc' := 80) rfl ?_
      refine s_icmpY S8 (hb hby at_80) (by decide) (by decide) (pcT := 96) (by decide) ?_
      refine s_iconst S8 (hb hby at_96) (v := (2 : Int32)) rfl (pc' := 97) rfl ?_
      refine g_newarr (aty := .char) S8 (w9 hw) (hb hby at_97) (by decide) (cap := 2) (by decide) (by decide) (Nat.le_of_ble_eq_true rfl) (Nat.le_of_ble_eq_true rfl) ?_
      intro T407 h407 b407 kc407 S407 E407 fr407 lt407 na407 sf407 A407
      have V407 : Arv Z h407 b407 kc407 .char (2 : Int32) [(.int (0 : Int32)), (.int (0 : Int32))] (.int (0 : Int32)) := A407 2
      show Go p e below _ (T407.setTop (mkF m 99 #[.val (.int k_), .val (.int xa), .val (.int xb), .val (.int xs), .val (.int xm), .val (.int kx), .val (.ref kk), .val (.int (0 : Int32)), .val (.int c359), .val (.int c360), .val (.int (2 : Int32)), .unset, .unset, .unset, .unset, .unset, .unset] [(.ref b407)]))
      refine s_dup S407 (hb hby at_99) rfl (pc' := 100) rfl ?_
      refine s_iconst S407 (hb hby at_100) (v := (0 : Int32)) rfl (pc' := 101) rfl ?_
      refine s_iload S407 (hb hby at_101) rfl (pc' := 103) rfl ?_
      refine g_castore S407 V407 ⟨by decide, by decide⟩ 0 rfl (Nat.le_of_ble_eq_true rfl) na407 (hb hby at_103) ?_
      intro T408 h408 S408 K408 V408
      rw [narC rc359] at V408
      have V408 : Arv Z h408 b407 kc407 .char (2 : Int32) [(.int c359), (.int (0 : Int32))] (.int (0 : Int32)) := V408
      show Go p e below _ (T408.setTop (mkF m 104 #[.val (.int k_), .val (.int xa), .val (.int xb), .val (.int xs), .val (.int xm), .val (.int kx), .val (.ref kk), .val (.int (0 : Int32)), .val (.int c359), .val (.int c360), .val (.int (2 : Int32)), .unset, .unset, .unset, .unset, .unset, .unset] [(.ref b407)]))
      refine s_dup S408 (hb hby at_104) rfl (pc' := 105) rfl ?_
      refine s_iconst S408 (hb hby at_105) (v := (1 : Int32)) rfl (pc' := 106) rfl ?_
      refine s_iload S408 (hb hby at_106) rfl (pc' := 108) rfl ?_
      refine g_castore S408 V408 ⟨by decide, by decide⟩ 1 rfl (Nat.le_of_ble_eq_true rfl) na407 (hb hby at_108) ?_
      intro T409 h409 S409 K409 V409
      rw [narC rc360] at V409
      have V409 : Arv Z h409 b407 kc407 .char (2 : Int32) [(.int c359), (.int c360)] (.int (0 : Int32)) := V409
      show Go p e below _ (T409.setTop (mkF m 109 #[.val (.int k_), .val (.int xa), .val (.int xb), .val (.int xs), .val (.int xm), .val (.int kx), .val (.ref kk), .val (.int (0 : Int32)), .val (.int c359), .val (.int c360), .val (.int (2 : Int32)), .unset, .unset, .unset, .unset, .unset, .unset] [(.ref b407)]))
      refine s_astore S409 (hb hby at_109) rfl (L' := #[.val (.int k_), .val (.int xa), .val (.int xb), .val (.int xs), .val (.int xm), .val (.int kx), .val (.ref kk), .val (.int (0 : Int32)), .val (.int c359), .val (.int c360), .val (.int (2 : Int32)), .val (.ref b407), .unset, .unset, .unset, .unset, .unset]) rfl (pc' := 111) rfl ?_
      refine g_new S409 (w10 hw) (w11 hw) (w12 hw) (hb hby at_111) (Nat.le_of_ble_eq_true rfl) (Nat.le_of_ble_eq_true rfl) ?_
      intro T410 h410 b410 S410 E410 fr410 lt410 na410 sf410 A410 D410
      have F411 : Fld Z h410 b410 "java/lang/String" "value" "[B" .null := D410 (Or.inr (w25 hw)) (ty := (.array .byte)) (by decide)
      have F412 : Fld Z h410 b410 "java/lang/String" "coder" "B" (.int (0 : Int32)) := D410 (Or.inr (w26 hw)) (ty := .byte) (by decide)
      show Go p e below _ (T410.setTop (mkF m 114 #[.val (.int k_), .val (.int xa), .val (.int xb), .val (.int xs), .val (.int xm), .val (.int kx), .val (.ref kk), .val (.int (0 : Int32)), .val (.int c359), .val (.int c360), .val (.int (2 : Int32)), .val (.ref b407), .unset, .unset, .unset, .unset, .unset] [(.ref b410)]))
      refine s_dup S410 (hb hby at_114) rfl (pc' := 115) rfl ?_
      refine s_aload S410 (hb hby at_115) rfl rfl (pc' := 117) rfl ?_
      have K413 : ∀ (T414 : State) (V414 : Vm) (h414 : Heap), St p l e room_1 s m #[(.int k_), (.int xa), (.int xb), (.int xs), (.int xm)] below meth c Z a0 EL1 n0 "com/example/converge_to_schema/convergetoschema/schema/TokenIsSymbolPinLaw" T414 V414 h414 4 12 → Ext h409 h414 → StrF Z h414 b410 [c359, c360] → Go p e below (Fini Z EL1 n0 s room_1 (fun v h' => v = some (.int 1) ∧ True)) (T414.setTop (mkF m 120 #[.val (.int k_), .val (.int xa), .val (.int xb), .val (.int xs), .val (.int xm), .val (.int kx), .val (.ref kk), .val (.int (0 : Int32)), .val (.int c359), .val (.int c360), .val (.int (2 : Int32)), .val (.ref b407), .unset, .unset, .unset, .unset, .unset] [(.ref b410)])) := by
        intro T414 V414 h414 S414 EJ414 FJ414
        show Go p e below _ (T414.setTop (mkF m 120 #[.val (.int k_), .val (.int xa), .val (.int xb), .val (.int xs), .val (.int xm), .val (.int kx), .val (.ref kk), .val (.int (0 : Int32)), .val (.int c359), .val (.int c360), .val (.int (2 : Int32)), .val (.ref b407), .unset, .unset, .unset, .unset, .unset] [(.ref b410)]))
        refine s_astore S414 (hb hby at_120) rfl (L' := #[.val (.int k_), .val (.int xa), .val (.int xb), .val (.int xs), .val (.int xm), .val (.int kx), .val (.ref kk), .val (.int (0 : Int32)), .val (.int c359), .val (.int c360), .val (.int (2 : Int32)), .val (.ref b407), .val (.ref b410), .unset, .unset, .unset, .unset]) rfl (pc' := 122) rfl ?_
        refine s_iload S414 (hb hby at_122) rfl (pc' := 124) rfl ?_
        refine s_iconst S414 (hb hby at_124) (v := (2 : Int32)) rfl (pc' := 125) rfl ?_
        refine s_ishr S414 (hb hby at_125) (z := (xm >>> ((2 : Int32) &&& 31))) rfl (pc' := 126) rfl ?_
        refine s_iconst S414 (hb hby at_126) (v := (3 : Int32)) rfl (pc' := 127) rfl ?_
        refine s_iand S414 (hb hby at_127) (z := ((xm >>> ((2 : Int32) &&& 31)) &&& (3 : Int32))) rfl (pc' := 128) rfl ?_
        generalize epk415 : ((xm >>> ((2 : Int32) &&& 31)) &&& (3 : Int32)) = pk415
        refine s_istore S414 (hb hby at_128) (L' := #[.val (.int k_), .val (.int xa), .val (.int xb), .val (.int xs), .val (.int xm), .val (.int kx), .val (.ref kk), .val (.int (0 : Int32)), .val (.int c359), .val (.int c360), .val (.int (2 : Int32)), .val (.ref b407), .val (.ref b410), .val (.int pk415), .unset, .unset, .unset]) rfl (pc' := 130) rfl ?_
        have K416 : ∀ sm : Int32, Go p e below (Fini Z EL1 n0 s room_1 (fun v h' => v = some (.int 1) ∧ True)) (T414.setTop (mkF m 162 #[.val (.int k_), .val (.int xa), .val (.int xb), .val (.int xs), .val (.int xm), .val (.int kx), .val (.ref kk), .val (.int (0 : Int32)), .val (.int c359), .val (.int c360), .val (.int (2 : Int32)), .val (.ref b407), .val (.ref b410), .val (.int pk415), .val (.int sm), .unset, .unset] [])) := by
          intro sm
          show Go p e below _ (T414.setTop (mkF m 162 #[.val (.int k_), .val (.int xa), .val (.int xb), .val (.int xs), .val (.int xm), .val (.int kx), .val (.ref kk), .val (.int (0 : Int32)), .val (.int c359), .val (.int c360), .val (.int (2 : Int32)), .val (.ref b407), .val (.ref b410), .val (.int pk415), .val (.int sm), .unset, .unset] []))
          refine g_new S414 (w31 hw) (w32 hw) (w33 hw) (hb hby at_162) (Nat.le_of_ble_eq_true rfl) (Nat.le_of_ble_eq_true rfl) ?_
          intro T417 h417 b417 S417 E417 fr417 lt417 na417 sf417 A417 D417
          have F418 : Fld Z h417 b417 "com/example/converge_to_schema/convergetoschema/schema/Token" "kind" "Lcom/example/converge_to_schema/convergetoschema/schema/Token$Kind;" .null := D417 (Or.inr (w39 hw)) (ty := (.object "com/example/converge_to_schema/convergetoschema/schema/Token$Kind")) (by decide)
          have F419 : Fld Z h417 b417 "com/example/converge_to_schema/convergetoschema/schema/Token" "text" "Ljava/lang/String;" .null := D417 (Or.inr (w41 hw)) (ty := (.object "java/lang/String")) (by decide)
          have F420 : Fld Z h417 b417 "com/example/converge_to_schema/convergetoschema/schema/Token" "line" "I" (.int (0 : Int32)) := D417 (Or.inr (w43 hw)) (ty := .int) (by decide)
          have F421 : Fld Z h417 b417 "com/example/converge_to_schema/convergetoschema/schema/Token" "column" "I" (.int (0 : Int32)) := D417 (Or.inr (w45 hw)) (ty := .int) (by decide)
          show Go p e below _ (T417.setTop (mkF m 165 #[.val (.int k_), .val (.int xa), .val (.int xb), .val (.int xs), .val (.int xm), .val (.int kx), .val (.ref kk), .val (.int (0 : Int32)), .val (.int c359), .val (.int c360), .val (.int (2 : Int32)), .val (.ref b407), .val (.ref b410), .val (.int pk415), .val (.int sm), .unset, .unset] [(.ref b417)]))
          refine s_dup S417 (hb hby at_165) rfl (pc' := 166) rfl ?_
          refine s_aload S417 (hb hby at_166) rfl rfl (pc' := 168) rfl ?_
          refine s_aload S417 (hb hby at_168) rfl rfl (pc' := 170) rfl ?_
          refine s_iloadN S417 (hb hby at_170) rfl (pc' := 171) rfl ?_
          refine s_iloadN S417 (hb hby at_171) rfl (pc' := 172) rfl ?_
          show Go p e below _ (T417.setTop (mkF m 172 #[.val (.int k_), .val (.int xa), .val (.int xb), .val (.int xs), .val (.int xm), .val (.int kx), .val (.ref kk), .val (.int (0 : Int32)), .val (.int c359), .val (.int c360), .val (.int (2 : Int32)), .val (.ref b407), .val (.ref b410), .val (.int pk415), .val (.int sm), .unset, .unset] [(.int k_), (.int xs), (.ref b410), (.ref kk), (.ref b417), (.ref b417)]))
          refine g_special S417 (rmTK X na417 S417.old A417 F418 F419 F420 F421) (fun _ q => nomatch q) rfl (w34 hw) (w35 hw) (w33 hw) (w36 hw) (by decide) (hb hby at_172) (by rw [hml]; rfl) b417 [(.ref kk), (.ref b410), (.int xs), (.int k_)] (lenOf pd15 rfl) rfl rfl (Nat.le_of_ble_eq_true rfl) (Nat.le_of_ble_eq_true rfl) (Nat.le_of_ble_eq_true rfl) (Nat.le_of_ble_eq_true rfl) ?_
          intro v423 T423 V423 h423 S423 C423 q423
          obtain ⟨rfl, Ko422, Ao422, Fko422, Fto422⟩ := q423
          show Go p e below _ (T423.setTop (mkF m 175 #[.val (.int k_), .val (.int xa), .val (.int xb), .val (.int xs), .val (.int xm), .val (.int kx), .val (.ref kk), .val (.int (0 : Int32)), .val (.int c359), .val (.int c360), .val (.int (2 : Int32)), .val (.ref b407), .val (.ref b410), .val (.int pk415), .val (.int sm), .unset, .unset] [(.ref b417)]))
          refine s_astore S423 (hb hby at_175) rfl (L' := #[.val (.int k_), .val (.int xa), .val (.int xb), .val (.int xs), .val (.int xm), .val (.int kx), .val (.ref kk), .val (.int (0 : Int32)), .val (.int c359), .val (.int c360), .val (.int (2 : Int32)), .val (.ref b407), .val (.ref b410), .val (.int pk415), .val (.int sm), .val (.ref b417), .unset]) rfl (pc' := 177) rfl ?_
          refine s_iload S423 (hb hby at_177) rfl (pc' := 179) rfl ?_
          refine s_ifY S423 (hb hby at_179) (by decide) (by decide) (pcT := 193) (by decide) ?_
          refine s_iconst S423 (hb hby at_193) (v := (0 : Int32)) rfl (pc' := 194) rfl ?_
          refine s_istore S423 (hb hby at_194) (L' := #[.val (.int k_), .val (.int xa), .val (.int xb), .val (.int xs), .val (.int xm), .val (.int kx), .val (.ref kk), .val (.int (0 : Int32)), .val (.int c359), .val (.int c360), .val (.int (2 : Int32)), .val (.ref b407), .val (.ref b410), .val (.int pk415), .val (.int sm), .val (.ref b417), .val (.int (0 : Int32))]) rfl (pc' := 196) rfl ?_
          refine s_aload S423 (hb hby at_196) rfl rfl (pc' := 198) rfl ?_
          refine s_iload S423 (hb hby at_198) rfl (pc' := 200) rfl ?_
          show Go p e below _ (T423.setTop (mkF m 200 #[.val (.int k_), .val (.int xa), .val (.int xb), .val (.int xs), .val (.int xm), .val (.int kx), .val (.ref kk), .val (.int (0 : Int32)), .val (.int c359), .val (.int c360), .val (.int (2 : Int32)), .val (.ref b407), .val (.ref b410), .val (.int pk415), .val (.int sm), .val (.ref b417), .val (.int (0 : Int32))] [(.int sm), (.ref b417)]))
          refine g_virtual S423 (rmI0 X S423.old Ao422 Fko422 hk3 hkk) (fun _ q => nomatch q) (w46 hw) (w47 hw) (w49 hw) (w48 hw) (w33 hw) (w50 hw) (by decide) (fun _ h => notFace_of_selects h) (hb hby at_200) (by rw [hml]; rfl) b417 Ao422 [(.int sm)] (lenOf pd16 rfl) rfl rfl (Nat.le_of_ble_eq_true rfl) (Nat.le_of_ble_eq_true rfl) (Nat.le_of_ble_eq_true rfl) (Nat.le_of_ble_eq_true rfl) ?_
          intro v424 T424 V424 h424 S424 C424 q424
          obtain ⟨rfl, rfl⟩ := q424
          show Go p e below _ (T424.setTop (mkF m 203 #[.val (.int k_), .val (.int xa), .val (.int xb), .val (.int xs), .val (.int xm), .val (.int kx), .val (.ref kk), .val (.int (0 : Int32)), .val (.int c359), .val (.int c360), .val (.int (2 : Int32)), .val (.ref b407), .val (.ref b410), .val (.int pk415), .val (.int sm), .val (.ref b417), .val (.int (0 : Int32))] [(.int (0 : Int32))]))
          refine s_iload S424 (hb hby at_203) rfl (pc' := 205) rfl ?_
          refine s_icmpN S424 (hb hby at_205) (by decide) (pc' := 208) rfl ?_
          refine s_iconst S424 (hb hby at_208) (v := (1 : Int32)) rfl (pc' := 209) rfl ?_
          refine s_goto S424 (hb hby at_209) (by decide) (pcT := 213) (by decide) ?_
          exact g_iretN S424 (hb hby at_213) hret (by simp) ⟨rfl, trivial⟩
        refine s_iload S414 (hb hby at_130) rfl (pc' := 132) rfl ?_
        refine g_if S414 (hb hby at_132) (by decide) (pcT := 142) (by decide) (fun q => ?_) (fun q => ?_)
        · have hc132_425 : ¬ pk415 = (0 : Int32) := icT_ne q
          show Go p e below _ (T414.setTop (mkF m 142 #[.val (.int k_), .val (.int xa), .val (.int xb), .val (.int xs), .val (.int xm), .val (.int kx), .val (.ref kk), .val (.int (0 : Int32)), .val (.int c359), .val (.int c360), .val (.int (2 : Int32)), .val (.ref b407), .val (.ref b410), .val (.int pk415), .unset, .unset, .unset] []))
          refine s_iload S414 (hb hby at_142) rfl (pc' := 144) rfl ?_
          refine s_iconst S414 (hb hby at_144) (v := (1 : Int32)) rfl (pc' := 145) rfl ?_
          refine g_icmp S414 (hb hby at_145) (by decide) (pcT := 155) (by decide) (fun q => ?_) (fun q => ?_)
          · have hc145_426 : ¬ pk415 = (1 : Int32) := icT_ne q
            show Go p e below _ (T414.setTop (mkF m 155 #[.val (.int k_), .val (.int xa), .val (.int xb), .val (.int xs), .val (.int xm), .val (.int kx), .val (.ref kk), .val (.int (0 : Int32)), .val (.int c359), .val (.int c360), .val (.int (2 : Int32)), .val (.ref b407), .val (.ref b410), .val (.int pk415), .unset, .unset, .unset] []))
            refine s_iloadN S414 (hb hby at_155) rfl (pc' := 156) rfl ?_
            refine g_ldcI S414 (w8 hw) (hb hby at_156) ?_
            show Go p e below _ (T414.setTop (mkF m 158 #[.val (.int k_), .val (.int xa), .val (.int xb), .val (.int xs), .val (.int xm), .val (.int kx), .val (.ref kk), .val (.int (0 : Int32)), .val (.int c359), .val (.int c360), .val (.int (2 : Int32)), .val (.ref b407), .val (.ref b410), .val (.int pk415), .unset, .unset, .unset] [(.int (65535 : Int32)), (.int xs)]))
            refine s_iand S414 (hb hby at_158) (z := (xs &&& (65535 : Int32))) rfl (pc' := 159) rfl ?_
            refine s_i2c S414 (hb hby at_159) (z := ((xs &&& (65535 : Int32)).toUInt32.toUInt16.toUInt32.toInt32)) rfl (pc' := 160) rfl ?_
            generalize esy427 : ((xs &&& (65535 : Int32)).toUInt32.toUInt16.toUInt32.toInt32) = sy427
            refine s_istore S414 (hb hby at_160) (L' := #[.val (.int k_), .val (.int xa), .val (.int xb), .val (.int xs), .val (.int xm), .val (.int kx), .val (.ref kk), .val (.int (0 : Int32)), .val (.int c359), .val (.int c360), .val (.int (2 : Int32)), .val (.ref b407), .val (.ref b410), .val (.int pk415), .val (.int sy427), .unset, .unset]) rfl (pc' := 162) rfl ?_
            exact K416 _
          · have hc145_426 : pk415 = (1 : Int32) := icF_ne q
            show Go p e below _ (T414.setTop (mkF m 148 #[.val (.int k_), .val (.int xa), .val (.int xb), .val (.int xs), .val (.int xm), .val (.int kx), .val (.ref kk), .val (.int (0 : Int32)), .val (.int c359), .val (.int c360), .val (.int (2 : Int32)), .val (.ref b407), .val (.ref b410), .val (.int pk415), .unset, .unset, .unset] []))
            refine s_iload S414 (hb hby at_148) rfl (pc' := 150) rfl ?_
            refine s_istore S414 (hb hby at_150) (L' := #[.val (.int k_), .val (.int xa), .val (.int xb), .val (.int xs), .val (.int xm), .val (.int kx), .val (.ref kk), .val (.int (0 : Int32)), .val (.int c359), .val (.int c360), .val (.int (2 : Int32)), .val (.ref b407), .val (.ref b410), .val (.int pk415), .val (.int c360), .unset, .unset]) rfl (pc' := 152) rfl ?_
            refine s_goto S414 (hb hby at_152) (by decide) (pcT := 162) (by decide) ?_
            exact K416 _
        · have hc132_425 : pk415 = (0 : Int32) := icF_ne q
          show Go p e below _ (T414.setTop (mkF m 135 #[.val (.int k_), .val (.int xa), .val (.int xb), .val (.int xs), .val (.int xm), .val (.int kx), .val (.ref kk), .val (.int (0 : Int32)), .val (.int c359), .val (.int c360), .val (.int (2 : Int32)), .val (.ref b407), .val (.ref b410), .val (.int pk415), .unset, .unset, .unset] []))
          refine s_iload S414 (hb hby at_135) rfl (pc' := 137) rfl ?_
          refine s_istore S414 (hb hby at_137) (L' := #[.val (.int k_), .val (.int xa), .val (.int xb), .val (.int xs), .val (.int xm), .val (.int kx), .val (.ref kk), .val (.int (0 : Int32)), .val (.int c359), .val (.int c360), .val (.int (2 : Int32)), .val (.ref b407), .val (.ref b410), .val (.int pk415), .val (.int c359), .unset, .unset]) rfl (pc' := 139) rfl ?_
          refine s_goto S414 (hb hby at_139) (by decide) (pcT := 162) (by decide) ?_
          exact K416 _
      rcases Classical.em ((255 : Int32) < c359 ∨ (255 : Int32) < c360) with hwd | hnw
      · skip
        show Go p e below _ (T410.setTop (mkF m 117 #[.val (.int k_), .val (.int xa), .val (.int xb), .val (.int xs), .val (.int xm), .val (.int kx), .val (.ref kk), .val (.int (0 : Int32)), .val (.int c359), .val (.int c360), .val (.int (2 : Int32)), .val (.ref b407), .unset, .unset, .unset, .unset, .unset] [(.ref b407), (.ref b410), (.ref b410)]))
        have V428 := V409.ext E410
        refine g_special S410 (rmW12 X na410 S410.old A410 F411 F412 V428 rc359 rc360 hwd) (sf1 (A410).lt sf410) rfl (w13 hw) (w14 hw) (w12 hw) (w15 hw) (by decide) (hb hby at_117) (by rw [hml]; rfl) b410 [.ref b407] (lenOf pd14 rfl) rfl rfl (Nat.le_of_ble_eq_true rfl) (Nat.le_of_ble_eq_true rfl) (Nat.le_of_ble_eq_true rfl) (Nat.le_of_ble_eq_true rfl) ?_
        intro v429 T429 V429 h429 S429 C429 q429
        obtain ⟨rfl, K429, F429⟩ := q429
        show Go p e below _ (T429.setTop (mkF m 120 #[.val (.int k_), .val (.int xa), .val (.int xb), .val (.int xs), .val (.int xm), .val (.int kx), .val (.ref kk), .val (.int (0 : Int32)), .val (.int c359), .val (.int c360), .val (.int (2 : Int32)), .val (.ref b407), .unset, .unset, .unset, .unset, .unset] [(.ref b410)]))
        have X430 : Ext h409 h429 := ext_keep1 E410 K429 fr410
        exact K413 _ _ _ (S429.mono (Nat.le_of_ble_eq_true rfl) (Nat.le_of_ble_eq_true rfl)) X430 F429
      · skip
        show Go p e below _ (T410.setTop (mkF m 117 #[.val (.int k_), .val (.int xa), .val (.int xb), .val (.int xs), .val (.int xm), .val (.int kx), .val (.ref kk), .val (.int (0 : Int32)), .val (.int c359), .val (.int c360), .val (.int (2 : Int32)), .val (.ref b407), .unset, .unset, .unset, .unset, .unset] [(.ref b407), (.ref b410), (.ref b410)]))
        have r8c359 : ¬ c359 < 0 ∧ ¬ (255 : Int32) < c359 := ⟨rc359.1, fun q => hnw (Or.inl q)⟩
        have r8c360 : ¬ c360 < 0 ∧ ¬ (255 : Int32) < c360 := ⟨rc360.1, fun q => hnw (Or.inr (q))⟩
        show Go p e below _ (T410.setTop (mkF m 117 #[.val (.int k_), .val (.int xa), .val (.int xb), .val (.int xs), .val (.int xm), .val (.int kx), .val (.ref kk), .val (.int (0 : Int32)), .val (.int c359), .val (.int c360), .val (.int (2 : Int32)), .val (.ref b407), .unset, .unset, .unset, .unset, .unset] [(.ref b407), (.ref b410), (.ref b410)]))
        have V432 := V409.ext E410
        refine g_newStr S410 X (cs := [c359, c360]) (Nat.le_of_ble_eq_true rfl) (Nat.le_of_ble_eq_true rfl) rfl na410 sf410 A410 F411 F412 V432 (faS r8c359 (faS r8c360 fa0)) (w13 hw) (hb hby at_117) (by rw [hml]; rfl) (Nat.le_of_ble_eq_true rfl) (Nat.le_of_ble_eq_true rfl) (Nat.le_of_ble_eq_true rfl) (Nat.le_of_ble_eq_true rfl) ?_
        intro T431 h431 S431 K431 F431
        show Go p e below _ (T431.setTop (mkF m 120 #[.val (.int k_), .val (.int xa), .val (.int xb), .val (.int xs), .val (.int xm), .val (.int kx), .val (.ref kk), .val (.int (0 : Int32)), .val (.int c359), .val (.int c360), .val (.int (2 : Int32)), .val (.ref b407), .unset, .unset, .unset, .unset, .unset] [(.ref b410)]))
        have X433 : Ext h409 h431 := ext_keep1 E410 K431 fr410
        exact K413 _ _ _ (S431.mono (Nat.le_of_ble_eq_true rfl) (Nat.le_of_ble_eq_true rfl)) X433 F431
  rcases own_mod6 k_ ki357 eki357 with rfl | rfl | rfl | rfl | rfl | rfl
  · skip
    show Go p e below _ (T0.setTop (mkF m 9 #[.val (.int k_), .val (.int xa), .val (.int xb), .val (.int xs), .val (.int xm), .val (.int (0 : Int32)), .unset, .unset, .unset, .unset, .unset, .unset, .unset, .unset, .unset, .unset, .unset] []))
    refine s_iload S0 (hb hby at_9) rfl (pc' := 11) rfl ?_
    show Go p e below _ (T0.setTop (mkF m 11 #[.val (.int k_), .val (.int xa), .val (.int xb), .val (.int xs), .val (.int xm), .val (.int (0 : Int32)), .unset, .unset, .unset, .unset, .unset, .unset, .unset, .unset, .unset, .unset, .unset] [(.int (0 : Int32))]))
    refine g_static S0 (rmKO0 X S0.old hk0) (fun _ q => nomatch q) (w1 hw) (w2 hw) (w3 hw) (w4 hw) (by decide) (hb hby at_11) (by rw [hml]; rfl) [(.int (0 : Int32))] (lenOf pd17 rfl) rfl rfl (Nat.le_of_ble_eq_true rfl) (Nat.le_of_ble_eq_true rfl) (Nat.le_of_ble_eq_true rfl) (Nat.le_of_ble_eq_true rfl) ?_
    intro v434 T434 V434 h434 S434 C434 q434
    obtain ⟨rfl, rfl⟩ := q434
    show Go p e below _ (T434.setTop (mkF m 14 #[.val (.int k_), .val (.int xa), .val (.int xb), .val (.int xs), .val (.int xm), .val (.int (0 : Int32)), .unset, .unset, .unset, .unset, .unset, .unset, .unset, .unset, .unset, .unset, .unset] [(.ref k0_)]))
    exact K358 _ _ (by decide) hne0 _ _ S434
  · skip
    show Go p e below _ (T0.setTop (mkF m 9 #[.val (.int k_), .val (.int xa), .val (.int xb), .val (.int xs), .val (.int xm), .val (.int (1 : Int32)), .unset, .unset, .unset, .unset, .unset, .unset, .unset, .unset, .unset, .unset, .unset] []))
    refine s_iload S0 (hb hby at_9) rfl (pc' := 11) rfl ?_
    show Go p e below _ (T0.setTop (mkF m 11 #[.val (.int k_), .val (.int xa), .val (.int xb), .val (.int xs), .val (.int xm), .val (.int (1 : Int32)), .unset, .unset, .unset, .unset, .unset, .unset, .unset, .unset, .unset, .unset, .unset] [(.int (1 : Int32))]))
    refine g_static S0 (rmKO1 X S0.old hk1) (fun _ q => nomatch q) (w1 hw) (w2 hw) (w3 hw) (w4 hw) (by decide) (hb hby at_11) (by rw [hml]; rfl) [(.int (1 : Int32))] (lenOf pd17 rfl) rfl rfl (Nat.le_of_ble_eq_true rfl) (Nat.le_of_ble_eq_true rfl) (Nat.le_of_ble_eq_true rfl) (Nat.le_of_ble_eq_true rfl) ?_
    intro v435 T435 V435 h435 S435 C435 q435
    obtain ⟨rfl, rfl⟩ := q435
    show Go p e below _ (T435.setTop (mkF m 14 #[.val (.int k_), .val (.int xa), .val (.int xb), .val (.int xs), .val (.int xm), .val (.int (1 : Int32)), .unset, .unset, .unset, .unset, .unset, .unset, .unset, .unset, .unset, .unset, .unset] [(.ref k1_)]))
    exact K358 _ _ (by decide) hne1 _ _ S435
  · skip
    show Go p e below _ (T0.setTop (mkF m 9 #[.val (.int k_), .val (.int xa), .val (.int xb), .val (.int xs), .val (.int xm), .val (.int (2 : Int32)), .unset, .unset, .unset, .unset, .unset, .unset, .unset, .unset, .unset, .unset, .unset] []))
    refine s_iload S0 (hb hby at_9) rfl (pc' := 11) rfl ?_
    show Go p e below _ (T0.setTop (mkF m 11 #[.val (.int k_), .val (.int xa), .val (.int xb), .val (.int xs), .val (.int xm), .val (.int (2 : Int32)), .unset, .unset, .unset, .unset, .unset, .unset, .unset, .unset, .unset, .unset, .unset] [(.int (2 : Int32))]))
    refine g_static S0 (rmKO2 X S0.old hk2) (fun _ q => nomatch q) (w1 hw) (w2 hw) (w3 hw) (w4 hw) (by decide) (hb hby at_11) (by rw [hml]; rfl) [(.int (2 : Int32))] (lenOf pd17 rfl) rfl rfl (Nat.le_of_ble_eq_true rfl) (Nat.le_of_ble_eq_true rfl) (Nat.le_of_ble_eq_true rfl) (Nat.le_of_ble_eq_true rfl) ?_
    intro v436 T436 V436 h436 S436 C436 q436
    obtain ⟨rfl, rfl⟩ := q436
    show Go p e below _ (T436.setTop (mkF m 14 #[.val (.int k_), .val (.int xa), .val (.int xb), .val (.int xs), .val (.int xm), .val (.int (2 : Int32)), .unset, .unset, .unset, .unset, .unset, .unset, .unset, .unset, .unset, .unset, .unset] [(.ref k2_)]))
    exact K358 _ _ (by decide) hne2 _ _ S436
  · skip
    show Go p e below _ (T0.setTop (mkF m 9 #[.val (.int k_), .val (.int xa), .val (.int xb), .val (.int xs), .val (.int xm), .val (.int (3 : Int32)), .unset, .unset, .unset, .unset, .unset, .unset, .unset, .unset, .unset, .unset, .unset] []))
    refine s_iload S0 (hb hby at_9) rfl (pc' := 11) rfl ?_
    show Go p e below _ (T0.setTop (mkF m 11 #[.val (.int k_), .val (.int xa), .val (.int xb), .val (.int xs), .val (.int xm), .val (.int (3 : Int32)), .unset, .unset, .unset, .unset, .unset, .unset, .unset, .unset, .unset, .unset, .unset] [(.int (3 : Int32))]))
    refine g_static S0 (rmKO3 X S0.old hk3) (fun _ q => nomatch q) (w1 hw) (w2 hw) (w3 hw) (w4 hw) (by decide) (hb hby at_11) (by rw [hml]; rfl) [(.int (3 : Int32))] (lenOf pd17 rfl) rfl rfl (Nat.le_of_ble_eq_true rfl) (Nat.le_of_ble_eq_true rfl) (Nat.le_of_ble_eq_true rfl) (Nat.le_of_ble_eq_true rfl) ?_
    intro v437 T437 V437 h437 S437 C437 q437
    obtain ⟨rfl, rfl⟩ := q437
    show Go p e below _ (T437.setTop (mkF m 14 #[.val (.int k_), .val (.int xa), .val (.int xb), .val (.int xs), .val (.int xm), .val (.int (3 : Int32)), .unset, .unset, .unset, .unset, .unset, .unset, .unset, .unset, .unset, .unset, .unset] [(.ref k3_)]))
    refine s_astore S437 (hb hby at_14) rfl (L' := #[.val (.int k_), .val (.int xa), .val (.int xb), .val (.int xs), .val (.int xm), .val (.int (3 : Int32)), .val (.ref k3_), .unset, .unset, .unset, .unset, .unset, .unset, .unset, .unset, .unset, .unset]) rfl (pc' := 16) rfl ?_
    refine s_iload S437 (hb hby at_16) rfl (pc' := 18) rfl ?_
    refine s_iconst S437 (hb hby at_18) (v := (3 : Int32)) rfl (pc' := 19) rfl ?_
    refine s_icmpN S437 (hb hby at_19) (by decide) (pc' := 22) rfl ?_
    refine s_iconst S437 (hb hby at_22) (v := (1 : Int32)) rfl (pc' := 23) rfl ?_
    refine s_goto S437 (hb hby at_23) (by decide) (pcT := 27) (by decide) ?_
    refine s_istore S437 (hb hby at_27) (L' := #[.val (.int k_), .val (.int xa), .val (.int xb), .val (.int xs), .val (.int xm), .val (.int (3 : Int32)), .val (.ref k3_), .val (.int (1 : Int32)), .unset, .unset, .unset, .unset, .unset, .unset, .unset, .unset, .unset]) rfl (pc' := 29) rfl ?_
    refine s_iloadN S437 (hb hby at_29) rfl (pc' := 30) rfl ?_
    refine g_ldcI S437 (w8 hw) (hb hby at_30) ?_
    show Go p e below _ (T437.setTop (mkF m 32 #[.val (.int k_), .val (.int xa), .val (.int xb), .val (.int xs), .val (.int xm), .val (.int (3 : Int32)), .val (.ref k3_), .val (.int (1 : Int32)), .unset, .unset, .unset, .unset, .unset, .unset, .unset, .unset, .unset] [(.int (65535 : Int32)), (.int xa)]))
    refine s_iand S437 (hb hby at_32) (z := (xa &&& (65535 : Int32))) rfl (pc' := 33) rfl ?_
    refine s_i2c S437 (hb hby at_33) (z := ((xa &&& (65535 : Int32)).toUInt32.toUInt16.toUInt32.toInt32)) rfl (pc' := 34) rfl ?_
    generalize ec438 : ((xa &&& (65535 : Int32)).toUInt32.toUInt16.toUInt32.toInt32) = c438
    refine s_istore S437 (hb hby at_34) (L' := #[.val (.int k_), .val (.int xa), .val (.int xb), .val (.int xs), .val (.int xm), .val (.int (3 : Int32)), .val (.ref k3_), .val (.int (1 : Int32)), .val (.int c438), .unset, .unset, .unset, .unset, .unset, .unset, .unset, .unset]) rfl (pc' := 36) rfl ?_
    have rc438 : ¬ c438 < 0 ∧ ¬ (65535 : Int32) < c438 := by rw [← ec438]; exact own_i2c _
    refine s_iloadN S437 (hb hby at_36) rfl (pc' := 37) rfl ?_
    refine g_ldcI S437 (w8 hw) (hb hby at_37) ?_
    show Go p e below _ (T437.setTop (mkF m 39 #[.val (.int k_), .val (.int xa), .val (.int xb), .val (.int xs), .val (.int xm), .val (.int (3 : Int32)), .val (.ref k3_), .val (.int (1 : Int32)), .val (.int c438), .unset, .unset, .unset, .unset, .unset, .unset, .unset, .unset] [(.int (65535 : Int32)), (.int xb)]))
    refine s_iand S437 (hb hby at_39) (z := (xb &&& (65535 : Int32))) rfl (pc' := 40) rfl ?_
    refine s_i2c S437 (hb hby at_40) (z := ((xb &&& (65535 : Int32)).toUInt32.toUInt16.toUInt32.toInt32)) rfl (pc' := 41) rfl ?_
    generalize ec439 : ((xb &&& (65535 : Int32)).toUInt32.toUInt16.toUInt32.toInt32) = c439
    refine s_istore S437 (hb hby at_41) (L' := #[.val (.int k_), .val (.int xa), .val (.int xb), .val (.int xs), .val (.int xm), .val (.int (3 : Int32)), .val (.ref k3_), .val (.int (1 : Int32)), .val (.int c438), .val (.int c439), .unset, .unset, .unset, .unset, .unset, .unset, .unset]) rfl (pc' := 43) rfl ?_
    have rc439 : ¬ c439 < 0 ∧ ¬ (65535 : Int32) < c439 := by rw [← ec439]; exact own_i2c _
    refine s_iload S437 (hb hby at_43) rfl (pc' := 45) rfl ?_
    refine s_iconst S437 (hb hby at_45) (v := (3 : Int32)) rfl (pc' := 46) rfl ?_
    refine s_iand S437 (hb hby at_46) (z := (xm &&& (3 : Int32))) rfl (pc' := 47) rfl ?_
    refine s_iconst S437 (hb hby at_47) (v := (3 : Int32)) rfl (pc' := 48) rfl ?_
    refine s_irem S437 (hb hby at_48) (by decide) (z := ((xm &&& (3 : Int32)) % (3 : Int32))) rfl (pc' := 49) rfl ?_
    generalize enn440 : ((xm &&& (3 : Int32)) % (3 : Int32)) = nn440
    refine s_istore S437 (hb hby at_49) (L' := #[.val (.int k_), .val (.int xa), .val (.int xb), .val (.int xs), .val (.int xm), .val (.int (3 : Int32)), .val (.ref k3_), .val (.int (1 : Int32)), .val (.int c438), .val (.int c439), .val (.int nn440), .unset, .unset, .unset, .unset, .unset, .unset]) rfl (pc' := 51) rfl ?_
    rcases own_mod3 xm nn440 enn440 with rfl | rfl | rfl
    · skip
      show Go p e below _ (T437.setTop (mkF m 51 #[.val (.int k_), .val (.int xa), .val (.int xb), .val (.int xs), .val (.int xm), .val (.int (3 : Int32)), .val (.ref k3_), .val (.int (1 : Int32)), .val (.int c438), .val (.int c439), .val (.int (0 : Int32)), .unset, .unset, .unset, .unset, .unset, .unset] []))
      refine s_iload S437 (hb hby at_51) rfl (pc' := 53) rfl ?_
      refine s_ifN S437 (hb hby at_53) (by decide) (pc' := 56) rfl ?_
      refine s_iload S437 (hb hby at_56) rfl (pc' := 58) rfl ?_
      refine s_ifN S437 (hb hby at_58) (by decide) (pc' := 61) rfl ?_
      refine s_iconst S437 (hb hby at_61) (v := (1 : Int32)) rfl (pc' := 62) rfl ?_
      refine s_istore S437 (hb hby at_62) (L' := #[.val (.int k_), .val (.int xa), .val (.int xb), .val (.int xs), .val (.int xm), .val (.int (3 : Int32)), .val (.ref k3_), .val (.int (1 : Int32)), .val (.int c438), .val (.int c439), .val (.int (1 : Int32)), .unset, .unset, .unset, .unset, .unset, .unset]) rfl (pc' := 64) rfl ?_
      refine s_iload S437 (hb hby at_64) rfl (pc' := 66) rfl ?_
      refine s_ifY S437 (hb hby at_66) (by decide) (by decide) (pcT := 77) (by decide) ?_
      refine s_iload S437 (hb hby at_77) rfl (pc' := 79) rfl ?_
      refine s_iconst S437 (hb hby at_79) (v := (1 : Int32)) rfl (pc' := 80) rfl ?_
      refine s_icmpN S437 (hb hby at_80) (by decide) (pc' := 83) rfl ?_
      refine s_iconst S437 (hb hby at_83) (v := (1 : Int32)) rfl (pc' := 84) rfl ?_
      refine g_newarr (aty := .char) S437 (w9 hw) (hb hby at_84) (by decide) (cap := 1) (by decide) (by decide) (Nat.le_of_ble_eq_true rfl) (Nat.le_of_ble_eq_true rfl) ?_
      intro T441 h441 b441 kc441 S441 E441 fr441 lt441 na441 sf441 A441
      have V441 : Arv Z h441 b441 kc441 .char (1 : Int32) [(.int (0 : Int32))] (.int (0 : Int32)) := A441 1
      show Go p e below _ (T441.setTop (mkF m 86 #[.val (.int k_), .val (.int xa), .val (.int xb), .val (.int xs), .val (.int xm), .val (.int (3 : Int32)), .val (.ref k3_), .val (.int (1 : Int32)), .val (.int c438), .val (.int c439), .val (.int (1 : Int32)), .unset, .unset, .unset, .unset, .unset, .unset] [(.ref b441)]))
      refine s_dup S441 (hb hby at_86) rfl (pc' := 87) rfl ?_
      refine s_iconst S441 (hb hby at_87) (v := (0 : Int32)) rfl (pc' := 88) rfl ?_
      refine s_iload S441 (hb hby at_88) rfl (pc' := 90) rfl ?_
      refine g_castore S441 V441 ⟨by decide, by decide⟩ 0 rfl (Nat.le_of_ble_eq_true rfl) na441 (hb hby at_90) ?_
      intro T442 h442 S442 K442 V442
      rw [narC rc438] at V442
      have V442 : Arv Z h442 b441 kc441 .char (1 : Int32) [(.int c438)] (.int (0 : Int32)) := V442
      show Go p e below _ (T442.setTop (mkF m 91 #[.val (.int k_), .val (.int xa), .val (.int xb), .val (.int xs), .val (.int xm), .val (.int (3 : Int32)), .val (.ref k3_), .val (.int (1 : Int32)), .val (.int c438), .val (.int c439), .val (.int (1 : Int32)), .unset, .unset, .unset, .unset, .unset, .unset] [(.ref b441)]))
      refine s_astore S442 (hb hby at_91) rfl (L' := #[.val (.int k_), .val (.int xa), .val (.int xb), .val (.int xs), .val (.int xm), .val (.int (3 : Int32)), .val (.ref k3_), .val (.int (1 : Int32)), .val (.int c438), .val (.int c439), .val (.int (1 : Int32)), .val (.ref b441), .unset, .unset, .unset, .unset, .unset]) rfl (pc' := 93) rfl ?_
      refine s_goto S442 (hb hby at_93) (by decide) (pcT := 111) (by decide) ?_
      refine g_new S442 (w10 hw) (w11 hw) (w12 hw) (hb hby at_111) (Nat.le_of_ble_eq_true rfl) (Nat.le_of_ble_eq_true rfl) ?_
      intro T443 h443 b443 S443 E443 fr443 lt443 na443 sf443 A443 D443
      have F444 : Fld Z h443 b443 "java/lang/String" "value" "[B" .null := D443 (Or.inr (w25 hw)) (ty := (.array .byte)) (by decide)
      have F445 : Fld Z h443 b443 "java/lang/String" "coder" "B" (.int (0 : Int32)) := D443 (Or.inr (w26 hw)) (ty := .byte) (by decide)
      show Go p e below _ (T443.setTop (mkF m 114 #[.val (.int k_), .val (.int xa), .val (.int xb), .val (.int xs), .val (.int xm), .val (.int (3 : Int32)), .val (.ref k3_), .val (.int (1 : Int32)), .val (.int c438), .val (.int c439), .val (.int (1 : Int32)), .val (.ref b441), .unset, .unset, .unset, .unset, .unset] [(.ref b443)]))
      refine s_dup S443 (hb hby at_114) rfl (pc' := 115) rfl ?_
      refine s_aload S443 (hb hby at_115) rfl rfl (pc' := 117) rfl ?_
      have K446 : ∀ (T447 : State) (V447 : Vm) (h447 : Heap), St p l e room_1 s m #[(.int k_), (.int xa), (.int xb), (.int xs), (.int xm)] below meth c Z a0 EL1 n0 "com/example/converge_to_schema/convergetoschema/schema/TokenIsSymbolPinLaw" T447 V447 h447 4 8 → Ext h442 h447 → StrF Z h447 b443 [c438] → Go p e below (Fini Z EL1 n0 s room_1 (fun v h' => v = some (.int 1) ∧ True)) (T447.setTop (mkF m 120 #[.val (.int k_), .val (.int xa), .val (.int xb), .val (.int xs), .val (.int xm), .val (.int (3 : Int32)), .val (.ref k3_), .val (.int (1 : Int32)), .val (.int c438), .val (.int c439), .val (.int (1 : Int32)), .val (.ref b441), .unset, .unset, .unset, .unset, .unset] [(.ref b443)])) := by
        intro T447 V447 h447 S447 EJ447 FJ447
        show Go p e below _ (T447.setTop (mkF m 120 #[.val (.int k_), .val (.int xa), .val (.int xb), .val (.int xs), .val (.int xm), .val (.int (3 : Int32)), .val (.ref k3_), .val (.int (1 : Int32)), .val (.int c438), .val (.int c439), .val (.int (1 : Int32)), .val (.ref b441), .unset, .unset, .unset, .unset, .unset] [(.ref b443)]))
        refine s_astore S447 (hb hby at_120) rfl (L' := #[.val (.int k_), .val (.int xa), .val (.int xb), .val (.int xs), .val (.int xm), .val (.int (3 : Int32)), .val (.ref k3_), .val (.int (1 : Int32)), .val (.int c438), .val (.int c439), .val (.int (1 : Int32)), .val (.ref b441), .val (.ref b443), .unset, .unset, .unset, .unset]) rfl (pc' := 122) rfl ?_
        refine s_iload S447 (hb hby at_122) rfl (pc' := 124) rfl ?_
        refine s_iconst S447 (hb hby at_124) (v := (2 : Int32)) rfl (pc' := 125) rfl ?_
        refine s_ishr S447 (hb hby at_125) (z := (xm >>> ((2 : Int32) &&& 31))) rfl (pc' := 126) rfl ?_
        refine s_iconst S447 (hb hby at_126) (v := (3 : Int32)) rfl (pc' := 127) rfl ?_
        refine s_iand S447 (hb hby at_127) (z := ((xm >>> ((2 : Int32) &&& 31)) &&& (3 : Int32))) rfl (pc' := 128) rfl ?_
        generalize epk448 : ((xm >>> ((2 : Int32) &&& 31)) &&& (3 : Int32)) = pk448
        refine s_istore S447 (hb hby at_128) (L' := #[.val (.int k_), .val (.int xa), .val (.int xb), .val (.int xs), .val (.int xm), .val (.int (3 : Int32)), .val (.ref k3_), .val (.int (1 : Int32)), .val (.int c438), .val (.int c439), .val (.int (1 : Int32)), .val (.ref b441), .val (.ref b443), .val (.int pk448), .unset, .unset, .unset]) rfl (pc' := 130) rfl ?_
        have K449 : ∀ sm : Int32, Go p e below (Fini Z EL1 n0 s room_1 (fun v h' => v = some (.int 1) ∧ True)) (T447.setTop (mkF m 162 #[.val (.int k_), .val (.int xa), .val (.int xb), .val (.int xs), .val (.int xm), .val (.int (3 : Int32)), .val (.ref k3_), .val (.int (1 : Int32)), .val (.int c438), .val (.int c439), .val (.int (1 : Int32)), .val (.ref b441), .val (.ref b443), .val (.int pk448), .val (.int sm), .unset, .unset] [])) := by
          intro sm
          show Go p e below _ (T447.setTop (mkF m 162 #[.val (.int k_), .val (.int xa), .val (.int xb), .val (.int xs), .val (.int xm), .val (.int (3 : Int32)), .val (.ref k3_), .val (.int (1 : Int32)), .val (.int c438), .val (.int c439), .val (.int (1 : Int32)), .val (.ref b441), .val (.ref b443), .val (.int pk448), .val (.int sm), .unset, .unset] []))
          refine g_new S447 (w31 hw) (w32 hw) (w33 hw) (hb hby at_162) (Nat.le_of_ble_eq_true rfl) (Nat.le_of_ble_eq_true rfl) ?_
          intro T450 h450 b450 S450 E450 fr450 lt450 na450 sf450 A450 D450
          have F451 : Fld Z h450 b450 "com/example/converge_to_schema/convergetoschema/schema/Token" "kind" "Lcom/example/converge_to_schema/convergetoschema/schema/Token$Kind;" .null := D450 (Or.inr (w39 hw)) (ty := (.object "com/example/converge_to_schema/convergetoschema/schema/Token$Kind")) (by decide)
          have F452 : Fld Z h450 b450 "com/example/converge_to_schema/convergetoschema/schema/Token" "text" "Ljava/lang/String;" .null := D450 (Or.inr (w41 hw)) (ty := (.object "java/lang/String")) (by decide)
          have F453 : Fld Z h450 b450 "com/example/converge_to_schema/convergetoschema/schema/Token" "line" "I" (.int (0 : Int32)) := D450 (Or.inr (w43 hw)) (ty := .int) (by decide)
          have F454 : Fld Z h450 b450 "com/example/converge_to_schema/convergetoschema/schema/Token" "column" "I" (.int (0 : Int32)) := D450 (Or.inr (w45 hw)) (ty := .int) (by decide)
          show Go p e below _ (T450.setTop (mkF m 165 #[.val (.int k_), .val (.int xa), .val (.int xb), .val (.int xs), .val (.int xm), .val (.int (3 : Int32)), .val (.ref k3_), .val (.int (1 : Int32)), .val (.int c438), .val (.int c439), .val (.int (1 : Int32)), .val (.ref b441), .val (.ref b443), .val (.int pk448), .val (.int sm), .unset, .unset] [(.ref b450)]))
          refine s_dup S450 (hb hby at_165) rfl (pc' := 166) rfl ?_
          refine s_aload S450 (hb hby at_166) rfl rfl (pc' := 168) rfl ?_
          refine s_aload S450 (hb hby at_168) rfl rfl (pc' := 170) rfl ?_
          refine s_iloadN S450 (hb hby at_170) rfl (pc' := 171) rfl ?_
          refine s_iloadN S450 (hb hby at_171) rfl (pc' := 172) rfl ?_
          show Go p e below _ (T450.setTop (mkF m 172 #[.val (.int k_), .val (.int xa), .val (.int xb), .val (.int xs), .val (.int xm), .val (.int (3 : Int32)), .val (.ref k3_), .val (.int (1 : Int32)), .val (.int c438), .val (.int c439), .val (.int (1 : Int32)), .val (.ref b441), .val (.ref b443), .val (.int pk448), .val (.int sm), .unset, .unset] [(.int k_), (.int xs), (.ref b443), (.ref k3_), (.ref b450), (.ref b450)]))
          refine g_special S450 (rmTK X na450 S450.old A450 F451 F452 F453 F454) (fun _ q => nomatch q) rfl (w34 hw) (w35 hw) (w33 hw) (w36 hw) (by decide) (hb hby at_172) (by rw [hml]; rfl) b450 [(.ref k3_), (.ref b443), (.int xs), (.int k_)] (lenOf pd15 rfl) rfl rfl (Nat.le_of_ble_eq_true rfl) (Nat.le_of_ble_eq_true rfl) (Nat.le_of_ble_eq_true rfl) (Nat.le_of_ble_eq_true rfl) ?_
          intro v456 T456 V456 h456 S456 C456 q456
          obtain ⟨rfl, Ko455, Ao455, Fko455, Fto455⟩ := q456
          show Go p e below _ (T456.setTop (mkF m 175 #[.val (.int k_), .val (.int xa), .val (.int xb), .val (.int xs), .val (.int xm), .val (.int (3 : Int32)), .val (.ref k3_), .val (.int (1 : Int32)), .val (.int c438), .val (.int c439), .val (.int (1 : Int32)), .val (.ref b441), .val (.ref b443), .val (.int pk448), .val (.int sm), .unset, .unset] [(.ref b450)]))
          refine s_astore S456 (hb hby at_175) rfl (L' := #[.val (.int k_), .val (.int xa), .val (.int xb), .val (.int xs), .val (.int xm), .val (.int (3 : Int32)), .val (.ref k3_), .val (.int (1 : Int32)), .val (.int c438), .val (.int c439), .val (.int (1 : Int32)), .val (.ref b441), .val (.ref b443), .val (.int pk448), .val (.int sm), .val (.ref b450), .unset]) rfl (pc' := 177) rfl ?_
          refine s_iload S456 (hb hby at_177) rfl (pc' := 179) rfl ?_
          refine s_ifN S456 (hb hby at_179) (by decide) (pc' := 182) rfl ?_
          refine s_iload S456 (hb hby at_182) rfl (pc' := 184) rfl ?_
          refine s_iload S456 (hb hby at_184) rfl (pc' := 186) rfl ?_
          refine g_icmp S456 (hb hby at_186) (by decide) (pcT := 193) (by decide) (fun q => ?_) (fun q => ?_)
          · have hc186_457 : ¬ c438 = sm := icT_ne q
            show Go p e below _ (T456.setTop (mkF m 193 #[.val (.int k_), .val (.int xa), .val (.int xb), .val (.int xs), .val (.int xm), .val (.int (3 : Int32)), .val (.ref k3_), .val (.int (1 : Int32)), .val (.int c438), .val (.int c439), .val (.int (1 : Int32)), .val (.ref b441), .val (.ref b443), .val (.int pk448), .val (.int sm), .val (.ref b450), .unset] []))
            refine s_iconst S456 (hb hby at_193) (v := (0 : Int32)) rfl (pc' := 194) rfl ?_
            refine s_istore S456 (hb hby at_194) (L' := #[.val (.int k_), .val (.int xa), .val (.int xb), .val (.int xs), .val (.int xm), .val (.int (3 : Int32)), .val (.ref k3_), .val (.int (1 : Int32)), .val (.int c438), .val (.int c439), .val (.int (1 : Int32)), .val (.ref b441), .val (.ref b443), .val (.int pk448), .val (.int sm), .val (.ref b450), .val (.int (0 : Int32))]) rfl (pc' := 196) rfl ?_
            refine s_aload S456 (hb hby at_196) rfl rfl (pc' := 198) rfl ?_
            refine s_iload S456 (hb hby at_198) rfl (pc' := 200) rfl ?_
            have X459 : Ext h447 h456 := ext_keep1 E450 Ko455 fr450
            have FJ460 := FJ447.ext X459
            show Go p e below _ (T456.setTop (mkF m 200 #[.val (.int k_), .val (.int xa), .val (.int xb), .val (.int xs), .val (.int xm), .val (.int (3 : Int32)), .val (.ref k3_), .val (.int (1 : Int32)), .val (.int c438), .val (.int c439), .val (.int (1 : Int32)), .val (.ref b441), .val (.ref b443), .val (.int pk448), .val (.int sm), .val (.ref b450), .val (.int (0 : Int32))] [(.int sm), (.ref b450)]))
            refine g_virtual S456 (rmI1 X S456.old Ao455 Fko455 Fto455 hk3 FJ460) (fun _ q => nomatch q) (w46 hw) (w47 hw) (w49 hw) (w48 hw) (w33 hw) (w50 hw) (by decide) (fun _ h => notFace_of_selects h) (hb hby at_200) (by rw [hml]; rfl) b450 Ao455 [(.int sm)] (lenOf pd16 rfl) rfl rfl (Nat.le_of_ble_eq_true rfl) (Nat.le_of_ble_eq_true rfl) (Nat.le_of_ble_eq_true rfl) (Nat.le_of_ble_eq_true rfl) ?_
            intro v461 T461 V461 h461 S461 C461 q461
            obtain ⟨g458, rfl, hg458, rfl⟩ := q461
            obtain rfl : g458 = 0 := hg458.elim (fun q => absurd q.2 hc186_457) (fun q => q.1)
            show Go p e below _ (T461.setTop (mkF m 203 #[.val (.int k_), .val (.int xa), .val (.int xb), .val (.int xs), .val (.int xm), .val (.int (3 : Int32)), .val (.ref k3_), .val (.int (1 : Int32)), .val (.int c438), .val (.int c439), .val (.int (1 : Int32)), .val (.ref b441), .val (.ref b443), .val (.int pk448), .val (.int sm), .val (.ref b450), .val (.int (0 : Int32))] [(.int (0 : Int32))]))
            refine s_iload S461 (hb hby at_203) rfl (pc' := 205) rfl ?_
            refine s_icmpN S461 (hb hby at_205) (by decide) (pc' := 208) rfl ?_
            refine s_iconst S461 (hb hby at_208) (v := (1 : Int32)) rfl (pc' := 209) rfl ?_
            refine s_goto S461 (hb hby at_209) (by decide) (pcT := 213) (by decide) ?_
            exact g_iretN S461 (hb hby at_213) hret (by simp) ⟨rfl, trivial⟩
          · have hc186_457 : c438 = sm := icF_ne q
            show Go p e below _ (T456.setTop (mkF m 189 #[.val (.int k_), .val (.int xa), .val (.int xb), .val (.int xs), .val (.int xm), .val (.int (3 : Int32)), .val (.ref k3_), .val (.int (1 : Int32)), .val (.int c438), .val (.int c439), .val (.int (1 : Int32)), .val (.ref b441), .val (.ref b443), .val (.int pk448), .val (.int sm), .val (.ref b450), .unset] []))
            refine s_iconst S456 (hb hby at_189) (v := (1 : Int32)) rfl (pc' := 190) rfl ?_
            refine s_goto S456 (hb hby at_190) (by decide) (pcT := 194) (by decide) ?_
            refine s_istore S456 (hb hby at_194) (L' := #[.val (.int k_), .val (.int xa), .val (.int xb), .val (.int xs), .val (.int xm), .val (.int (3 : Int32)), .val (.ref k3_), .val (.int (1 : Int32)), .val (.int c438), .val (.int c439), .val (.int (1 : Int32)), .val (.ref b441), .val (.ref b443), .val (.int pk448), .val (.int sm), .val (.ref b450), .val (.int (1 : Int32))]) rfl (pc' := 196) rfl ?_
            refine s_aload S456 (hb hby at_196) rfl rfl (pc' := 198) rfl ?_
            refine s_iload S456 (hb hby at_198) rfl (pc' := 200) rfl ?_
            have X463 : Ext h447 h456 := ext_keep1 E450 Ko455 fr450
            have FJ464 := FJ447.ext X463
            show Go p e below _ (T456.setTop (mkF m 200 #[.val (.int k_), .val (.int xa), .val (.int xb), .val (.int xs), .val (.int xm), .val (.int (3 : Int32)), .val (.ref k3_), .val (.int (1 : Int32)), .val (.int c438), .val (.int c439), .val (.int (1 : Int32)), .val (.ref b441), .val (.ref b443), .val (.int pk448), .val (.int sm), .val (.ref b450), .val (.int (1 : Int32))] [(.int sm), (.ref b450)]))
            refine g_virtual S456 (rmI1 X S456.old Ao455 Fko455 Fto455 hk3 FJ464) (fun _ q => nomatch q) (w46 hw) (w47 hw) (w49 hw) (w48 hw) (w33 hw) (w50 hw) (by decide) (fun _ h => notFace_of_selects h) (hb hby at_200) (by rw [hml]; rfl) b450 Ao455 [(.int sm)] (lenOf pd16 rfl) rfl rfl (Nat.le_of_ble_eq_true rfl) (Nat.le_of_ble_eq_true rfl) (Nat.le_of_ble_eq_true rfl) (Nat.le_of_ble_eq_true rfl) ?_
            intro v465 T465 V465 h465 S465 C465 q465
            obtain ⟨g462, rfl, hg462, rfl⟩ := q465
            obtain rfl : g462 = 1 := hg462.elim (fun q => q.1) (fun q => absurd hc186_457 q.2)
            show Go p e below _ (T465.setTop (mkF m 203 #[.val (.int k_), .val (.int xa), .val (.int xb), .val (.int xs), .val (.int xm), .val (.int (3 : Int32)), .val (.ref k3_), .val (.int (1 : Int32)), .val (.int c438), .val (.int c439), .val (.int (1 : Int32)), .val (.ref b441), .val (.ref b443), .val (.int pk448), .val (.int sm), .val (.ref b450), .val (.int (1 : Int32))] [(.int (1 : Int32))]))
            refine s_iload S465 (hb hby at_203) rfl (pc' := 205) rfl ?_
            refine s_icmpN S465 (hb hby at_205) (by decide) (pc' := 208) rfl ?_
            refine s_iconst S465 (hb hby at_208) (v := (1 : Int32)) rfl (pc' := 209) rfl ?_
            refine s_goto S465 (hb hby at_209) (by decide) (pcT := 213) (by decide) ?_
            exact g_iretN S465 (hb hby at_213) hret (by simp) ⟨rfl, trivial⟩
        refine s_iload S447 (hb hby at_130) rfl (pc' := 132) rfl ?_
        refine g_if S447 (hb hby at_132) (by decide) (pcT := 142) (by decide) (fun q => ?_) (fun q => ?_)
        · have hc132_466 : ¬ pk448 = (0 : Int32) := icT_ne q
          show Go p e below _ (T447.setTop (mkF m 142 #[.val (.int k_), .val (.int xa), .val (.int xb), .val (.int xs), .val (.int xm), .val (.int (3 : Int32)), .val (.ref k3_), .val (.int (1 : Int32)), .val (.int c438), .val (.int c439), .val (.int (1 : Int32)), .val (.ref b441), .val (.ref b443), .val (.int pk448), .unset, .unset, .unset] []))
          refine s_iload S447 (hb hby at_142) rfl (pc' := 144) rfl ?_
          refine s_iconst S447 (hb hby at_144) (v := (1 : Int32)) rfl (pc' := 145) rfl ?_
          refine g_icmp S447 (hb hby at_145) (by decide) (pcT := 155) (by decide) (fun q => ?_) (fun q => ?_)
          · have hc145_467 : ¬ pk448 = (1 : Int32) := icT_ne q
            show Go p e below _ (T447.setTop (mkF m 155 #[.val (.int k_), .val (.int xa), .val (.int xb), .val (.int xs), .val (.int xm), .val (.int (3 : Int32)), .val (.ref k3_), .val (.int (1 : Int32)), .val (.int c438), .val (.int c439), .val (.int (1 : Int32)), .val (.ref b441), .val (.ref b443), .val (.int pk448), .unset, .unset, .unset] []))
            refine s_iloadN S447 (hb hby at_155) rfl (pc' := 156) rfl ?_
            refine g_ldcI S447 (w8 hw) (hb hby at_156) ?_
            show Go p e below _ (T447.setTop (mkF m 158 #[.val (.int k_), .val (.int xa), .val (.int xb), .val (.int xs), .val (.int xm), .val (.int (3 : Int32)), .val (.ref k3_), .val (.int (1 : Int32)), .val (.int c438), .val (.int c439), .val (.int (1 : Int32)), .val (.ref b441), .val (.ref b443), .val (.int pk448), .unset, .unset, .unset] [(.int (65535 : Int32)), (.int xs)]))
            refine s_iand S447 (hb hby at_158) (z := (xs &&& (65535 : Int32))) rfl (pc' := 159) rfl ?_
            refine s_i2c S447 (hb hby at_159) (z := ((xs &&& (65535 : Int32)).toUInt32.toUInt16.toUInt32.toInt32)) rfl (pc' := 160) rfl ?_
            generalize esy468 : ((xs &&& (65535 : Int32)).toUInt32.toUInt16.toUInt32.toInt32) = sy468
            refine s_istore S447 (hb hby at_160) (L' := #[.val (.int k_), .val (.int xa), .val (.int xb), .val (.int xs), .val (.int xm), .val (.int (3 : Int32)), .val (.ref k3_), .val (.int (1 : Int32)), .val (.int c438), .val (.int c439), .val (.int (1 : Int32)), .val (.ref b441), .val (.ref b443), .val (.int pk448), .val (.int sy468), .unset, .unset]) rfl (pc' := 162) rfl ?_
            exact K449 _
          · have hc145_467 : pk448 = (1 : Int32) := icF_ne q
            show Go p e below _ (T447.setTop (mkF m 148 #[.val (.int k_), .val (.int xa), .val (.int xb), .val (.int xs), .val (.int xm), .val (.int (3 : Int32)), .val (.ref k3_), .val (.int (1 : Int32)), .val (.int c438), .val (.int c439), .val (.int (1 : Int32)), .val (.ref b441), .val (.ref b443), .val (.int pk448), .unset, .unset, .unset] []))
            refine s_iload S447 (hb hby at_148) rfl (pc' := 150) rfl ?_
            refine s_istore S447 (hb hby at_150) (L' := #[.val (.int k_), .val (.int xa), .val (.int xb), .val (.int xs), .val (.int xm), .val (.int (3 : Int32)), .val (.ref k3_), .val (.int (1 : Int32)), .val (.int c438), .val (.int c439), .val (.int (1 : Int32)), .val (.ref b441), .val (.ref b443), .val (.int pk448), .val (.int c439), .unset, .unset]) rfl (pc' := 152) rfl ?_
            refine s_goto S447 (hb hby at_152) (by decide) (pcT := 162) (by decide) ?_
            exact K449 _
        · have hc132_466 : pk448 = (0 : Int32) := icF_ne q
          show Go p e below _ (T447.setTop (mkF m 135 #[.val (.int k_), .val (.int xa), .val (.int xb), .val (.int xs), .val (.int xm), .val (.int (3 : Int32)), .val (.ref k3_), .val (.int (1 : Int32)), .val (.int c438), .val (.int c439), .val (.int (1 : Int32)), .val (.ref b441), .val (.ref b443), .val (.int pk448), .unset, .unset, .unset] []))
          refine s_iload S447 (hb hby at_135) rfl (pc' := 137) rfl ?_
          refine s_istore S447 (hb hby at_137) (L' := #[.val (.int k_), .val (.int xa), .val (.int xb), .val (.int xs), .val (.int xm), .val (.int (3 : Int32)), .val (.ref k3_), .val (.int (1 : Int32)), .val (.int c438), .val (.int c439), .val (.int (1 : Int32)), .val (.ref b441), .val (.ref b443), .val (.int pk448), .val (.int c438), .unset, .unset]) rfl (pc' := 139) rfl ?_
          refine s_goto S447 (hb hby at_139) (by decide) (pcT := 162) (by decide) ?_
          exact K449 _
      rcases Classical.em ((255 : Int32) < c438) with hwd | hnw
      · skip
        show Go p e below _ (T443.setTop (mkF m 117 #[.val (.int k_), .val (.int xa), .val (.int xb), .val (.int xs), .val (.int xm), .val (.int (3 : Int32)), .val (.ref k3_), .val (.int (1 : Int32)), .val (.int c438), .val (.int c439), .val (.int (1 : Int32)), .val (.ref b441), .unset, .unset, .unset, .unset, .unset] [(.ref b441), (.ref b443), (.ref b443)]))
        have V469 := V442.ext E443
        refine g_special S443 (rmW11 X na443 S443.old A443 F444 F445 V469 rc438 hwd) (sf1 (A443).lt sf443) rfl (w13 hw) (w14 hw) (w12 hw) (w15 hw) (by decide) (hb hby at_117) (by rw [hml]; rfl) b443 [.ref b441] (lenOf pd14 rfl) rfl rfl (Nat.le_of_ble_eq_true rfl) (Nat.le_of_ble_eq_true rfl) (Nat.le_of_ble_eq_true rfl) (Nat.le_of_ble_eq_true rfl) ?_
        intro v470 T470 V470 h470 S470 C470 q470
        obtain ⟨rfl, K470, F470⟩ := q470
        show Go p e below _ (T470.setTop (mkF m 120 #[.val (.int k_), .val (.int xa), .val (.int xb), .val (.int xs), .val (.int xm), .val (.int (3 : Int32)), .val (.ref k3_), .val (.int (1 : Int32)), .val (.int c438), .val (.int c439), .val (.int (1 : Int32)), .val (.ref b441), .unset, .unset, .unset, .unset, .unset] [(.ref b443)]))
        have X471 : Ext h442 h470 := ext_keep1 E443 K470 fr443
        exact K446 _ _ _ (S470.mono (Nat.le_of_ble_eq_true rfl) (Nat.le_of_ble_eq_true rfl)) X471 F470
      · skip
        show Go p e below _ (T443.setTop (mkF m 117 #[.val (.int k_), .val (.int xa), .val (.int xb), .val (.int xs), .val (.int xm), .val (.int (3 : Int32)), .val (.ref k3_), .val (.int (1 : Int32)), .val (.int c438), .val (.int c439), .val (.int (1 : Int32)), .val (.ref b441), .unset, .unset, .unset, .unset, .unset] [(.ref b441), (.ref b443), (.ref b443)]))
        have r8c438 : ¬ c438 < 0 ∧ ¬ (255 : Int32) < c438 := ⟨rc438.1, fun q => hnw (q)⟩
        show Go p e below _ (T443.setTop (mkF m 117 #[.val (.int k_), .val (.int xa), .val (.int xb), .val (.int xs), .val (.int xm), .val (.int (3 : Int32)), .val (.ref k3_), .val (.int (1 : Int32)), .val (.int c438), .val (.int c439), .val (.int (1 : Int32)), .val (.ref b441), .unset, .unset, .unset, .unset, .unset] [(.ref b441), (.ref b443), (.ref b443)]))
        have V473 := V442.ext E443
        refine g_newStr S443 X (cs := [c438]) (Nat.le_of_ble_eq_true rfl) (Nat.le_of_ble_eq_true rfl) rfl na443 sf443 A443 F444 F445 V473 (faS r8c438 fa0) (w13 hw) (hb hby at_117) (by rw [hml]; rfl) (Nat.le_of_ble_eq_true rfl) (Nat.le_of_ble_eq_true rfl) (Nat.le_of_ble_eq_true rfl) (Nat.le_of_ble_eq_true rfl) ?_
        intro T472 h472 S472 K472 F472
        show Go p e below _ (T472.setTop (mkF m 120 #[.val (.int k_), .val (.int xa), .val (.int xb), .val (.int xs), .val (.int xm), .val (.int (3 : Int32)), .val (.ref k3_), .val (.int (1 : Int32)), .val (.int c438), .val (.int c439), .val (.int (1 : Int32)), .val (.ref b441), .unset, .unset, .unset, .unset, .unset] [(.ref b443)]))
        have X474 : Ext h442 h472 := ext_keep1 E443 K472 fr443
        exact K446 _ _ _ (S472.mono (Nat.le_of_ble_eq_true rfl) (Nat.le_of_ble_eq_true rfl)) X474 F472
    · skip
      show Go p e below _ (T437.setTop (mkF m 51 #[.val (.int k_), .val (.int xa), .val (.int xb), .val (.int xs), .val (.int xm), .val (.int (3 : Int32)), .val (.ref k3_), .val (.int (1 : Int32)), .val (.int c438), .val (.int c439), .val (.int (1 : Int32)), .unset, .unset, .unset, .unset, .unset, .unset] []))
      refine s_iload S437 (hb hby at_51) rfl (pc' := 53) rfl ?_
      refine s_ifN S437 (hb hby at_53) (by decide) (pc' := 56) rfl ?_
      refine s_iload S437 (hb hby at_56) rfl (pc' := 58) rfl ?_
      refine s_ifY S437 (hb hby at_58) (by decide) (by decide) (pcT := 64) (by decide) ?_
      refine s_iload S437 (hb hby at_64) rfl (pc' := 66) rfl ?_
      refine s_ifY S437 (hb hby at_66) (by decide) (by decide) (pcT := 77) (by decide) ?_
      refine s_iload S437 (hb hby at_77) rfl (pc' := 79) rfl ?_
      refine s_iconst S437 (hb hby at_79) (v := (1 : Int32)) rfl (pc' := 80) rfl ?_
      refine s_icmpN S437 (hb hby at_80) (by decide) (pc' := 83) rfl ?_
      refine s_iconst S437 (hb hby at_83) (v := (1 : Int32)) rfl (pc' := 84) rfl ?_
      refine g_newarr (aty := .char) S437 (w9 hw) (hb hby at_84) (by decide) (cap := 1) (by decide) (by decide) (Nat.le_of_ble_eq_true rfl) (Nat.le_of_ble_eq_true rfl) ?_
      intro T475 h475 b475 kc475 S475 E475 fr475 lt475 na475 sf475 A475
      have V475 : Arv Z h475 b475 kc475 .char (1 : Int32) [(.int (0 : Int32))] (.int (0 : Int32)) := A475 1
      show Go p e below _ (T475.setTop (mkF m 86 #[.val (.int k_), .val (.int xa), .val (.int xb), .val (.int xs), .val (.int xm), .val (.int (3 : Int32)), .val (.ref k3_), .val (.int (1 : Int32)), .val (.int c438), .val (.int c439), .val (.int (1 : Int32)), .unset, .unset, .unset, .unset, .unset, .unset] [(.ref b475)]))
      refine s_dup S475 (hb hby at_86) rfl (pc' := 87) rfl ?_
      refine s_iconst S475 (hb hby at_87) (v := (0 : Int32)) rfl (pc' := 88) rfl ?_
      refine s_iload S475 (hb hby at_88) rfl (pc' := 90) rfl ?_
      refine g_castore S475 V475 ⟨by decide, by decide⟩ 0 rfl (Nat.le_of_ble_eq_true rfl) na475 (hb hby at_90) ?_
      intro T476 h476 S476 K476 V476
      rw [narC rc438] at V476
      have V476 : Arv Z h476 b475 kc475 .char (1 : Int32) [(.int c438)] (.int (0 : Int32)) := V476
      show Go p e below _ (T476.setTop (mkF m 91 #[.val (.int k_), .val (.int xa), .val (.int xb), .val (.int xs), .val (.int xm), .val (.int (3 : Int32)), .val (.ref k3_), .val (.int (1 : Int32)), .val (.int c438), .val (.int c439), .val (.int (1 : Int32)), .unset, .unset, .unset, .unset, .unset, .unset] [(.ref b475)]))
      refine s_astore S476 (hb hby at_91) rfl (L' := #[.val (.int k_), .val (.int xa), .val (.int xb), .val (.int xs), .val (.int xm), .val (.int (3 : Int32)), .val (.ref k3_), .val (.int (1 : Int32)), .val (.int c438), .val (.int c439), .val (.int (1 : Int32)), .val (.ref b475), .unset, .unset, .unset, .unset, .unset]) rfl (pc' := 93) rfl ?_
      refine s_goto S476 (hb hby at_93) (by decide) (pcT := 111) (by decide) ?_
      refine g_new S476 (w10 hw) (w11 hw) (w12 hw) (hb hby at_111) (Nat.le_of_ble_eq_true rfl) (Nat.le_of_ble_eq_true rfl) ?_
      intro T477 h477 b477 S477 E477 fr477 lt477 na477 sf477 A477 D477
      have F478 : Fld Z h477 b477 "java/lang/String" "value" "[B" .null := D477 (Or.inr (w25 hw)) (ty := (.array .byte)) (by decide)
      have F479 : Fld Z h477 b477 "java/lang/String" "coder" "B" (.int (0 : Int32)) := D477 (Or.inr (w26 hw)) (ty := .byte) (by decide)
      show Go p e below _ (T477.setTop (mkF m 114 #[.val (.int k_), .val (.int xa), .val (.int xb), .val (.int xs), .val (.int xm), .val (.int (3 : Int32)), .val (.ref k3_), .val (.int (1 : Int32)), .val (.int c438), .val (.int c439), .val (.int (1 : Int32)), .val (.ref b475), .unset, .unset, .unset, .unset, .unset] [(.ref b477)]))
      refine s_dup S477 (hb hby at_114) rfl (pc' := 115) rfl ?_
      refine s_aload S477 (hb hby at_115) rfl rfl (pc' := 117) rfl ?_
      have K480 : ∀ (T481 : State) (V481 : Vm) (h481 : Heap), St p l e room_1 s m #[(.int k_), (.int xa), (.int xb), (.int xs), (.int xm)] below meth c Z a0 EL1 n0 "com/example/converge_to_schema/convergetoschema/schema/TokenIsSymbolPinLaw" T481 V481 h481 4 8 → Ext h476 h481 → StrF Z h481 b477 [c438] → Go p e below (Fini Z EL1 n0 s room_1 (fun v h' => v = some (.int 1) ∧ True)) (T481.setTop (mkF m 120 #[.val (.int k_), .val (.int xa), .val (.int xb), .val (.int xs), .val (.int xm), .val (.int (3 : Int32)), .val (.ref k3_), .val (.int (1 : Int32)), .val (.int c438), .val (.int c439), .val (.int (1 : Int32)), .val (.ref b475), .unset, .unset, .unset, .unset, .unset] [(.ref b477)])) := by
        intro T481 V481 h481 S481 EJ481 FJ481
        show Go p e below _ (T481.setTop (mkF m 120 #[.val (.int k_), .val (.int xa), .val (.int xb), .val (.int xs), .val (.int xm), .val (.int (3 : Int32)), .val (.ref k3_), .val (.int (1 : Int32)), .val (.int c438), .val (.int c439), .val (.int (1 : Int32)), .val (.ref b475), .unset, .unset, .unset, .unset, .unset] [(.ref b477)]))
        refine s_astore S481 (hb hby at_120) rfl (L' := #[.val (.int k_), .val (.int xa), .val (.int xb), .val (.int xs), .val (.int xm), .val (.int (3 : Int32)), .val (.ref k3_), .val (.int (1 : Int32)), .val (.int c438), .val (.int c439), .val (.int (1 : Int32)), .val (.ref b475), .val (.ref b477), .unset, .unset, .unset, .unset]) rfl (pc' := 122) rfl ?_
        refine s_iload S481 (hb hby at_122) rfl (pc' := 124) rfl ?_
        refine s_iconst S481 (hb hby at_124) (v := (2 : Int32)) rfl (pc' := 125) rfl ?_
        refine s_ishr S481 (hb hby at_125) (z := (xm >>> ((2 : Int32) &&& 31))) rfl (pc' := 126) rfl ?_
        refine s_iconst S481 (hb hby at_126) (v := (3 : Int32)) rfl (pc' := 127) rfl ?_
        refine s_iand S481 (hb hby at_127) (z := ((xm >>> ((2 : Int32) &&& 31)) &&& (3 : Int32))) rfl (pc' := 128) rfl ?_
        generalize epk482 : ((xm >>> ((2 : Int32) &&& 31)) &&& (3 : Int32)) = pk482
        refine s_istore S481 (hb hby at_128) (L' := #[.val (.int k_), .val (.int xa), .val (.int xb), .val (.int xs), .val (.int xm), .val (.int (3 : Int32)), .val (.ref k3_), .val (.int (1 : Int32)), .val (.int c438), .val (.int c439), .val (.int (1 : Int32)), .val (.ref b475), .val (.ref b477), .val (.int pk482), .unset, .unset, .unset]) rfl (pc' := 130) rfl ?_
        have K483 : ∀ sm : Int32, Go p e below (Fini Z EL1 n0 s room_1 (fun v h' => v = some (.int 1) ∧ True)) (T481.setTop (mkF m 162 #[.val (.int k_), .val (.int xa), .val (.int xb), .val (.int xs), .val (.int xm), .val (.int (3 : Int32)), .val (.ref k3_), .val (.int (1 : Int32)), .val (.int c438), .val (.int c439), .val (.int (1 : Int32)), .val (.ref b475), .val (.ref b477), .val (.int pk482), .val (.int sm), .unset, .unset] [])) := by
          intro sm
          show Go p e below _ (T481.setTop (mkF m 162 #[.val (.int k_), .val (.int xa), .val (.int xb), .val (.int xs), .val (.int xm), .val (.int (3 : Int32)), .val (.ref k3_), .val (.int (1 : Int32)), .val (.int c438), .val (.int c439), .val (.int (1 : Int32)), .val (.ref b475), .val (.ref b477), .val (.int pk482), .val (.int sm), .unset, .unset] []))
          refine g_new S481 (w31 hw) (w32 hw) (w33 hw) (hb hby at_162) (Nat.le_of_ble_eq_true rfl) (Nat.le_of_ble_eq_true rfl) ?_
          intro T484 h484 b484 S484 E484 fr484 lt484 na484 sf484 A484 D484
          have F485 : Fld Z h484 b484 "com/example/converge_to_schema/convergetoschema/schema/Token" "kind" "Lcom/example/converge_to_schema/convergetoschema/schema/Token$Kind;" .null := D484 (Or.inr (w39 hw)) (ty := (.object "com/example/converge_to_schema/convergetoschema/schema/Token$Kind")) (by decide)
          have F486 : Fld Z h484 b484 "com/example/converge_to_schema/convergetoschema/schema/Token" "text" "Ljava/lang/String;" .null := D484 (Or.inr (w41 hw)) (ty := (.object "java/lang/String")) (by decide)
          have F487 : Fld Z h484 b484 "com/example/converge_to_schema/convergetoschema/schema/Token" "line" "I" (.int (0 : Int32)) := D484 (Or.inr (w43 hw)) (ty := .int) (by decide)
          have F488 : Fld Z h484 b484 "com/example/converge_to_schema/convergetoschema/schema/Token" "column" "I" (.int (0 : Int32)) := D484 (Or.inr (w45 hw)) (ty := .int) (by decide)
          show Go p e below _ (T484.setTop (mkF m 165 #[.val (.int k_), .val (.int xa), .val (.int xb), .val (.int xs), .val (.int xm), .val (.int (3 : Int32)), .val (.ref k3_), .val (.int (1 : Int32)), .val (.int c438), .val (.int c439), .val (.int (1 : Int32)), .val (.ref b475), .val (.ref b477), .val (.int pk482), .val (.int sm), .unset, .unset] [(.ref b484)]))
          refine s_dup S484 (hb hby at_165) rfl (pc' := 166) rfl ?_
          refine s_aload S484 (hb hby at_166) rfl rfl (pc' := 168) rfl ?_
          refine s_aload S484 (hb hby at_168) rfl rfl (pc' := 170) rfl ?_
          refine s_iloadN S484 (hb hby at_170) rfl (pc' := 171) rfl ?_
          refine s_iloadN S484 (hb hby at_171) rfl (pc' := 172) rfl ?_
          show Go p e below _ (T484.setTop (mkF m 172 #[.val (.int k_), .val (.int xa), .val (.int xb), .val (.int xs), .val (.int xm), .val (.int (3 : Int32)), .val (.ref k3_), .val (.int (1 : Int32)), .val (.int c438), .val (.int c439), .val (.int (1 : Int32)), .val (.ref b475), .val (.ref b477), .val (.int pk482), .val (.int sm), .unset, .unset] [(.int k_), (.int xs), (.ref b477), (.ref k3_), (.ref b484), (.ref b484)]))
          refine g_special S484 (rmTK X na484 S484.old A484 F485 F486 F487 F488) (fun _ q => nomatch q) rfl (w34 hw) (w35 hw) (w33 hw) (w36 hw) (by decide) (hb hby at_172) (by rw [hml]; rfl) b484 [(.ref k3_), (.ref b477), (.int xs), (.int k_)] (lenOf pd15 rfl) rfl rfl (Nat.le_of_ble_eq_true rfl) (Nat.le_of_ble_eq_true rfl) (Nat.le_of_ble_eq_true rfl) (Nat.le_of_ble_eq_true rfl) ?_
          intro v490 T490 V490 h490 S490 C490 q490
          obtain ⟨rfl, Ko489, Ao489, Fko489, Fto489⟩ := q490
          show Go p e below _ (T490.setTop (mkF m 175 #[.val (.int k_), .val (.int xa), .val (.int xb), .val (.int xs), .val (.int xm), .val (.int (3 : Int32)), .val (.ref k3_), .val (.int (1 : Int32)), .val (.int c438), .val (.int c439), .val (.int (1 : Int32)), .val (.ref b475), .val (.ref b477), .val (.int pk482), .val (.int sm), .unset, .unset] [(.ref b484)]))
          refine s_astore S490 (hb hby at_175) rfl (L' := #[.val (.int k_), .val (.int xa), .val (.int xb), .val (.int xs), .val (.int xm), .val (.int (3 : Int32)), .val (.ref k3_), .val (.int (1 : Int32)), .val (.int c438), .val (.int c439), .val (.int (1 : Int32)), .val (.ref b475), .val (.ref b477), .val (.int pk482), .val (.int sm), .val (.ref b484), .unset]) rfl (pc' := 177) rfl ?_
          refine s_iload S490 (hb hby at_177) rfl (pc' := 179) rfl ?_
          refine s_ifN S490 (hb hby at_179) (by decide) (pc' := 182) rfl ?_
          refine s_iload S490 (hb hby at_182) rfl (pc' := 184) rfl ?_
          refine s_iload S490 (hb hby at_184) rfl (pc' := 186) rfl ?_
          refine g_icmp S490 (hb hby at_186) (by decide) (pcT := 193) (by decide) (fun q => ?_) (fun q => ?_)
          · have hc186_491 : ¬ c438 = sm := icT_ne q
            show Go p e below _ (T490.setTop (mkF m 193 #[.val (.int k_), .val (.int xa), .val (.int xb), .val (.int xs), .val (.int xm), .val (.int (3 : Int32)), .val (.ref k3_), .val (.int (1 : Int32)), .val (.int c438), .val (.int c439), .val (.int (1 : Int32)), .val (.ref b475), .val (.ref b477), .val (.int pk482), .val (.int sm), .val (.ref b484), .unset] []))
            refine s_iconst S490 (hb hby at_193) (v := (0 : Int32)) rfl (pc' := 194) rfl ?_
            refine s_istore S490 (hb hby at_194) (L' := #[.val (.int k_), .val (.int xa), .val (.int xb), .val (.int xs), .val (.int xm), .val (.int (3 : Int32)), .val (.ref k3_), .val (.int (1 : Int32)), .val (.int c438), .val (.int c439), .val (.int (1 : Int32)), .val (.ref b475), .val (.ref b477), .val (.int pk482), .val (.int sm), .val (.ref b484), .val (.int (0 : Int32))]) rfl (pc' := 196) rfl ?_
            refine s_aload S490 (hb hby at_196) rfl rfl (pc' := 198) rfl ?_
            refine s_iload S490 (hb hby at_198) rfl (pc' := 200) rfl ?_
            have X493 : Ext h481 h490 := ext_keep1 E484 Ko489 fr484
            have FJ494 := FJ481.ext X493
            show Go p e below _ (T490.setTop (mkF m 200 #[.val (.int k_), .val (.int xa), .val (.int xb), .val (.int xs), .val (.int xm), .val (.int (3 : Int32)), .val (.ref k3_), .val (.int (1 : Int32)), .val (.int c438), .val (.int c439), .val (.int (1 : Int32)), .val (.ref b475), .val (.ref b477), .val (.int pk482), .val (.int sm), .val (.ref b484), .val (.int (0 : Int32))] [(.int sm), (.ref b484)]))
            refine g_virtual S490 (rmI1 X S490.old Ao489 Fko489 Fto489 hk3 FJ494) (fun _ q => nomatch q) (w46 hw) (w47 hw) (w49 hw) (w48 hw) (w33 hw) (w50 hw) (by decide) (fun _ h => notFace_of_selects h) (hb hby at_200) (by rw [hml]; rfl) b484 Ao489 [(.int sm)] (lenOf pd16 rfl) rfl rfl (Nat.le_of_ble_eq_true rfl) (Nat.le_of_ble_eq_true rfl) (Nat.le_of_ble_eq_true rfl) (Nat.le_of_ble_eq_true rfl) ?_
            intro v495 T495 V495 h495 S495 C495 q495
            obtain ⟨g492, rfl, hg492, rfl⟩ := q495
            obtain rfl : g492 = 0 := hg492.elim (fun q => absurd q.2 hc186_491) (fun q => q.1)
            show Go p e below _ (T495.setTop (mkF m 203 #[.val (.int k_), .val (.int xa), .val (.int xb), .val (.int xs), .val (.int xm), .val (.int (3 : Int32)), .val (.ref k3_), .val (.int (1 : Int32)), .val (.int c438), .val (.int c439), .val (.int (1 : Int32)), .val (.ref b475), .val (.ref b477), .val (.int pk482), .val (.int sm), .val (.ref b484), .val (.int (0 : Int32))] [(.int (0 : Int32))]))
            refine s_iload S495 (hb hby at_203) rfl (pc' := 205) rfl ?_
            refine s_icmpN S495 (hb hby at_205) (by decide) (pc' := 208) rfl ?_
            refine s_iconst S495 (hb hby at_208) (v := (1 : Int32)) rfl (pc' := 209) rfl ?_
            refine s_goto S495 (hb hby at_209) (by decide) (pcT := 213) (by decide) ?_
            exact g_iretN S495 (hb hby at_213) hret (by simp) ⟨rfl, trivial⟩
          · have hc186_491 : c438 = sm := icF_ne q
            show Go p e below _ (T490.setTop (mkF m 189 #[.val (.int k_), .val (.int xa), .val (.int xb), .val (.int xs), .val (.int xm), .val (.int (3 : Int32)), .val (.ref k3_), .val (.int (1 : Int32)), .val (.int c438), .val (.int c439), .val (.int (1 : Int32)), .val (.ref b475), .val (.ref b477), .val (.int pk482), .val (.int sm), .val (.ref b484), .unset] []))
            refine s_iconst S490 (hb hby at_189) (v := (1 : Int32)) rfl (pc' := 190) rfl ?_
            refine s_goto S490 (hb hby at_190) (by decide) (pcT := 194) (by decide) ?_
            refine s_istore S490 (hb hby at_194) (L' := #[.val (.int k_), .val (.int xa), .val (.int xb), .val (.int xs), .val (.int xm), .val (.int (3 : Int32)), .val (.ref k3_), .val (.int (1 : Int32)), .val (.int c438), .val (.int c439), .val (.int (1 : Int32)), .val (.ref b475), .val (.ref b477), .val (.int pk482), .val (.int sm), .val (.ref b484), .val (.int (1 : Int32))]) rfl (pc' := 196) rfl ?_
            refine s_aload S490 (hb hby at_196) rfl rfl (pc' := 198) rfl ?_
            refine s_iload S490 (hb hby at_198) rfl (pc' := 200) rfl ?_
            have X497 : Ext h481 h490 := ext_keep1 E484 Ko489 fr484
            have FJ498 := FJ481.ext X497
            show Go p e below _ (T490.setTop (mkF m 200 #[.val (.int k_), .val (.int xa), .val (.int xb), .val (.int xs), .val (.int xm), .val (.int (3 : Int32)), .val (.ref k3_), .val (.int (1 : Int32)), .val (.int c438), .val (.int c439), .val (.int (1 : Int32)), .val (.ref b475), .val (.ref b477), .val (.int pk482), .val (.int sm), .val (.ref b484), .val (.int (1 : Int32))] [(.int sm), (.ref b484)]))
            refine g_virtual S490 (rmI1 X S490.old Ao489 Fko489 Fto489 hk3 FJ498) (fun _ q => nomatch q) (w46 hw) (w47 hw) (w49 hw) (w48 hw) (w33 hw) (w50 hw) (by decide) (fun _ h => notFace_of_selects h) (hb hby at_200) (by rw [hml]; rfl) b484 Ao489 [(.int sm)] (lenOf pd16 rfl) rfl rfl (Nat.le_of_ble_eq_true rfl) (Nat.le_of_ble_eq_true rfl) (Nat.le_of_ble_eq_true rfl) (Nat.le_of_ble_eq_true rfl) ?_
            intro v499 T499 V499 h499 S499 C499 q499
            obtain ⟨g496, rfl, hg496, rfl⟩ := q499
            obtain rfl : g496 = 1 := hg496.elim (fun q => q.1) (fun q => absurd hc186_491 q.2)
            show Go p e below _ (T499.setTop (mkF m 203 #[.val (.int k_), .val (.int xa), .val (.int xb), .val (.int xs), .val (.int xm), .val (.int (3 : Int32)), .val (.ref k3_), .val (.int (1 : Int32)), .val (.int c438), .val (.int c439), .val (.int (1 : Int32)), .val (.ref b475), .val (.ref b477), .val (.int pk482), .val (.int sm), .val (.ref b484), .val (.int (1 : Int32))] [(.int (1 : Int32))]))
            refine s_iload S499 (hb hby at_203) rfl (pc' := 205) rfl ?_
            refine s_icmpN S499 (hb hby at_205) (by decide) (pc' := 208) rfl ?_
            refine s_iconst S499 (hb hby at_208) (v := (1 : Int32)) rfl (pc' := 209) rfl ?_
            refine s_goto S499 (hb hby at_209) (by decide) (pcT := 213) (by decide) ?_
            exact g_iretN S499 (hb hby at_213) hret (by simp) ⟨rfl, trivial⟩
        refine s_iload S481 (hb hby at_130) rfl (pc' := 132) rfl ?_
        refine g_if S481 (hb hby at_132) (by decide) (pcT := 142) (by decide) (fun q => ?_) (fun q => ?_)
        · have hc132_500 : ¬ pk482 = (0 : Int32) := icT_ne q
          show Go p e below _ (T481.setTop (mkF m 142 #[.val (.int k_), .val (.int xa), .val (.int xb), .val (.int xs), .val (.int xm), .val (.int (3 : Int32)), .val (.ref k3_), .val (.int (1 : Int32)), .val (.int c438), .val (.int c439), .val (.int (1 : Int32)), .val (.ref b475), .val (.ref b477), .val (.int pk482), .unset, .unset, .unset] []))
          refine s_iload S481 (hb hby at_142) rfl (pc' := 144) rfl ?_
          refine s_iconst S481 (hb hby at_144) (v := (1 : Int32)) rfl (pc' := 145) rfl ?_
          refine g_icmp S481 (hb hby at_145) (by decide) (pcT := 155) (by decide) (fun q => ?_) (fun q => ?_)
          · have hc145_501 : ¬ pk482 = (1 : Int32) := icT_ne q
            show Go p e below _ (T481.setTop (mkF m 155 #[.val (.int k_), .val (.int xa), .val (.int xb), .val (.int xs), .val (.int xm), .val (.int (3 : Int32)), .val (.ref k3_), .val (.int (1 : Int32)), .val (.int c438), .val (.int c439), .val (.int (1 : Int32)), .val (.ref b475), .val (.ref b477), .val (.int pk482), .unset, .unset, .unset] []))
            refine s_iloadN S481 (hb hby at_155) rfl (pc' := 156) rfl ?_
            refine g_ldcI S481 (w8 hw) (hb hby at_156) ?_
            show Go p e below _ (T481.setTop (mkF m 158 #[.val (.int k_), .val (.int xa), .val (.int xb), .val (.int xs), .val (.int xm), .val (.int (3 : Int32)), .val (.ref k3_), .val (.int (1 : Int32)), .val (.int c438), .val (.int c439), .val (.int (1 : Int32)), .val (.ref b475), .val (.ref b477), .val (.int pk482), .unset, .unset, .unset] [(.int (65535 : Int32)), (.int xs)]))
            refine s_iand S481 (hb hby at_158) (z := (xs &&& (65535 : Int32))) rfl (pc' := 159) rfl ?_
            refine s_i2c S481 (hb hby at_159) (z := ((xs &&& (65535 : Int32)).toUInt32.toUInt16.toUInt32.toInt32)) rfl (pc' := 160) rfl ?_
            generalize esy502 : ((xs &&& (65535 : Int32)).toUInt32.toUInt16.toUInt32.toInt32) = sy502
            refine s_istore S481 (hb hby at_160) (L' := #[.val (.int k_), .val (.int xa), .val (.int xb), .val (.int xs), .val (.int xm), .val (.int (3 : Int32)), .val (.ref k3_), .val (.int (1 : Int32)), .val (.int c438), .val (.int c439), .val (.int (1 : Int32)), .val (.ref b475), .val (.ref b477), .val (.int pk482), .val (.int sy502), .unset, .unset]) rfl (pc' := 162) rfl ?_
            exact K483 _
          · have hc145_501 : pk482 = (1 : Int32) := icF_ne q
            show Go p e below _ (T481.setTop (mkF m 148 #[.val (.int k_), .val (.int xa), .val (.int xb), .val (.int xs), .val (.int xm), .val (.int (3 : Int32)), .val (.ref k3_), .val (.int (1 : Int32)), .val (.int c438), .val (.int c439), .val (.int (1 : Int32)), .val (.ref b475), .val (.ref b477), .val (.int pk482), .unset, .unset, .unset] []))
            refine s_iload S481 (hb hby at_148) rfl (pc' := 150) rfl ?_
            refine s_istore S481 (hb hby at_150) (L' := #[.val (.int k_), .val (.int xa), .val (.int xb), .val (.int xs), .val (.int xm), .val (.int (3 : Int32)), .val (.ref k3_), .val (.int (1 : Int32)), .val (.int c438), .val (.int c439), .val (.int (1 : Int32)), .val (.ref b475), .val (.ref b477), .val (.int pk482), .val (.int c439), .unset, .unset]) rfl (pc' := 152) rfl ?_
            refine s_goto S481 (hb hby at_152) (by decide) (pcT := 162) (by decide) ?_
            exact K483 _
        · have hc132_500 : pk482 = (0 : Int32) := icF_ne q
          show Go p e below _ (T481.setTop (mkF m 135 #[.val (.int k_), .val (.int xa), .val (.int xb), .val (.int xs), .val (.int xm), .val (.int (3 : Int32)), .val (.ref k3_), .val (.int (1 : Int32)), .val (.int c438), .val (.int c439), .val (.int (1 : Int32)), .val (.ref b475), .val (.ref b477), .val (.int pk482), .unset, .unset, .unset] []))
          refine s_iload S481 (hb hby at_135) rfl (pc' := 137) rfl ?_
          refine s_istore S481 (hb hby at_137) (L' := #[.val (.int k_), .val (.int xa), .val (.int xb), .val (.int xs), .val (.int xm), .val (.int (3 : Int32)), .val (.ref k3_), .val (.int (1 : Int32)), .val (.int c438), .val (.int c439), .val (.int (1 : Int32)), .val (.ref b475), .val (.ref b477), .val (.int pk482), .val (.int c438), .unset, .unset]) rfl (pc' := 139) rfl ?_
          refine s_goto S481 (hb hby at_139) (by decide) (pcT := 162) (by decide) ?_
          exact K483 _
      rcases Classical.em ((255 : Int32) < c438) with hwd | hnw
      · skip
        show Go p e below _ (T477.setTop (mkF m 117 #[.val (.int k_), .val (.int xa), .val (.int xb), .val (.int xs), .val (.int xm), .val (.int (3 : Int32)), .val (.ref k3_), .val (.int (1 : Int32)), .val (.int c438), .val (.int c439), .val (.int (1 : Int32)), .val (.ref b475), .unset, .unset, .unset, .unset, .unset] [(.ref b475), (.ref b477), (.ref b477)]))
        have V503 := V476.ext E477
        refine g_special S477 (rmW11 X na477 S477.old A477 F478 F479 V503 rc438 hwd) (sf1 (A477).lt sf477) rfl (w13 hw) (w14 hw) (w12 hw) (w15 hw) (by decide) (hb hby at_117) (by rw [hml]; rfl) b477 [.ref b475] (lenOf pd14 rfl) rfl rfl (Nat.le_of_ble_eq_true rfl) (Nat.le_of_ble_eq_true rfl) (Nat.le_of_ble_eq_true rfl) (Nat.le_of_ble_eq_true rfl) ?_
        intro v504 T504 V504 h504 S504 C504 q504
        obtain ⟨rfl, K504, F504⟩ := q504
        show Go p e below _ (T504.setTop (mkF m 120 #[.val (.int k_), .val (.int xa), .val (.int xb), .val (.int xs), .val (.int xm), .val (.int (3 : Int32)), .val (.ref k3_), .val (.int (1 : Int32)), .val (.int c438), .val (.int c439), .val (.int (1 : Int32)), .val (.ref b475), .unset, .unset, .unset, .unset, .unset] [(.ref b477)]))
        have X505 : Ext h476 h504 := ext_keep1 E477 K504 fr477
        exact K480 _ _ _ (S504.mono (Nat.le_of_ble_eq_true rfl) (Nat.le_of_ble_eq_true rfl)) X505 F504
      · skip
        show Go p e below _ (T477.setTop (mkF m 117 #[.val (.int k_), .val (.int xa), .val (.int xb), .val (.int xs), .val (.int xm), .val (.int (3 : Int32)), .val (.ref k3_), .val (.int (1 : Int32)), .val (.int c438), .val (.int c439), .val (.int (1 : Int32)), .val (.ref b475), .unset, .unset, .unset, .unset, .unset] [(.ref b475), (.ref b477), (.ref b477)]))
        have r8c438 : ¬ c438 < 0 ∧ ¬ (255 : Int32) < c438 := ⟨rc438.1, fun q => hnw (q)⟩
        show Go p e below _ (T477.setTop (mkF m 117 #[.val (.int k_), .val (.int xa), .val (.int xb), .val (.int xs), .val (.int xm), .val (.int (3 : Int32)), .val (.ref k3_), .val (.int (1 : Int32)), .val (.int c438), .val (.int c439), .val (.int (1 : Int32)), .val (.ref b475), .unset, .unset, .unset, .unset, .unset] [(.ref b475), (.ref b477), (.ref b477)]))
        have V507 := V476.ext E477
        refine g_newStr S477 X (cs := [c438]) (Nat.le_of_ble_eq_true rfl) (Nat.le_of_ble_eq_true rfl) rfl na477 sf477 A477 F478 F479 V507 (faS r8c438 fa0) (w13 hw) (hb hby at_117) (by rw [hml]; rfl) (Nat.le_of_ble_eq_true rfl) (Nat.le_of_ble_eq_true rfl) (Nat.le_of_ble_eq_true rfl) (Nat.le_of_ble_eq_true rfl) ?_
        intro T506 h506 S506 K506 F506
        show Go p e below _ (T506.setTop (mkF m 120 #[.val (.int k_), .val (.int xa), .val (.int xb), .val (.int xs), .val (.int xm), .val (.int (3 : Int32)), .val (.ref k3_), .val (.int (1 : Int32)), .val (.int c438), .val (.int c439), .val (.int (1 : Int32)), .val (.ref b475), .unset, .unset, .unset, .unset, .unset] [(.ref b477)]))
        have X508 : Ext h476 h506 := ext_keep1 E477 K506 fr477
        exact K480 _ _ _ (S506.mono (Nat.le_of_ble_eq_true rfl) (Nat.le_of_ble_eq_true rfl)) X508 F506
    · skip
      show Go p e below _ (T437.setTop (mkF m 51 #[.val (.int k_), .val (.int xa), .val (.int xb), .val (.int xs), .val (.int xm), .val (.int (3 : Int32)), .val (.ref k3_), .val (.int (1 : Int32)), .val (.int c438), .val (.int c439), .val (.int (2 : Int32)), .unset, .unset, .unset, .unset, .unset, .unset] []))
      refine s_iload S437 (hb hby at_51) rfl (pc' := 53) rfl ?_
      refine s_ifN S437 (hb hby at_53) (by decide) (pc' := 56) rfl ?_
      refine s_iload S437 (hb hby at_56) rfl (pc' := 58) rfl ?_
      refine s_ifY S437 (hb hby at_58) (by decide) (by decide) (pcT := 64) (by decide) ?_
      refine s_iload S437 (hb hby at_64) rfl (pc' := 66) rfl ?_
      refine s_ifY S437 (hb hby at_66) (by decide) (by decide) (pcT := 77) (by decide) ?_
      refine s_iload S437 (hb hby at_77) rfl (pc' := 79) rfl ?_
      refine s_iconst S437 (hb hby at_79) (v := (1 : Int32)) rfl (pc' := 80) rfl ?_
      refine s_icmpY S437 (hb hby at_80) (by decide) (by decide) (pcT := 96) (by decide) ?_
      refine s_iconst S437 (hb hby at_96) (v := (2 : Int32)) rfl (pc' := 97) rfl ?_
      refine g_newarr (aty := .char) S437 (w9 hw) (hb hby at_97) (by decide) (cap := 2) (by decide) (by decide) (Nat.le_of_ble_eq_true rfl) (Nat.le_of_ble_eq_true rfl) ?_
      intro T509 h509 b509 kc509 S509 E509 fr509 lt509 na509 sf509 A509
      have V509 : Arv Z h509 b509 kc509 .char (2 : Int32) [(.int (0 : Int32)), (.int (0 : Int32))] (.int (0 : Int32)) := A509 2
      show Go p e below _ (T509.setTop (mkF m 99 #[.val (.int k_), .val (.int xa), .val (.int xb), .val (.int xs), .val (.int xm), .val (.int (3 : Int32)), .val (.ref k3_), .val (.int (1 : Int32)), .val (.int c438), .val (.int c439), .val (.int (2 : Int32)), .unset, .unset, .unset, .unset, .unset, .unset] [(.ref b509)]))
      refine s_dup S509 (hb hby at_99) rfl (pc' := 100) rfl ?_
      refine s_iconst S509 (hb hby at_100) (v := (0 : Int32)) rfl (pc' := 101) rfl ?_
      refine s_iload S509 (hb hby at_101) rfl (pc' := 103) rfl ?_
      refine g_castore S509 V509 ⟨by decide, by decide⟩ 0 rfl (Nat.le_of_ble_eq_true rfl) na509 (hb hby at_103) ?_
      intro T510 h510 S510 K510 V510
      rw [narC rc438] at V510
      have V510 : Arv Z h510 b509 kc509 .char (2 : Int32) [(.int c438), (.int (0 : Int32))] (.int (0 : Int32)) := V510
      show Go p e below _ (T510.setTop (mkF m 104 #[.val (.int k_), .val (.int xa), .val (.int xb), .val (.int xs), .val (.int xm), .val (.int (3 : Int32)), .val (.ref k3_), .val (.int (1 : Int32)), .val (.int c438), .val (.int c439), .val (.int (2 : Int32)), .unset, .unset, .unset, .unset, .unset, .unset] [(.ref b509)]))
      refine s_dup S510 (hb hby at_104) rfl (pc' := 105) rfl ?_
      refine s_iconst S510 (hb hby at_105) (v := (1 : Int32)) rfl (pc' := 106) rfl ?_
      refine s_iload S510 (hb hby at_106) rfl (pc' := 108) rfl ?_
      refine g_castore S510 V510 ⟨by decide, by decide⟩ 1 rfl (Nat.le_of_ble_eq_true rfl) na509 (hb hby at_108) ?_
      intro T511 h511 S511 K511 V511
      rw [narC rc439] at V511
      have V511 : Arv Z h511 b509 kc509 .char (2 : Int32) [(.int c438), (.int c439)] (.int (0 : Int32)) := V511
      show Go p e below _ (T511.setTop (mkF m 109 #[.val (.int k_), .val (.int xa), .val (.int xb), .val (.int xs), .val (.int xm), .val (.int (3 : Int32)), .val (.ref k3_), .val (.int (1 : Int32)), .val (.int c438), .val (.int c439), .val (.int (2 : Int32)), .unset, .unset, .unset, .unset, .unset, .unset] [(.ref b509)]))
      refine s_astore S511 (hb hby at_109) rfl (L' := #[.val (.int k_), .val (.int xa), .val (.int xb), .val (.int xs), .val (.int xm), .val (.int (3 : Int32)), .val (.ref k3_), .val (.int (1 : Int32)), .val (.int c438), .val (.int c439), .val (.int (2 : Int32)), .val (.ref b509), .unset, .unset, .unset, .unset, .unset]) rfl (pc' := 111) rfl ?_
      refine g_new S511 (w10 hw) (w11 hw) (w12 hw) (hb hby at_111) (Nat.le_of_ble_eq_true rfl) (Nat.le_of_ble_eq_true rfl) ?_
      intro T512 h512 b512 S512 E512 fr512 lt512 na512 sf512 A512 D512
      have F513 : Fld Z h512 b512 "java/lang/String" "value" "[B" .null := D512 (Or.inr (w25 hw)) (ty := (.array .byte)) (by decide)
      have F514 : Fld Z h512 b512 "java/lang/String" "coder" "B" (.int (0 : Int32)) := D512 (Or.inr (w26 hw)) (ty := .byte) (by decide)
      show Go p e below _ (T512.setTop (mkF m 114 #[.val (.int k_), .val (.int xa), .val (.int xb), .val (.int xs), .val (.int xm), .val (.int (3 : Int32)), .val (.ref k3_), .val (.int (1 : Int32)), .val (.int c438), .val (.int c439), .val (.int (2 : Int32)), .val (.ref b509), .unset, .unset, .unset, .unset, .unset] [(.ref b512)]))
      refine s_dup S512 (hb hby at_114) rfl (pc' := 115) rfl ?_
      refine s_aload S512 (hb hby at_115) rfl rfl (pc' := 117) rfl ?_
      have K515 : ∀ (T516 : State) (V516 : Vm) (h516 : Heap), St p l e room_1 s m #[(.int k_), (.int xa), (.int xb), (.int xs), (.int xm)] below meth c Z a0 EL1 n0 "com/example/converge_to_schema/convergetoschema/schema/TokenIsSymbolPinLaw" T516 V516 h516 4 12 → Ext h511 h516 → StrF Z h516 b512 [c438, c439] → Go p e below (Fini Z EL1 n0 s room_1 (fun v h' => v = some (.int 1) ∧ True)) (T516.setTop (mkF m 120 #[.val (.int k_), .val (.int xa), .val (.int xb), .val (.int xs), .val (.int xm), .val (.int (3 : Int32)), .val (.ref k3_), .val (.int (1 : Int32)), .val (.int c438), .val (.int c439), .val (.int (2 : Int32)), .val (.ref b509), .unset, .unset, .unset, .unset, .unset] [(.ref b512)])) := by
        intro T516 V516 h516 S516 EJ516 FJ516
        show Go p e below _ (T516.setTop (mkF m 120 #[.val (.int k_), .val (.int xa), .val (.int xb), .val (.int xs), .val (.int xm), .val (.int (3 : Int32)), .val (.ref k3_), .val (.int (1 : Int32)), .val (.int c438), .val (.int c439), .val (.int (2 : Int32)), .val (.ref b509), .unset, .unset, .unset, .unset, .unset] [(.ref b512)]))
        refine s_astore S516 (hb hby at_120) rfl (L' := #[.val (.int k_), .val (.int xa), .val (.int xb), .val (.int xs), .val (.int xm), .val (.int (3 : Int32)), .val (.ref k3_), .val (.int (1 : Int32)), .val (.int c438), .val (.int c439), .val (.int (2 : Int32)), .val (.ref b509), .val (.ref b512), .unset, .unset, .unset, .unset]) rfl (pc' := 122) rfl ?_
        refine s_iload S516 (hb hby at_122) rfl (pc' := 124) rfl ?_
        refine s_iconst S516 (hb hby at_124) (v := (2 : Int32)) rfl (pc' := 125) rfl ?_
        refine s_ishr S516 (hb hby at_125) (z := (xm >>> ((2 : Int32) &&& 31))) rfl (pc' := 126) rfl ?_
        refine s_iconst S516 (hb hby at_126) (v := (3 : Int32)) rfl (pc' := 127) rfl ?_
        refine s_iand S516 (hb hby at_127) (z := ((xm >>> ((2 : Int32) &&& 31)) &&& (3 : Int32))) rfl (pc' := 128) rfl ?_
        generalize epk517 : ((xm >>> ((2 : Int32) &&& 31)) &&& (3 : Int32)) = pk517
        refine s_istore S516 (hb hby at_128) (L' := #[.val (.int k_), .val (.int xa), .val (.int xb), .val (.int xs), .val (.int xm), .val (.int (3 : Int32)), .val (.ref k3_), .val (.int (1 : Int32)), .val (.int c438), .val (.int c439), .val (.int (2 : Int32)), .val (.ref b509), .val (.ref b512), .val (.int pk517), .unset, .unset, .unset]) rfl (pc' := 130) rfl ?_
        have K518 : ∀ sm : Int32, Go p e below (Fini Z EL1 n0 s room_1 (fun v h' => v = some (.int 1) ∧ True)) (T516.setTop (mkF m 162 #[.val (.int k_), .val (.int xa), .val (.int xb), .val (.int xs), .val (.int xm), .val (.int (3 : Int32)), .val (.ref k3_), .val (.int (1 : Int32)), .val (.int c438), .val (.int c439), .val (.int (2 : Int32)), .val (.ref b509), .val (.ref b512), .val (.int pk517), .val (.int sm), .unset, .unset] [])) := by
          intro sm
          show Go p e below _ (T516.setTop (mkF m 162 #[.val (.int k_), .val (.int xa), .val (.int xb), .val (.int xs), .val (.int xm), .val (.int (3 : Int32)), .val (.ref k3_), .val (.int (1 : Int32)), .val (.int c438), .val (.int c439), .val (.int (2 : Int32)), .val (.ref b509), .val (.ref b512), .val (.int pk517), .val (.int sm), .unset, .unset] []))
          refine g_new S516 (w31 hw) (w32 hw) (w33 hw) (hb hby at_162) (Nat.le_of_ble_eq_true rfl) (Nat.le_of_ble_eq_true rfl) ?_
          intro T519 h519 b519 S519 E519 fr519 lt519 na519 sf519 A519 D519
          have F520 : Fld Z h519 b519 "com/example/converge_to_schema/convergetoschema/schema/Token" "kind" "Lcom/example/converge_to_schema/convergetoschema/schema/Token$Kind;" .null := D519 (Or.inr (w39 hw)) (ty := (.object "com/example/converge_to_schema/convergetoschema/schema/Token$Kind")) (by decide)
          have F521 : Fld Z h519 b519 "com/example/converge_to_schema/convergetoschema/schema/Token" "text" "Ljava/lang/String;" .null := D519 (Or.inr (w41 hw)) (ty := (.object "java/lang/String")) (by decide)
          have F522 : Fld Z h519 b519 "com/example/converge_to_schema/convergetoschema/schema/Token" "line" "I" (.int (0 : Int32)) := D519 (Or.inr (w43 hw)) (ty := .int) (by decide)
          have F523 : Fld Z h519 b519 "com/example/converge_to_schema/convergetoschema/schema/Token" "column" "I" (.int (0 : Int32)) := D519 (Or.inr (w45 hw)) (ty := .int) (by decide)
          show Go p e below _ (T519.setTop (mkF m 165 #[.val (.int k_), .val (.int xa), .val (.int xb), .val (.int xs), .val (.int xm), .val (.int (3 : Int32)), .val (.ref k3_), .val (.int (1 : Int32)), .val (.int c438), .val (.int c439), .val (.int (2 : Int32)), .val (.ref b509), .val (.ref b512), .val (.int pk517), .val (.int sm), .unset, .unset] [(.ref b519)]))
          refine s_dup S519 (hb hby at_165) rfl (pc' := 166) rfl ?_
          refine s_aload S519 (hb hby at_166) rfl rfl (pc' := 168) rfl ?_
          refine s_aload S519 (hb hby at_168) rfl rfl (pc' := 170) rfl ?_
          refine s_iloadN S519 (hb hby at_170) rfl (pc' := 171) rfl ?_
          refine s_iloadN S519 (hb hby at_171) rfl (pc' := 172) rfl ?_
          show Go p e below _ (T519.setTop (mkF m 172 #[.val (.int k_), .val (.int xa), .val (.int xb), .val (.int xs), .val (.int xm), .val (.int (3 : Int32)), .val (.ref k3_), .val (.int (1 : Int32)), .val (.int c438), .val (.int c439), .val (.int (2 : Int32)), .val (.ref b509), .val (.ref b512), .val (.int pk517), .val (.int sm), .unset, .unset] [(.int k_), (.int xs), (.ref b512), (.ref k3_), (.ref b519), (.ref b519)]))
          refine g_special S519 (rmTK X na519 S519.old A519 F520 F521 F522 F523) (fun _ q => nomatch q) rfl (w34 hw) (w35 hw) (w33 hw) (w36 hw) (by decide) (hb hby at_172) (by rw [hml]; rfl) b519 [(.ref k3_), (.ref b512), (.int xs), (.int k_)] (lenOf pd15 rfl) rfl rfl (Nat.le_of_ble_eq_true rfl) (Nat.le_of_ble_eq_true rfl) (Nat.le_of_ble_eq_true rfl) (Nat.le_of_ble_eq_true rfl) ?_
          intro v525 T525 V525 h525 S525 C525 q525
          obtain ⟨rfl, Ko524, Ao524, Fko524, Fto524⟩ := q525
          show Go p e below _ (T525.setTop (mkF m 175 #[.val (.int k_), .val (.int xa), .val (.int xb), .val (.int xs), .val (.int xm), .val (.int (3 : Int32)), .val (.ref k3_), .val (.int (1 : Int32)), .val (.int c438), .val (.int c439), .val (.int (2 : Int32)), .val (.ref b509), .val (.ref b512), .val (.int pk517), .val (.int sm), .unset, .unset] [(.ref b519)]))
          refine s_astore S525 (hb hby at_175) rfl (L' := #[.val (.int k_), .val (.int xa), .val (.int xb), .val (.int xs), .val (.int xm), .val (.int (3 : Int32)), .val (.ref k3_), .val (.int (1 : Int32)), .val (.int c438), .val (.int c439), .val (.int (2 : Int32)), .val (.ref b509), .val (.ref b512), .val (.int pk517), .val (.int sm), .val (.ref b519), .unset]) rfl (pc' := 177) rfl ?_
          refine s_iload S525 (hb hby at_177) rfl (pc' := 179) rfl ?_
          refine s_ifN S525 (hb hby at_179) (by decide) (pc' := 182) rfl ?_
          refine s_iload S525 (hb hby at_182) rfl (pc' := 184) rfl ?_
          refine s_iload S525 (hb hby at_184) rfl (pc' := 186) rfl ?_
          refine g_icmp S525 (hb hby at_186) (by decide) (pcT := 193) (by decide) (fun q => ?_) (fun q => ?_)
          · have hc186_526 : ¬ c438 = sm := icT_ne q
            show Go p e below _ (T525.setTop (mkF m 193 #[.val (.int k_), .val (.int xa), .val (.int xb), .val (.int xs), .val (.int xm), .val (.int (3 : Int32)), .val (.ref k3_), .val (.int (1 : Int32)), .val (.int c438), .val (.int c439), .val (.int (2 : Int32)), .val (.ref b509), .val (.ref b512), .val (.int pk517), .val (.int sm), .val (.ref b519), .unset] []))
            refine s_iconst S525 (hb hby at_193) (v := (0 : Int32)) rfl (pc' := 194) rfl ?_
            refine s_istore S525 (hb hby at_194) (L' := #[.val (.int k_), .val (.int xa), .val (.int xb), .val (.int xs), .val (.int xm), .val (.int (3 : Int32)), .val (.ref k3_), .val (.int (1 : Int32)), .val (.int c438), .val (.int c439), .val (.int (2 : Int32)), .val (.ref b509), .val (.ref b512), .val (.int pk517), .val (.int sm), .val (.ref b519), .val (.int (0 : Int32))]) rfl (pc' := 196) rfl ?_
            refine s_aload S525 (hb hby at_196) rfl rfl (pc' := 198) rfl ?_
            refine s_iload S525 (hb hby at_198) rfl (pc' := 200) rfl ?_
            have X528 : Ext h516 h525 := ext_keep1 E519 Ko524 fr519
            have FJ529 := FJ516.ext X528
            show Go p e below _ (T525.setTop (mkF m 200 #[.val (.int k_), .val (.int xa), .val (.int xb), .val (.int xs), .val (.int xm), .val (.int (3 : Int32)), .val (.ref k3_), .val (.int (1 : Int32)), .val (.int c438), .val (.int c439), .val (.int (2 : Int32)), .val (.ref b509), .val (.ref b512), .val (.int pk517), .val (.int sm), .val (.ref b519), .val (.int (0 : Int32))] [(.int sm), (.ref b519)]))
            refine g_virtual S525 (rmI2 X S525.old Ao524 Fko524 Fto524 hk3 FJ529) (fun _ q => nomatch q) (w46 hw) (w47 hw) (w49 hw) (w48 hw) (w33 hw) (w50 hw) (by decide) (fun _ h => notFace_of_selects h) (hb hby at_200) (by rw [hml]; rfl) b519 Ao524 [(.int sm)] (lenOf pd16 rfl) rfl rfl (Nat.le_of_ble_eq_true rfl) (Nat.le_of_ble_eq_true rfl) (Nat.le_of_ble_eq_true rfl) (Nat.le_of_ble_eq_true rfl) ?_
            intro v530 T530 V530 h530 S530 C530 q530
            obtain ⟨g527, rfl, hg527, rfl⟩ := q530
            obtain rfl : g527 = 0 := hg527.elim (fun q => absurd q.2 hc186_526) (fun q => q.1)
            show Go p e below _ (T530.setTop (mkF m 203 #[.val (.int k_), .val (.int xa), .val (.int xb), .val (.int xs), .val (.int xm), .val (.int (3 : Int32)), .val (.ref k3_), .val (.int (1 : Int32)), .val (.int c438), .val (.int c439), .val (.int (2 : Int32)), .val (.ref b509), .val (.ref b512), .val (.int pk517), .val (.int sm), .val (.ref b519), .val (.int (0 : Int32))] [(.int (0 : Int32))]))
            refine s_iload S530 (hb hby at_203) rfl (pc' := 205) rfl ?_
            refine s_icmpN S530 (hb hby at_205) (by decide) (pc' := 208) rfl ?_
            refine s_iconst S530 (hb hby at_208) (v := (1 : Int32)) rfl (pc' := 209) rfl ?_
            refine s_goto S530 (hb hby at_209) (by decide) (pcT := 213) (by decide) ?_
            exact g_iretN S530 (hb hby at_213) hret (by simp) ⟨rfl, trivial⟩
          · have hc186_526 : c438 = sm := icF_ne q
            show Go p e below _ (T525.setTop (mkF m 189 #[.val (.int k_), .val (.int xa), .val (.int xb), .val (.int xs), .val (.int xm), .val (.int (3 : Int32)), .val (.ref k3_), .val (.int (1 : Int32)), .val (.int c438), .val (.int c439), .val (.int (2 : Int32)), .val (.ref b509), .val (.ref b512), .val (.int pk517), .val (.int sm), .val (.ref b519), .unset] []))
            refine s_iconst S525 (hb hby at_189) (v := (1 : Int32)) rfl (pc' := 190) rfl ?_
            refine s_goto S525 (hb hby at_190) (by decide) (pcT := 194) (by decide) ?_
            refine s_istore S525 (hb hby at_194) (L' := #[.val (.int k_), .val (.int xa), .val (.int xb), .val (.int xs), .val (.int xm), .val (.int (3 : Int32)), .val (.ref k3_), .val (.int (1 : Int32)), .val (.int c438), .val (.int c439), .val (.int (2 : Int32)), .val (.ref b509), .val (.ref b512), .val (.int pk517), .val (.int sm), .val (.ref b519), .val (.int (1 : Int32))]) rfl (pc' := 196) rfl ?_
            refine s_aload S525 (hb hby at_196) rfl rfl (pc' := 198) rfl ?_
            refine s_iload S525 (hb hby at_198) rfl (pc' := 200) rfl ?_
            have X532 : Ext h516 h525 := ext_keep1 E519 Ko524 fr519
            have FJ533 := FJ516.ext X532
            show Go p e below _ (T525.setTop (mkF m 200 #[.val (.int k_), .val (.int xa), .val (.int xb), .val (.int xs), .val (.int xm), .val (.int (3 : Int32)), .val (.ref k3_), .val (.int (1 : Int32)), .val (.int c438), .val (.int c439), .val (.int (2 : Int32)), .val (.ref b509), .val (.ref b512), .val (.int pk517), .val (.int sm), .val (.ref b519), .val (.int (1 : Int32))] [(.int sm), (.ref b519)]))
            refine g_virtual S525 (rmI2 X S525.old Ao524 Fko524 Fto524 hk3 FJ533) (fun _ q => nomatch q) (w46 hw) (w47 hw) (w49 hw) (w48 hw) (w33 hw) (w50 hw) (by decide) (fun _ h => notFace_of_selects h) (hb hby at_200) (by rw [hml]; rfl) b519 Ao524 [(.int sm)] (lenOf pd16 rfl) rfl rfl (Nat.le_of_ble_eq_true rfl) (Nat.le_of_ble_eq_true rfl) (Nat.le_of_ble_eq_true rfl) (Nat.le_of_ble_eq_true rfl) ?_
            intro v534 T534 V534 h534 S534 C534 q534
            obtain ⟨g531, rfl, hg531, rfl⟩ := q534
            obtain rfl : g531 = 1 := hg531.elim (fun q => q.1) (fun q => absurd hc186_526 q.2)
            show Go p e below _ (T534.setTop (mkF m 203 #[.val (.int k_), .val (.int xa), .val (.int xb), .val (.int xs), .val (.int xm), .val (.int (3 : Int32)), .val (.ref k3_), .val (.int (1 : Int32)), .val (.int c438), .val (.int c439), .val (.int (2 : Int32)), .val (.ref b509), .val (.ref b512), .val (.int pk517), .val (.int sm), .val (.ref b519), .val (.int (1 : Int32))] [(.int (1 : Int32))]))
            refine s_iload S534 (hb hby at_203) rfl (pc' := 205) rfl ?_
            refine s_icmpN S534 (hb hby at_205) (by decide) (pc' := 208) rfl ?_
            refine s_iconst S534 (hb hby at_208) (v := (1 : Int32)) rfl (pc' := 209) rfl ?_
            refine s_goto S534 (hb hby at_209) (by decide) (pcT := 213) (by decide) ?_
            exact g_iretN S534 (hb hby at_213) hret (by simp) ⟨rfl, trivial⟩
        refine s_iload S516 (hb hby at_130) rfl (pc' := 132) rfl ?_
        refine g_if S516 (hb hby at_132) (by decide) (pcT := 142) (by decide) (fun q => ?_) (fun q => ?_)
        · have hc132_535 : ¬ pk517 = (0 : Int32) := icT_ne q
          show Go p e below _ (T516.setTop (mkF m 142 #[.val (.int k_), .val (.int xa), .val (.int xb), .val (.int xs), .val (.int xm), .val (.int (3 : Int32)), .val (.ref k3_), .val (.int (1 : Int32)), .val (.int c438), .val (.int c439), .val (.int (2 : Int32)), .val (.ref b509), .val (.ref b512), .val (.int pk517), .unset, .unset, .unset] []))
          refine s_iload S516 (hb hby at_142) rfl (pc' := 144) rfl ?_
          refine s_iconst S516 (hb hby at_144) (v := (1 : Int32)) rfl (pc' := 145) rfl ?_
          refine g_icmp S516 (hb hby at_145) (by decide) (pcT := 155) (by decide) (fun q => ?_) (fun q => ?_)
          · have hc145_536 : ¬ pk517 = (1 : Int32) := icT_ne q
            show Go p e below _ (T516.setTop (mkF m 155 #[.val (.int k_), .val (.int xa), .val (.int xb), .val (.int xs), .val (.int xm), .val (.int (3 : Int32)), .val (.ref k3_), .val (.int (1 : Int32)), .val (.int c438), .val (.int c439), .val (.int (2 : Int32)), .val (.ref b509), .val (.ref b512), .val (.int pk517), .unset, .unset, .unset] []))
            refine s_iloadN S516 (hb hby at_155) rfl (pc' := 156) rfl ?_
            refine g_ldcI S516 (w8 hw) (hb hby at_156) ?_
            show Go p e below _ (T516.setTop (mkF m 158 #[.val (.int k_), .val (.int xa), .val (.int xb), .val (.int xs), .val (.int xm), .val (.int (3 : Int32)), .val (.ref k3_), .val (.int (1 : Int32)), .val (.int c438), .val (.int c439), .val (.int (2 : Int32)), .val (.ref b509), .val (.ref b512), .val (.int pk517), .unset, .unset, .unset] [(.int (65535 : Int32)), (.int xs)]))
            refine s_iand S516 (hb hby at_158) (z := (xs &&& (65535 : Int32))) rfl (pc' := 159) rfl ?_
            refine s_i2c S516 (hb hby at_159) (z := ((xs &&& (65535 : Int32)).toUInt32.toUInt16.toUInt32.toInt32)) rfl (pc' := 160) rfl ?_
            generalize esy537 : ((xs &&& (65535 : Int32)).toUInt32.toUInt16.toUInt32.toInt32) = sy537
            refine s_istore S516 (hb hby at_160) (L' := #[.val (.int k_), .val (.int xa), .val (.int xb), .val (.int xs), .val (.int xm), .val (.int (3 : Int32)), .val (.ref k3_), .val (.int (1 : Int32)), .val (.int c438), .val (.int c439), .val (.int (2 : Int32)), .val (.ref b509), .val (.ref b512), .val (.int pk517), .val (.int sy537), .unset, .unset]) rfl (pc' := 162) rfl ?_
            exact K518 _
          · have hc145_536 : pk517 = (1 : Int32) := icF_ne q
            show Go p e below _ (T516.setTop (mkF m 148 #[.val (.int k_), .val (.int xa), .val (.int xb), .val (.int xs), .val (.int xm), .val (.int (3 : Int32)), .val (.ref k3_), .val (.int (1 : Int32)), .val (.int c438), .val (.int c439), .val (.int (2 : Int32)), .val (.ref b509), .val (.ref b512), .val (.int pk517), .unset, .unset, .unset] []))
            refine s_iload S516 (hb hby at_148) rfl (pc' := 150) rfl ?_
            refine s_istore S516 (hb hby at_150) (L' := #[.val (.int k_), .val (.int xa), .val (.int xb), .val (.int xs), .val (.int xm), .val (.int (3 : Int32)), .val (.ref k3_), .val (.int (1 : Int32)), .val (.int c438), .val (.int c439), .val (.int (2 : Int32)), .val (.ref b509), .val (.ref b512), .val (.int pk517), .val (.int c439), .unset, .unset]) rfl (pc' := 152) rfl ?_
            refine s_goto S516 (hb hby at_152) (by decide) (pcT := 162) (by decide) ?_
            exact K518 _
        · have hc132_535 : pk517 = (0 : Int32) := icF_ne q
          show Go p e below _ (T516.setTop (mkF m 135 #[.val (.int k_), .val (.int xa), .val (.int xb), .val (.int xs), .val (.int xm), .val (.int (3 : Int32)), .val (.ref k3_), .val (.int (1 : Int32)), .val (.int c438), .val (.int c439), .val (.int (2 : Int32)), .val (.ref b509), .val (.ref b512), .val (.int pk517), .unset, .unset, .unset] []))
          refine s_iload S516 (hb hby at_135) rfl (pc' := 137) rfl ?_
          refine s_istore S516 (hb hby at_137) (L' := #[.val (.int k_), .val (.int xa), .val (.int xb), .val (.int xs), .val (.int xm), .val (.int (3 : Int32)), .val (.ref k3_), .val (.int (1 : Int32)), .val (.int c438), .val (.int c439), .val (.int (2 : Int32)), .val (.ref b509), .val (.ref b512), .val (.int pk517), .val (.int c438), .unset, .unset]) rfl (pc' := 139) rfl ?_
          refine s_goto S516 (hb hby at_139) (by decide) (pcT := 162) (by decide) ?_
          exact K518 _
      rcases Classical.em ((255 : Int32) < c438 ∨ (255 : Int32) < c439) with hwd | hnw
      · skip
        show Go p e below _ (T512.setTop (mkF m 117 #[.val (.int k_), .val (.int xa), .val (.int xb), .val (.int xs), .val (.int xm), .val (.int (3 : Int32)), .val (.ref k3_), .val (.int (1 : Int32)), .val (.int c438), .val (.int c439), .val (.int (2 : Int32)), .val (.ref b509), .unset, .unset, .unset, .unset, .unset] [(.ref b509), (.ref b512), (.ref b512)]))
        have V538 := V511.ext E512
        refine g_special S512 (rmW12 X na512 S512.old A512 F513 F514 V538 rc438 rc439 hwd) (sf1 (A512).lt sf512) rfl (w13 hw) (w14 hw) (w12 hw) (w15 hw) (by decide) (hb hby at_117) (by rw [hml]; rfl) b512 [.ref b509] (lenOf pd14 rfl) rfl rfl (Nat.le_of_ble_eq_true rfl) (Nat.le_of_ble_eq_true rfl) (Nat.le_of_ble_eq_true rfl) (Nat.le_of_ble_eq_true rfl) ?_
        intro v539 T539 V539 h539 S539 C539 q539
        obtain ⟨rfl, K539, F539⟩ := q539
        show Go p e below _ (T539.setTop (mkF m 120 #[.val (.int k_), .val (.int xa), .val (.int xb), .val (.int xs), .val (.int xm), .val (.int (3 : Int32)), .val (.ref k3_), .val (.int (1 : Int32)), .val (.int c438), .val (.int c439), .val (.int (2 : Int32)), .val (.ref b509), .unset, .unset, .unset, .unset, .unset] [(.ref b512)]))
        have X540 : Ext h511 h539 := ext_keep1 E512 K539 fr512
        exact K515 _ _ _ (S539.mono (Nat.le_of_ble_eq_true rfl) (Nat.le_of_ble_eq_true rfl)) X540 F539
      · skip
        show Go p e below _ (T512.setTop (mkF m 117 #[.val (.int k_), .val (.int xa), .val (.int xb), .val (.int xs), .val (.int xm), .val (.int (3 : Int32)), .val (.ref k3_), .val (.int (1 : Int32)), .val (.int c438), .val (.int c439), .val (.int (2 : Int32)), .val (.ref b509), .unset, .unset, .unset, .unset, .unset] [(.ref b509), (.ref b512), (.ref b512)]))
        have r8c438 : ¬ c438 < 0 ∧ ¬ (255 : Int32) < c438 := ⟨rc438.1, fun q => hnw (Or.inl q)⟩
        have r8c439 : ¬ c439 < 0 ∧ ¬ (255 : Int32) < c439 := ⟨rc439.1, fun q => hnw (Or.inr (q))⟩
        show Go p e below _ (T512.setTop (mkF m 117 #[.val (.int k_), .val (.int xa), .val (.int xb), .val (.int xs), .val (.int xm), .val (.int (3 : Int32)), .val (.ref k3_), .val (.int (1 : Int32)), .val (.int c438), .val (.int c439), .val (.int (2 : Int32)), .val (.ref b509), .unset, .unset, .unset, .unset, .unset] [(.ref b509), (.ref b512), (.ref b512)]))
        have V542 := V511.ext E512
        refine g_newStr S512 X (cs := [c438, c439]) (Nat.le_of_ble_eq_true rfl) (Nat.le_of_ble_eq_true rfl) rfl na512 sf512 A512 F513 F514 V542 (faS r8c438 (faS r8c439 fa0)) (w13 hw) (hb hby at_117) (by rw [hml]; rfl) (Nat.le_of_ble_eq_true rfl) (Nat.le_of_ble_eq_true rfl) (Nat.le_of_ble_eq_true rfl) (Nat.le_of_ble_eq_true rfl) ?_
        intro T541 h541 S541 K541 F541
        show Go p e below _ (T541.setTop (mkF m 120 #[.val (.int k_), .val (.int xa), .val (.int xb), .val (.int xs), .val (.int xm), .val (.int (3 : Int32)), .val (.ref k3_), .val (.int (1 : Int32)), .val (.int c438), .val (.int c439), .val (.int (2 : Int32)), .val (.ref b509), .unset, .unset, .unset, .unset, .unset] [(.ref b512)]))
        have X543 : Ext h511 h541 := ext_keep1 E512 K541 fr512
        exact K515 _ _ _ (S541.mono (Nat.le_of_ble_eq_true rfl) (Nat.le_of_ble_eq_true rfl)) X543 F541
  · skip
    show Go p e below _ (T0.setTop (mkF m 9 #[.val (.int k_), .val (.int xa), .val (.int xb), .val (.int xs), .val (.int xm), .val (.int (4 : Int32)), .unset, .unset, .unset, .unset, .unset, .unset, .unset, .unset, .unset, .unset, .unset] []))
    refine s_iload S0 (hb hby at_9) rfl (pc' := 11) rfl ?_
    show Go p e below _ (T0.setTop (mkF m 11 #[.val (.int k_), .val (.int xa), .val (.int xb), .val (.int xs), .val (.int xm), .val (.int (4 : Int32)), .unset, .unset, .unset, .unset, .unset, .unset, .unset, .unset, .unset, .unset, .unset] [(.int (4 : Int32))]))
    refine g_static S0 (rmKO4 X S0.old hk4) (fun _ q => nomatch q) (w1 hw) (w2 hw) (w3 hw) (w4 hw) (by decide) (hb hby at_11) (by rw [hml]; rfl) [(.int (4 : Int32))] (lenOf pd17 rfl) rfl rfl (Nat.le_of_ble_eq_true rfl) (Nat.le_of_ble_eq_true rfl) (Nat.le_of_ble_eq_true rfl) (Nat.le_of_ble_eq_true rfl) ?_
    intro v544 T544 V544 h544 S544 C544 q544
    obtain ⟨rfl, rfl⟩ := q544
    show Go p e below _ (T544.setTop (mkF m 14 #[.val (.int k_), .val (.int xa), .val (.int xb), .val (.int xs), .val (.int xm), .val (.int (4 : Int32)), .unset, .unset, .unset, .unset, .unset, .unset, .unset, .unset, .unset, .unset, .unset] [(.ref k4_)]))
    exact K358 _ _ (by decide) hne4 _ _ S544
  · skip
    show Go p e below _ (T0.setTop (mkF m 9 #[.val (.int k_), .val (.int xa), .val (.int xb), .val (.int xs), .val (.int xm), .val (.int (5 : Int32)), .unset, .unset, .unset, .unset, .unset, .unset, .unset, .unset, .unset, .unset, .unset] []))
    refine s_iload S0 (hb hby at_9) rfl (pc' := 11) rfl ?_
    show Go p e below _ (T0.setTop (mkF m 11 #[.val (.int k_), .val (.int xa), .val (.int xb), .val (.int xs), .val (.int xm), .val (.int (5 : Int32)), .unset, .unset, .unset, .unset, .unset, .unset, .unset, .unset, .unset, .unset, .unset] [(.int (5 : Int32))]))
    refine g_static S0 (rmKO5 X S0.old hk5) (fun _ q => nomatch q) (w1 hw) (w2 hw) (w3 hw) (w4 hw) (by decide) (hb hby at_11) (by rw [hml]; rfl) [(.int (5 : Int32))] (lenOf pd17 rfl) rfl rfl (Nat.le_of_ble_eq_true rfl) (Nat.le_of_ble_eq_true rfl) (Nat.le_of_ble_eq_true rfl) (Nat.le_of_ble_eq_true rfl) ?_
    intro v545 T545 V545 h545 S545 C545 q545
    obtain ⟨rfl, rfl⟩ := q545
    show Go p e below _ (T545.setTop (mkF m 14 #[.val (.int k_), .val (.int xa), .val (.int xb), .val (.int xs), .val (.int xm), .val (.int (5 : Int32)), .unset, .unset, .unset, .unset, .unset, .unset, .unset, .unset, .unset, .unset, .unset] [(.ref k5_)]))
    exact K358 _ _ (by decide) hne5 _ _ S545
set_option maxRecDepth 65536 in
set_option maxHeartbeats 40000000 in
theorem comes_1 {Post : Tables → Env → Array Value → State → Outcome → State → Prop} (hpost : ∀ tb e args s v u, (limb_1_1.after args s (.returned v) u = true ∧ limb_1_2.after args s (.returned v) u = true) → FramedW s (.returned v) u (Jvm.fieldLocs frame_1_writes args s ++ Jvm.arrayLocs frame_1_arrays args s ++ Jvm.staticLocs frame_1_statics s) 24 1152 → Post tb e args s (.returned v) u) :
    ArmFor flags0 classFile x code maxLocals ret World_1 tables_1 room_1 Calls_1 rest_1 Pre_1 Post := by
  intro l hfl _ _ p e ha hc hk s m args below hf hA hF happ hP
  obtain ⟨hcalls, hrest, hpre⟩ := hP
  obtain ⟨-, -, -, hnamed, -, -, -, hat⟩ := (Spec.applies_iff hf).mp happ
  obtain ⟨hg, hn⟩ := and_e (Cond.before_iff.mp (show (Jvm.Cond.and given_1 narrow_1).before args s = true from hpre))
  obtain ⟨hcount, hgiven⟩ := and_e hg
  obtain ⟨hg0, hr0⟩ := and_e hgiven
  obtain ⟨hg1, hr1⟩ := and_e hr0
  obtain ⟨hg2, hr2⟩ := and_e hr1
  obtain ⟨hg3, hr3⟩ := and_e hr2
  obtain ⟨wa, wb, wc, wd, we, rfl⟩ : ∃ wa wb wc wd we : Value, args = #[wa, wb, wc, wd, we] := by
    have hs : args.size = 5 := by simpa [Cond.value, given_1] using hcount
    obtain ⟨L⟩ := args
    match L, hs with
    | [wa, wb, wc, wd, we], _ => exact ⟨wa, wb, wc, wd, we, rfl⟩
  have hw : HW _ s := fun d (hd : d ∈ tables_1) => atoms_spec (ws := Jvm.Cond.code x code maxLocals ret :: tables_1) hat d (List.mem_cons_of_mem _ hd)
  obtain ⟨hsets, hown0⟩ := atoms_of _ (rest_1_c_eq ▸ (show rest_1_c.before _ s = true from hrest))
  obtain ⟨i0, ei0⟩ := is_v hg0
  obtain rfl : wa = (.int i0) := Option.some.inj ei0
  obtain ⟨i1, ei1⟩ := is_v hg1
  obtain rfl : wb = (.int i1) := Option.some.inj ei1
  obtain ⟨i2, ei2⟩ := is_v hg2
  obtain rfl : wc = (.int i2) := Option.some.inj ei2
  obtain ⟨i3, ei3⟩ := is_v hg3
  obtain rfl : wd = (.int i3) := Option.some.inj ei3
  obtain ⟨i4, ei4⟩ := is_v hr3
  obtain rfl : we = (.int i4) := Option.some.inj ei4
  obtain ⟨z1, ez1⟩ := is_v (Cond.before_iff.mp (hsets _ (List.mem_of_getElem? (i := 1) rfl)))
  have Sz1 : Sta s s.heap "java/lang/String" "COMPACT_STRINGS" "Z" (.int z1) := Sta.start ez1 (Or.inl (hsets _ (List.mem_of_getElem? (i := 0) rfl)))
  obtain ⟨v2, ev2, rv2⟩ := isR_v (Cond.before_iff.mp (hsets _ (List.mem_of_getElem? (i := 8) rfl)))
  have Sv2 : Sta s s.heap "jdk/internal/util/Preconditions" "SIOOBE_FORMATTER" "Ljava/util/function/BiFunction;" v2 := Sta.start ev2 (Or.inl (hsets _ (List.mem_of_getElem? (i := 7) rfl)))
  have cz1 : ¬ (z1 = (0 : Int32)) := gotF (Cond.eq_ints ez1 (Term.int_eval (0))) (not_v (Cond.before_iff.mp (hsets _ (List.mem_of_getElem? (i := 2) rfl))))
  have hEW : EW s _ EL1 := (EW.cons (hw _ (List.mem_of_getElem? (i := 23) rfl)) (by decide +kernel) EW.nil)
  have hCH : CHv s EL1 s.vm s.heap := CHv.start hEW (fun q hq => hcalls.1 q ((by decide : ∀ q ∈ EL1, q ∈ consts_1) q hq)) (hsets _ (List.mem_of_getElem? (i := 2) rfl)) (w24 hw) (w11 hw)
  have Sx0 : Sta s s.heap "java/lang/StringUTF16" "$assertionsDisabled" "Z" (.int (1 : Int32)) := Sta.start (eqv_i (Term.int_eval (1)) (Cond.before_iff.mp (hsets _ (List.mem_of_getElem? (i := 12) rfl)))) (Or.inl (hsets _ (List.mem_of_getElem? (i := 11) rfl)))
  have Sx1 : Sta s s.heap "java/lang/StringUTF16" "HI_BYTE_SHIFT" "I" (.int (0 : Int32)) := Sta.start (eqv_i (Term.int_eval (0)) (Cond.before_iff.mp (hsets _ (List.mem_of_getElem? (i := 15) rfl)))) (Or.inl (hsets _ (List.mem_of_getElem? (i := 14) rfl)))
  have Sx2 : Sta s s.heap "java/lang/StringUTF16" "LO_BYTE_SHIFT" "I" (.int (8 : Int32)) := Sta.start (eqv_i (Term.int_eval (8)) (Cond.before_iff.mp (hsets _ (List.mem_of_getElem? (i := 18) rfl)))) (Or.inl (hsets _ (List.mem_of_getElem? (i := 17) rfl)))
  obtain ⟨qn0, hn⟩ := and_e hn
  obtain ⟨qn1, hn⟩ := and_e hn
  obtain ⟨qn2, hn⟩ := and_e hn
  obtain ⟨qn3, hn⟩ := and_e hn
  obtain ⟨qn4, hn⟩ := and_e hn
  obtain ⟨qn5, hn⟩ := and_e hn
  obtain ⟨qn6, hn⟩ := and_e hn
  obtain ⟨qn7, hn⟩ := and_e hn
  obtain ⟨qn8, hn⟩ := and_e hn
  obtain ⟨qn9, hn⟩ := and_e hn
  obtain ⟨qn10, hn⟩ := and_e hn
  have qn11 := hn
  obtain ⟨k0_, ek0⟩ := exa_v qn0
  have sk0 : Sta s s.heap "com/example/converge_to_schema/convergetoschema/schema/Token$Kind" "WORD" "Lcom/example/converge_to_schema/convergetoschema/schema/Token$Kind;" (.ref k0_) := Sta.start ek0 (Or.inr ⟨(w6 hw), (w7 hw)⟩)
  obtain ⟨k3_, ek3⟩ := exa_v qn1
  have sk3 : Sta s s.heap "com/example/converge_to_schema/convergetoschema/schema/Token$Kind" "SYMBOL" "Lcom/example/converge_to_schema/convergetoschema/schema/Token$Kind;" (.ref k3_) := Sta.start ek3 (Or.inr ⟨(w6 hw), (w52 hw)⟩)
  obtain ⟨k2_, ek2⟩ := exa_v qn4
  have sk2 : Sta s s.heap "com/example/converge_to_schema/convergetoschema/schema/Token$Kind" "STRING" "Lcom/example/converge_to_schema/convergetoschema/schema/Token$Kind;" (.ref k2_) := Sta.start ek2 (Or.inr ⟨(w6 hw), (w88 hw)⟩)
  obtain ⟨k4_, ek4⟩ := exa_v qn6
  have sk4 : Sta s s.heap "com/example/converge_to_schema/convergetoschema/schema/Token$Kind" "DOCUMENTATION" "Lcom/example/converge_to_schema/convergetoschema/schema/Token$Kind;" (.ref k4_) := Sta.start ek4 (Or.inr ⟨(w6 hw), (w90 hw)⟩)
  obtain ⟨k1_, ek1⟩ := exa_v qn8
  have sk1 : Sta s s.heap "com/example/converge_to_schema/convergetoschema/schema/Token$Kind" "NUMBER" "Lcom/example/converge_to_schema/convergetoschema/schema/Token$Kind;" (.ref k1_) := Sta.start ek1 (Or.inr ⟨(w6 hw), (w121 hw)⟩)
  obtain ⟨k5_, ek5⟩ := exa_v qn10
  have sk5 : Sta s s.heap "com/example/converge_to_schema/convergetoschema/schema/Token$Kind" "END" "Lcom/example/converge_to_schema/convergetoschema/schema/Token$Kind;" (.ref k5_) := Sta.start ek5 (Or.inr ⟨(w6 hw), (w123 hw)⟩)
  have ok0 : Fld s s.heap k0_ "java/lang/Enum" "ordinal" "I" (.int (0 : Int32)) := Fld.start ((fld_at ek0).symm.trans (eqv_i (Term.int_eval (0)) qn2))
  have ok3 : Fld s s.heap k3_ "java/lang/Enum" "ordinal" "I" (.int (3 : Int32)) := Fld.start ((fld_at ek3).symm.trans (eqv_i (Term.int_eval (3)) qn3))
  have ok2 : Fld s s.heap k2_ "java/lang/Enum" "ordinal" "I" (.int (2 : Int32)) := Fld.start ((fld_at ek2).symm.trans (eqv_i (Term.int_eval (2)) qn5))
  have ok4 : Fld s s.heap k4_ "java/lang/Enum" "ordinal" "I" (.int (4 : Int32)) := Fld.start ((fld_at ek4).symm.trans (eqv_i (Term.int_eval (4)) qn7))
  have ok1 : Fld s s.heap k1_ "java/lang/Enum" "ordinal" "I" (.int (1 : Int32)) := Fld.start ((fld_at ek1).symm.trans (eqv_i (Term.int_eval (1)) qn9))
  have ok5 : Fld s s.heap k5_ "java/lang/Enum" "ordinal" "I" (.int (5 : Int32)) := Fld.start ((fld_at ek5).symm.trans (eqv_i (Term.int_eval (5)) qn11))
  have nk0 : k0_ ≠ k3_ := Fld.ne ok0 ok3 (by decide)
  have nk1 : k1_ ≠ k3_ := Fld.ne ok1 ok3 (by decide)
  have nk2 : k2_ ≠ k3_ := Fld.ne ok2 ok3 (by decide)
  have nk4 : k4_ ≠ k3_ := Fld.ne ok4 ok3 (by decide)
  have nk5 : k5_ ≠ k3_ := Fld.ne ok5 ok3 (by decide)
  have X : Ctx s _ := ⟨hw, hEW, ⟨z1, Sz1, cz1⟩, ⟨v2, Sv2, rv2⟩, Sx0, Sx1, Sx2, k0_, k1_, k2_, k3_, k4_, k5_, sk0, sk1, sk2, sk3, sk4, sk5, nk0, nk1, nk2, nk4, nk5⟩
  obtain ⟨n, o, h1, h2, h3, v, L, rfl, ⟨⟨rfl, -⟩, N, -⟩, -, hq⟩ := rmL (l := l) X i0 i1 i2 i3 i4 (Old.start s) tables_1 p e ha hc hk s m _ below hf ((Spec.applies_iff_loose hf).mp happ).1 ⟨rfl, State.Warmed39.refl s, rfl, hCH, fun _ q => nomatch q⟩ trivial
  refine ⟨n, _, h1, h2, h3, hpost _ _ _ _ _ _ ⟨Cond.after_iff.mpr rfl, Cond.after_iff.mpr (eq_i res_at (Term.int_eval (1)) rfl)⟩ ⟨hq.1, hq.2.1, hq.2.2.1, (hq.2.2.2.sift fun y hy => Or.inr (N y hy)).mono (by decide) (by decide)⟩⟩
theorem main_1_1 : Claimed_1_1 := comes_1 fun _ _ _ _ _ _ h hF => ⟨h.1, hF⟩
theorem main_1_2 : Claimed_1_2 := comes_1 fun _ _ _ _ _ _ h hF => ⟨h.2, hF⟩
end Jvm.Pilot.@@N@@
namespace Jvm.Pilot.@@N@@
open Jvm Jvm.ClassFile Sem Op Lib Jvm.Free Jvm.Stand Jvm.Pilot.@@N@@.Jvm.D
/-! MADE BY PROGRAM (witnessworld.py) out of the Statement's table words and the real class files: 22 classes; the members and pool entries that the words name. The judged class is class 1, her method 2. -/
namespace start1
open Jvm.ClassFile
def u (s : String) : CpInfo := .utf8 (stringToUtf16 s)
/-- a pool by its gaps: so many unusable entries, then the entry; so many at the end -/
def gap : Nat → List CpInfo → List CpInfo
  | 0, r => r
  | n + 1, r => .unusable :: gap n r
def poolList (es : List (Nat × CpInfo)) (last : Nat) : List CpInfo := es.foldr (fun e r => gap e.1 (e.2 :: r)) (gap last [])
def pool (es : List (Nat × CpInfo)) (last : Nat) : Array CpInfo := ⟨poolList es last⟩
def fileOf (pool : Array CpInfo) (this : Nat) (attrs : Array Attribute := #[]) (ms : Array MethodInfo := #[]) (fl : Nat := 33) (sup : Nat := 0) (ifs : Array Nat := #[]) (fds : Array FieldInfo := #[]) : ClassFile where
  minorVersion := 0
  majorVersion := 65
  constantPool := pool
  accessFlags := fl
  thisClass := this
  superClass := sup
  interfaces := ifs
  fields := fds
  methods := ms
  attributes := attrs
def plain (name : String) (sup : Option ClassId) : Class where
  name := name
  kind := .ordinary
  loader := none
  accessFlags := 33
  super := sup
  interfaces := #[]
  cf := none
  fields := #[]
  methods := #[]
  instanceTypes := #[]
  staticTypes := #[]
  resolved := #[]
  callSites := []
  init := .initialized
  statics := none
  mirror := none

def pool0 : Array CpInfo := pool [(5, u "<init>"), (0, u "()V"), (1, .class_ 10), (1, u "java/lang/Object")] 113

def k0c0 : Code := { maxStack := 0, maxLocals := 1, code := object_method_1_code, exceptionTable := #[], attributes := #[] }
def k0m0 : Method := { name := "<init>", desc := "()V", sig := { parameters := [], returnType := none }, accessFlags := 1, code := some k0c0 }
/-- java/lang/Object -/
def k0 : Class := { plain "java/lang/Object" none with
  accessFlags := 33
  interfaces := #[]
  cf := some (fileOf pool0 8 #[] #[{ accessFlags := 1, nameIndex := 5, descriptorIndex := 6, attributes := #[] }] 33 0 #[] #[])
  fields := #[]
  methods := #[k0m0]
  instanceTypes := #[]
  staticTypes := #[]
  resolved := Array.replicate 124 none
  statics := none }

def pool1 : Array CpInfo := pool [(2, .class_ 4), (1, u "java/lang/Object"), (0, u "<init>"), (0, u "()V"), (0, .fieldref 8 9), (0, .class_ 10), (0, .nameAndType 11 12), (0, u "com/example/converge_to_schema/convergetoschema/schema/Token$Kind"), (0, u "WORD"), (0, u "Lcom/example/converge_to_schema/convergetoschema/schema/Token$Kind;"), (0, .fieldref 8 14), (0, .nameAndType 15 12), (0, u "NUMBER"), (0, .fieldref 8 17), (0, .nameAndType 18 12), (0, u "STRING"), (0, .fieldref 8 20), (0, .nameAndType 21 12), (0, u "SYMBOL"), (0, .fieldref 8 23), (0, .nameAndType 24 12), (0, u "DOCUMENTATION"), (0, .fieldref 8 26), (0, .nameAndType 27 12), (0, u "END"), (0, .integer 2147483647), (0, .methodref 30 31), (0, .class_ 32), (0, .nameAndType 33 34), (0, u "com/example/converge_to_schema/convergetoschema/schema/TokenIsSymbolPinLaw"), (0, u "kindOf"), (0, u "(I)Lcom/example/converge_to_schema/convergetoschema/schema/Token$Kind;"), (0, .integer 65535), (0, .class_ 37), (0, u "java/lang/String"), (0, .methodref 36 39), (0, .nameAndType 5 40), (0, u "([C)V"), (0, .class_ 42), (0, u "com/example/converge_to_schema/convergetoschema/schema/Token"), (0, .methodref 41 44), (0, .nameAndType 5 45), (0, u "(Lcom/example/converge_to_schema/convergetoschema/schema/Token$Kind;Ljava/lang/String;II)V"), (0, .methodref 41 47), (0, .nameAndType 48 49), (0, u "isSymbol"), (0, u "(C)Z"), (3, u "law"), (0, u "(IIIII)Z")] 6

def k1m0 : Method := { name := "<init>", desc := "()V", sig := { parameters := [], returnType := none }, accessFlags := 1, code := none }
def k1c1 : Code := { maxStack := 2, maxLocals := 1, code := method_2_code, exceptionTable := #[], attributes := #[] }
def k1m1 : Method := { name := "kindOf", desc := "(I)Lcom/example/converge_to_schema/convergetoschema/schema/Token$Kind;", sig := { parameters := [.int], returnType := some (.object "com/example/converge_to_schema/convergetoschema/schema/Token$Kind") }, accessFlags := 10, code := some k1c1 }
def k1c2 : Code := { maxStack := 6, maxLocals := 17, code := code, exceptionTable := #[], attributes := #[] }
def k1m2 : Method := { name := "law", desc := "(IIIII)Z", sig := { parameters := [.int, .int, .int, .int, .int], returnType := some .boolean }, accessFlags := 9, code := some k1c2 }
/-- com/example/converge_to_schema/convergetoschema/schema/TokenIsSymbolPinLaw -/
def k1 : Class := { plain "com/example/converge_to_schema/convergetoschema/schema/TokenIsSymbolPinLaw" (some 0) with
  accessFlags := 49
  interfaces := #[]
  cf := some (fileOf pool1 30 #[] #[{ accessFlags := 1, nameIndex := 5, descriptorIndex := 6, attributes := #[] }, { accessFlags := 10, nameIndex := 33, descriptorIndex := 34, attributes := #[] }, { accessFlags := 9, nameIndex := 53, descriptorIndex := 54, attributes := #[] }] 49 2 #[] #[])
  fields := #[]
  methods := #[k1m0, k1m1, k1m2]
  instanceTypes := #[]
  staticTypes := #[]
  resolved := Array.replicate 61 none
  statics := none }

def pool2 : Array CpInfo := pool [(1, .class_ 2), (0, u "java/lang/constant/Constable"), (0, .class_ 4), (0, u "java/lang/Object")] 6

/-- java/lang/constant/Constable -/
def k2 : Class := { plain "java/lang/constant/Constable" (some 0) with
  accessFlags := 1537
  interfaces := #[]
  cf := some (fileOf pool2 1 #[] #[] 1537 3 #[] #[])
  fields := #[]
  methods := #[]
  instanceTypes := #[]
  staticTypes := #[]
  resolved := Array.replicate 11 none
  statics := none }

def pool3 : Array CpInfo := pool [(1, .class_ 2), (0, u "java/lang/Comparable"), (0, .class_ 4), (0, u "java/lang/Object")] 7

/-- java/lang/Comparable -/
def k3 : Class := { plain "java/lang/Comparable" (some 0) with
  accessFlags := 1537
  interfaces := #[]
  cf := some (fileOf pool3 1 #[] #[] 1537 3 #[] #[])
  fields := #[]
  methods := #[]
  instanceTypes := #[]
  staticTypes := #[]
  resolved := Array.replicate 12 none
  statics := none }

def pool4 : Array CpInfo := pool [(1, .class_ 2), (0, u "java/io/Serializable"), (0, .class_ 4), (0, u "java/lang/Object")] 2

/-- java/io/Serializable -/
def k4 : Class := { plain "java/io/Serializable" (some 0) with
  accessFlags := 1537
  interfaces := #[]
  cf := some (fileOf pool4 1 #[] #[] 1537 3 #[] #[])
  fields := #[]
  methods := #[]
  instanceTypes := #[]
  staticTypes := #[]
  resolved := Array.replicate 7 none
  statics := none }

def pool5 : Array CpInfo := pool [(2, .class_ 4), (1, u "java/lang/Enum"), (0, u "name"), (0, u "Ljava/lang/String;"), (2, u "ordinal"), (0, u "I"), (1, .class_ 14), (1, u "java/lang/Object"), (4, u "hash"), (86, .class_ 108), (1, u "java/lang/Enum$EnumDesc"), (2, .class_ 112), (0, u "java/lang/constant/Constable"), (0, .class_ 114), (0, u "java/lang/Comparable"), (0, .class_ 116), (0, u "java/io/Serializable")] 87

/-- java/lang/Enum -/
def k5 : Class := { plain "java/lang/Enum" (some 0) with
  accessFlags := 1057
  interfaces := #[2, 3, 4]
  cf := some (fileOf pool5 2 #[.nestMembers #[106]] #[] 1057 12 #[111, 113, 115] #[{ accessFlags := 18, nameIndex := 5, descriptorIndex := 6, attributes := #[] }, { accessFlags := 18, nameIndex := 9, descriptorIndex := 10, attributes := #[] }, { accessFlags := 2, nameIndex := 19, descriptorIndex := 10, attributes := #[] }])
  fields := #[{ name := "name", type := (.object "java/lang/String"), accessFlags := 18, slot := 0, constantValue := 0 }, { name := "ordinal", type := .int, accessFlags := 18, slot := 1, constantValue := 0 }, { name := "hash", type := .int, accessFlags := 2, slot := 2, constantValue := 0 }]
  methods := #[]
  instanceTypes := #[(.object "java/lang/String"), .int, .int]
  staticTypes := #[]
  resolved := Array.replicate 204 none
  statics := none }

def pool6 : Array CpInfo := pool [(1, .class_ 2), (0, u "com/example/converge_to_schema/convergetoschema/schema/Token$Kind"), (2, u "WORD"), (0, u "Lcom/example/converge_to_schema/convergetoschema/schema/Token$Kind;"), (2, u "NUMBER"), (2, u "STRING"), (2, u "SYMBOL"), (2, u "DOCUMENTATION"), (2, u "END"), (2, u "$VALUES"), (0, u "[Lcom/example/converge_to_schema/convergetoschema/schema/Token$Kind;"), (6, .class_ 34), (1, u "java/lang/Enum"), (29, .class_ 65), (0, u "com/example/converge_to_schema/convergetoschema/schema/Token")] 2

/-- com/example/converge_to_schema/convergetoschema/schema/Token$Kind -/
def k6 : Class := { plain "com/example/converge_to_schema/convergetoschema/schema/Token$Kind" (some 5) with
  accessFlags := 16432
  interfaces := #[]
  cf := some (fileOf pool6 1 #[.nestHost 64] #[] 16432 32 #[] #[{ accessFlags := 16409, nameIndex := 5, descriptorIndex := 6, attributes := #[] }, { accessFlags := 16409, nameIndex := 9, descriptorIndex := 6, attributes := #[] }, { accessFlags := 16409, nameIndex := 12, descriptorIndex := 6, attributes := #[] }, { accessFlags := 16409, nameIndex := 15, descriptorIndex := 6, attributes := #[] }, { accessFlags := 16409, nameIndex := 18, descriptorIndex := 6, attributes := #[] }, { accessFlags := 16409, nameIndex := 21, descriptorIndex := 6, attributes := #[] }, { accessFlags := 4122, nameIndex := 24, descriptorIndex := 25, attributes := #[] }])
  fields := #[{ name := "WORD", type := (.object "com/example/converge_to_schema/convergetoschema/schema/Token$Kind"), accessFlags := 16409, slot := 0, constantValue := 0 }, { name := "NUMBER", type := (.object "com/example/converge_to_schema/convergetoschema/schema/Token$Kind"), accessFlags := 16409, slot := 1, constantValue := 0 }, { name := "STRING", type := (.object "com/example/converge_to_schema/convergetoschema/schema/Token$Kind"), accessFlags := 16409, slot := 2, constantValue := 0 }, { name := "SYMBOL", type := (.object "com/example/converge_to_schema/convergetoschema/schema/Token$Kind"), accessFlags := 16409, slot := 3, constantValue := 0 }, { name := "DOCUMENTATION", type := (.object "com/example/converge_to_schema/convergetoschema/schema/Token$Kind"), accessFlags := 16409, slot := 4, constantValue := 0 }, { name := "END", type := (.object "com/example/converge_to_schema/convergetoschema/schema/Token$Kind"), accessFlags := 16409, slot := 5, constantValue := 0 }, { name := "$VALUES", type := (.array (.object "com/example/converge_to_schema/convergetoschema/schema/Token$Kind")), accessFlags := 4122, slot := 6, constantValue := 0 }]
  methods := #[]
  instanceTypes := #[(.object "java/lang/String"), .int, .int]
  staticTypes := #[(.object "com/example/converge_to_schema/convergetoschema/schema/Token$Kind"), (.object "com/example/converge_to_schema/convergetoschema/schema/Token$Kind"), (.object "com/example/converge_to_schema/convergetoschema/schema/Token$Kind"), (.object "com/example/converge_to_schema/convergetoschema/schema/Token$Kind"), (.object "com/example/converge_to_schema/convergetoschema/schema/Token$Kind"), (.object "com/example/converge_to_schema/convergetoschema/schema/Token$Kind"), (.array (.object "com/example/converge_to_schema/convergetoschema/schema/Token$Kind"))]
  resolved := Array.replicate 68 none
  statics := some 0 }

def pool7 : Array CpInfo := pool [(2, .class_ 4), (1, u "java/lang/CharSequence"), (42, .class_ 48), (0, u "java/lang/CharSequence$1CodePointIterator"), (10, .class_ 60), (0, u "java/lang/CharSequence$1CharIterator"), (5, .class_ 67), (0, u "java/lang/Object")] 63

/-- java/lang/CharSequence -/
def k7 : Class := { plain "java/lang/CharSequence" (some 0) with
  accessFlags := 1537
  interfaces := #[]
  cf := some (fileOf pool7 2 #[.nestMembers #[47, 59]] #[] 1537 66 #[] #[])
  fields := #[]
  methods := #[]
  instanceTypes := #[]
  staticTypes := #[]
  resolved := Array.replicate 131 none
  statics := none }

def pool8 : Array CpInfo := pool [(1, .class_ 2), (0, u "java/lang/constant/ConstantDesc"), (0, .class_ 4), (0, u "java/lang/Object")] 32

/-- java/lang/constant/ConstantDesc -/
def k8 : Class := { plain "java/lang/constant/ConstantDesc" (some 0) with
  accessFlags := 1537
  interfaces := #[]
  cf := some (fileOf pool8 1 #[] #[] 1537 3 #[] #[])
  fields := #[]
  methods := #[]
  instanceTypes := #[]
  staticTypes := #[]
  resolved := Array.replicate 37 none
  statics := none }

def pool9 : Array CpInfo := pool [(1, .methodref 2 3), (0, .class_ 4), (0, .nameAndType 5 6), (0, u "java/lang/Object"), (0, u "<init>"), (0, u "()V"), (0, .string 8), (0, u ""), (0, .fieldref 10 11), (0, .class_ 12), (0, .nameAndType 13 14), (0, u "java/lang/String"), (0, u "value"), (0, u "[B"), (0, .fieldref 10 16), (0, .nameAndType 17 18), (0, u "coder"), (0, u "B"), (2, u "hash"), (0, u "I"), (2, u "hashIsZero"), (0, u "Z"), (0, .methodref 10 28), (0, .nameAndType 5 29), (0, u "([CIILjava/lang/Void;)V"), (8, .fieldref 10 39), (0, .nameAndType 40 26), (0, u "COMPACT_STRINGS"), (1, .class_ 44), (1, u "java/lang/StringUTF16"), (0, u "compress"), (1, .methodref 42 48), (0, .nameAndType 49 50), (0, u "coderFromArrayLen"), (0, u "([BI)B"), (56, .class_ 109), (1, u "java/lang/StringLatin1"), (32, u "()Z"), (34, .methodref 42 178), (0, .nameAndType 45 179), (0, u "([CII)[B"), (183, u "([BI)C"), (27, u "(II)V"), (35, u "(I)C"), (64, .methodref 10 493), (0, .nameAndType 494 142), (0, u "isLatin1"), (0, .methodref 107 496), (0, .nameAndType 497 363), (0, u "charAt"), (0, .methodref 42 496), (2, u "checkIndex"), (73, .class_ 576), (0, u "java/lang/CharSequence"), (22, u "CASE_INSENSITIVE_ORDER"), (0, u "Ljava/util/Comparator;"), (409, u "([C)V"), (42, .fieldref 1054 1055), (0, .class_ 1056), (0, .nameAndType 1057 1058), (0, u "jdk/internal/util/Preconditions"), (0, u "SIOOBE_FORMATTER"), (0, u "Ljava/util/function/BiFunction;"), (0, .methodref 1054 1060), (0, .nameAndType 501 1061), (0, u "(IILjava/util/function/BiFunction;)I"), (39, u "serialPersistentFields"), (0, u "[Ljava/io/ObjectStreamField;"), (0, .class_ 1104), (0, u "java/lang/String$CaseInsensitiveComparator"), (1, .class_ 1107), (0, u "java/io/Serializable"), (0, .class_ 1109), (0, u "java/lang/Comparable"), (0, .class_ 1111), (0, u "java/lang/constant/Constable"), (0, .class_ 1113), (0, u "java/lang/constant/ConstantDesc"), (2, u "serialVersionUID"), (0, u "J"), (3, u "REPL"), (0, u "C"), (2, u "LATIN1"), (1, u "UTF16")] 323

def k9m0 : Method := { name := "<init>", desc := "()V", sig := { parameters := [], returnType := none }, accessFlags := 1, code := none }
def k9c1 : Code := { maxStack := 5, maxLocals := 2, code := jdk_42_method_3_code, exceptionTable := #[], attributes := #[] }
def k9m1 : Method := { name := "<init>", desc := "([C)V", sig := { parameters := [(.array .char)], returnType := none }, accessFlags := 1, code := some k9c1 }
def k9c2 : Code := { maxStack := 2, maxLocals := 2, code := jdk_42_method_56_code, exceptionTable := #[], attributes := #[] }
def k9m2 : Method := { name := "charAt", desc := "(I)C", sig := { parameters := [.int], returnType := some .char }, accessFlags := 1, code := some k9c2 }
def k9c3 : Code := { maxStack := 4, maxLocals := 6, code := jdk_42_method_149_code, exceptionTable := #[], attributes := #[] }
def k9m3 : Method := { name := "<init>", desc := "([CIILjava/lang/Void;)V", sig := { parameters := [(.array .char), .int, .int, (.object "java/lang/Void")], returnType := none }, accessFlags := 2, code := some k9c3 }
def k9c4 : Code := { maxStack := 1, maxLocals := 1, code := jdk_42_method_154_code, exceptionTable := #[], attributes := #[] }
def k9m4 : Method := { name := "isLatin1", desc := "()Z", sig := { parameters := [], returnType := some .boolean }, accessFlags := 0, code := some k9c4 }
def k9c5 : Code := { maxStack := 3, maxLocals := 2, code := jdk_42_method_155_code, exceptionTable := #[], attributes := #[] }
def k9m5 : Method := { name := "checkIndex", desc := "(II)V", sig := { parameters := [.int, .int], returnType := none }, accessFlags := 8, code := some k9c5 }
/-- java/lang/String -/
def k9 : Class := { plain "java/lang/String" (some 0) with
  accessFlags := 49
  interfaces := #[4, 3, 7, 2, 8]
  cf := some (fileOf pool9 10 #[.nestMembers #[1103]] #[{ accessFlags := 1, nameIndex := 5, descriptorIndex := 6, attributes := #[] }, { accessFlags := 1, nameIndex := 5, descriptorIndex := 1010, attributes := #[] }, { accessFlags := 1, nameIndex := 497, descriptorIndex := 427, attributes := #[] }, { accessFlags := 2, nameIndex := 5, descriptorIndex := 29, attributes := #[] }, { accessFlags := 0, nameIndex := 494, descriptorIndex := 142, attributes := #[] }, { accessFlags := 8, nameIndex := 501, descriptorIndex := 391, attributes := #[] }] 49 2 #[1106, 1108, 575, 1110, 1112] #[{ accessFlags := 18, nameIndex := 13, descriptorIndex := 14, attributes := #[] }, { accessFlags := 18, nameIndex := 17, descriptorIndex := 18, attributes := #[] }, { accessFlags := 2, nameIndex := 21, descriptorIndex := 22, attributes := #[] }, { accessFlags := 2, nameIndex := 25, descriptorIndex := 26, attributes := #[] }, { accessFlags := 26, nameIndex := 1116, descriptorIndex := 1117, attributes := #[] }, { accessFlags := 24, nameIndex := 40, descriptorIndex := 26, attributes := #[] }, { accessFlags := 26, nameIndex := 1101, descriptorIndex := 1102, attributes := #[] }, { accessFlags := 26, nameIndex := 1121, descriptorIndex := 1122, attributes := #[] }, { accessFlags := 25, nameIndex := 599, descriptorIndex := 600, attributes := #[] }, { accessFlags := 24, nameIndex := 1125, descriptorIndex := 18, attributes := #[] }, { accessFlags := 24, nameIndex := 1127, descriptorIndex := 18, attributes := #[] }])
  fields := #[{ name := "value", type := (.array .byte), accessFlags := 18, slot := 0, constantValue := 0 }, { name := "coder", type := .byte, accessFlags := 18, slot := 1, constantValue := 0 }, { name := "hash", type := .int, accessFlags := 2, slot := 2, constantValue := 0 }, { name := "hashIsZero", type := .boolean, accessFlags := 2, slot := 3, constantValue := 0 }, { name := "serialVersionUID", type := .long, accessFlags := 26, slot := 0, constantValue := 0 }, { name := "COMPACT_STRINGS", type := .boolean, accessFlags := 24, slot := 1, constantValue := 0 }, { name := "serialPersistentFields", type := (.array (.object "java/io/ObjectStreamField")), accessFlags := 26, slot := 2, constantValue := 0 }, { name := "REPL", type := .char, accessFlags := 26, slot := 3, constantValue := 0 }, { name := "CASE_INSENSITIVE_ORDER", type := (.object "java/util/Comparator"), accessFlags := 25, slot := 4, constantValue := 0 }, { name := "LATIN1", type := .byte, accessFlags := 24, slot := 5, constantValue := 0 }, { name := "UTF16", type := .byte, accessFlags := 24, slot := 6, constantValue := 0 }]
  methods := #[k9m0, k9m1, k9m2, k9m3, k9m4, k9m5]
  instanceTypes := #[(.array .byte), .byte, .int, .boolean]
  staticTypes := #[.long, .boolean, (.array (.object "java/io/ObjectStreamField")), .char, (.object "java/util/Comparator"), .byte, .byte]
  resolved := Array.replicate 1451 none
  statics := some 1 }

def pool10 : Array CpInfo := pool [(1, .methodref 2 3), (0, .class_ 4), (0, .nameAndType 5 6), (0, u "java/lang/Object"), (0, u "<init>"), (0, u "()V"), (0, .fieldref 8 9), (0, .class_ 10), (0, .nameAndType 11 12), (0, u "com/example/converge_to_schema/convergetoschema/schema/Token"), (0, u "kind"), (0, u "Lcom/example/converge_to_schema/convergetoschema/schema/Token$Kind;"), (0, .fieldref 8 14), (0, .nameAndType 15 16), (0, u "text"), (0, u "Ljava/lang/String;"), (0, .fieldref 8 18), (0, .nameAndType 19 20), (0, u "line"), (0, u "I"), (0, .fieldref 8 22), (0, .nameAndType 23 20), (0, u "column"), (1, .class_ 27), (1, u "com/example/converge_to_schema/convergetoschema/schema/Token$Kind"), (2, .class_ 32), (1, u "java/lang/String"), (2, .fieldref 25 36), (0, .nameAndType 37 12), (0, u "SYMBOL"), (0, .methodref 30 39), (0, .nameAndType 40 41), (0, u "charAt"), (0, u "(I)C"), (20, u "(Lcom/example/converge_to_schema/convergetoschema/schema/Token$Kind;Ljava/lang/String;II)V"), (6, u "isSymbol"), (0, u "(C)Z")] 20

def k10c0 : Code := { maxStack := 2, maxLocals := 5, code := prog_68_method_1_code, exceptionTable := #[], attributes := #[] }
def k10m0 : Method := { name := "<init>", desc := "(Lcom/example/converge_to_schema/convergetoschema/schema/Token$Kind;Ljava/lang/String;II)V", sig := { parameters := [(.object "com/example/converge_to_schema/convergetoschema/schema/Token$Kind"), (.object "java/lang/String"), .int, .int], returnType := none }, accessFlags := 0, code := some k10c0 }
def k10c1 : Code := { maxStack := 2, maxLocals := 2, code := prog_68_method_7_code, exceptionTable := #[], attributes := #[] }
def k10m1 : Method := { name := "isSymbol", desc := "(C)Z", sig := { parameters := [.char], returnType := some .boolean }, accessFlags := 0, code := some k10c1 }
/-- com/example/converge_to_schema/convergetoschema/schema/Token -/
def k10 : Class := { plain "com/example/converge_to_schema/convergetoschema/schema/Token" (some 0) with
  accessFlags := 32
  interfaces := #[]
  cf := some (fileOf pool10 8 #[.nestMembers #[25]] #[{ accessFlags := 0, nameIndex := 5, descriptorIndex := 62, attributes := #[] }, { accessFlags := 0, nameIndex := 69, descriptorIndex := 70, attributes := #[] }] 32 2 #[] #[{ accessFlags := 18, nameIndex := 11, descriptorIndex := 12, attributes := #[] }, { accessFlags := 18, nameIndex := 15, descriptorIndex := 16, attributes := #[] }, { accessFlags := 18, nameIndex := 19, descriptorIndex := 20, attributes := #[] }, { accessFlags := 18, nameIndex := 23, descriptorIndex := 20, attributes := #[] }])
  fields := #[{ name := "kind", type := (.object "com/example/converge_to_schema/convergetoschema/schema/Token$Kind"), accessFlags := 18, slot := 0, constantValue := 0 }, { name := "text", type := (.object "java/lang/String"), accessFlags := 18, slot := 1, constantValue := 0 }, { name := "line", type := .int, accessFlags := 18, slot := 2, constantValue := 0 }, { name := "column", type := .int, accessFlags := 18, slot := 3, constantValue := 0 }]
  methods := #[k10m0, k10m1]
  instanceTypes := #[(.object "com/example/converge_to_schema/convergetoschema/schema/Token$Kind"), (.object "java/lang/String"), .int, .int]
  staticTypes := #[]
  resolved := Array.replicate 91 none
  statics := none }

def pool11 : Array CpInfo := pool [(3, .class_ 4), (0, u "java/lang/String"), (1, .class_ 8), (1, u "java/lang/Object"), (0, u "<init>"), (0, u "()V"), (0, .methodref 12 13), (0, .class_ 14), (0, .nameAndType 15 16), (0, u "java/lang/StringUTF16"), (0, u "newBytesLength"), (0, u "(I)I"), (3, .integer 1073741823), (23, .fieldref 12 45), (0, .nameAndType 46 47), (0, u "$assertionsDisabled"), (0, u "Z"), (0, .methodref 12 49), (0, .nameAndType 50 51), (0, u "length"), (0, u "([B)I"), (7, .fieldref 12 60), (0, .nameAndType 61 62), (0, u "HI_BYTE_SHIFT"), (0, u "I"), (0, .fieldref 12 64), (0, .nameAndType 65 62), (0, u "LO_BYTE_SHIFT"), (1, .methodref 12 68), (0, .nameAndType 69 70), (0, u "checkIndex"), (0, u "(I[B)V"), (0, .methodref 12 72), (0, .nameAndType 73 74), (0, u "getChar"), (0, u "([BI)C"), (32, .methodref 12 108), (0, .nameAndType 109 110), (0, u "newBytesFor"), (0, u "(I)[B"), (0, .methodref 12 112), (0, .nameAndType 113 114), (0, u "putChar"), (0, u "([BII)V"), (0, .methodref 12 116), (0, .nameAndType 117 118), (0, u "compress"), (0, u "([CI[BII)I"), (0, .methodref 12 120), (0, .nameAndType 121 122), (0, u "toBytes"), (0, u "([CII)[B"), (138, u "coderFromArrayLen"), (0, u "([BI)B"), (106, .class_ 371), (1, u "java/lang/StringUTF16$LinesSpliterator"), (20, u "charAt"), (21, .methodref 3 415), (0, .nameAndType 69 416), (0, u "(II)V"), (13, u "MAX_LENGTH"), (196, .class_ 628), (0, u "java/lang/StringUTF16$CodePointsSpliterator"), (0, .class_ 630), (0, u "java/lang/StringUTF16$CharsSpliterator")] 4

def k11m0 : Method := { name := "<init>", desc := "()V", sig := { parameters := [], returnType := none }, accessFlags := 0, code := none }
def k11c1 : Code := { maxStack := 1, maxLocals := 1, code := jdk_52_method_2_code, exceptionTable := #[], attributes := #[] }
def k11m1 : Method := { name := "newBytesFor", desc := "(I)[B", sig := { parameters := [.int], returnType := some (.array .byte) }, accessFlags := 9, code := some k11c1 }
def k11c2 : Code := { maxStack := 4, maxLocals := 1, code := jdk_52_method_3_code, exceptionTable := #[], attributes := #[] }
def k11m2 : Method := { name := "newBytesLength", desc := "(I)I", sig := { parameters := [.int], returnType := some .int }, accessFlags := 9, code := some k11c2 }
def k11c3 : Code := { maxStack := 4, maxLocals := 3, code := jdk_52_method_4_code, exceptionTable := #[], attributes := #[] }
def k11m3 : Method := { name := "putChar", desc := "([BII)V", sig := { parameters := [(.array .byte), .int, .int], returnType := none }, accessFlags := 8, code := some k11c3 }
def k11c4 : Code := { maxStack := 3, maxLocals := 2, code := jdk_52_method_5_code, exceptionTable := #[], attributes := #[] }
def k11m4 : Method := { name := "getChar", desc := "([BI)C", sig := { parameters := [(.array .byte), .int], returnType := some .char }, accessFlags := 8, code := some k11c4 }
def k11c5 : Code := { maxStack := 2, maxLocals := 1, code := jdk_52_method_6_code, exceptionTable := #[], attributes := #[] }
def k11m5 : Method := { name := "length", desc := "([B)I", sig := { parameters := [(.array .byte)], returnType := some .int }, accessFlags := 9, code := some k11c5 }
def k11c6 : Code := { maxStack := 4, maxLocals := 5, code := jdk_52_method_14_code, exceptionTable := #[], attributes := #[] }
def k11m6 : Method := { name := "toBytes", desc := "([CII)[B", sig := { parameters := [(.array .char), .int, .int], returnType := some (.array .byte) }, accessFlags := 9, code := some k11c6 }
def k11c7 : Code := { maxStack := 2, maxLocals := 2, code := jdk_52_method_15_code, exceptionTable := #[], attributes := #[] }
def k11m7 : Method := { name := "coderFromArrayLen", desc := "([BI)B", sig := { parameters := [(.array .byte), .int], returnType := some .byte }, accessFlags := 8, code := some k11c7 }
def k11c8 : Code := { maxStack := 5, maxLocals := 6, code := jdk_52_method_16_code, exceptionTable := #[], attributes := #[] }
def k11m8 : Method := { name := "compress", desc := "([CII)[B", sig := { parameters := [(.array .char), .int, .int], returnType := some (.array .byte) }, accessFlags := 9, code := some k11c8 }
def k11c9 : Code := { maxStack := 3, maxLocals := 7, code := jdk_52_method_21_code, exceptionTable := #[], attributes := #[] }
def k11m9 : Method := { name := "compress", desc := "([CI[BII)I", sig := { parameters := [(.array .char), .int, (.array .byte), .int, .int], returnType := some .int }, accessFlags := 9, code := some k11c9 }
def k11c10 : Code := { maxStack := 2, maxLocals := 2, code := jdk_52_method_83_code, exceptionTable := #[], attributes := #[] }
def k11m10 : Method := { name := "charAt", desc := "([BI)C", sig := { parameters := [(.array .byte), .int], returnType := some .char }, accessFlags := 9, code := some k11c10 }
def k11c11 : Code := { maxStack := 2, maxLocals := 2, code := jdk_52_method_91_code, exceptionTable := #[], attributes := #[] }
def k11m11 : Method := { name := "checkIndex", desc := "(I[B)V", sig := { parameters := [.int, (.array .byte)], returnType := none }, accessFlags := 9, code := some k11c11 }
/-- java/lang/StringUTF16 -/
def k11 : Class := { plain "java/lang/StringUTF16" (some 0) with
  accessFlags := 48
  interfaces := #[]
  cf := some (fileOf pool11 12 #[.nestMembers #[627, 629, 369]] #[{ accessFlags := 0, nameIndex := 9, descriptorIndex := 10, attributes := #[] }, { accessFlags := 9, nameIndex := 109, descriptorIndex := 110, attributes := #[] }, { accessFlags := 9, nameIndex := 15, descriptorIndex := 16, attributes := #[] }, { accessFlags := 8, nameIndex := 113, descriptorIndex := 114, attributes := #[] }, { accessFlags := 8, nameIndex := 73, descriptorIndex := 74, attributes := #[] }, { accessFlags := 9, nameIndex := 50, descriptorIndex := 51, attributes := #[] }, { accessFlags := 9, nameIndex := 121, descriptorIndex := 122, attributes := #[] }, { accessFlags := 8, nameIndex := 261, descriptorIndex := 262, attributes := #[] }, { accessFlags := 9, nameIndex := 117, descriptorIndex := 122, attributes := #[] }, { accessFlags := 9, nameIndex := 117, descriptorIndex := 118, attributes := #[] }, { accessFlags := 9, nameIndex := 392, descriptorIndex := 74, attributes := #[] }, { accessFlags := 9, nameIndex := 69, descriptorIndex := 70, attributes := #[] }] 48 6 #[] #[{ accessFlags := 26, nameIndex := 61, descriptorIndex := 62, attributes := #[] }, { accessFlags := 26, nameIndex := 65, descriptorIndex := 62, attributes := #[] }, { accessFlags := 24, nameIndex := 430, descriptorIndex := 62, attributes := #[] }, { accessFlags := 4120, nameIndex := 46, descriptorIndex := 47, attributes := #[] }])
  fields := #[{ name := "HI_BYTE_SHIFT", type := .int, accessFlags := 26, slot := 0, constantValue := 0 }, { name := "LO_BYTE_SHIFT", type := .int, accessFlags := 26, slot := 1, constantValue := 0 }, { name := "MAX_LENGTH", type := .int, accessFlags := 24, slot := 2, constantValue := 0 }, { name := "$assertionsDisabled", type := .boolean, accessFlags := 4120, slot := 3, constantValue := 0 }]
  methods := #[k11m0, k11m1, k11m2, k11m3, k11m4, k11m5, k11m6, k11m7, k11m8, k11m9, k11m10, k11m11]
  instanceTypes := #[]
  staticTypes := #[.int, .int, .int, .boolean]
  resolved := Array.replicate 635 none
  statics := some 2 }

def pool12 : Array CpInfo := pool [(1, .class_ 2), (0, u "java/lang/String"), (1, .class_ 6), (1, u "java/lang/Object"), (0, u "<init>"), (0, u "()V"), (0, .methodref 1 10), (0, .nameAndType 11 12), (0, u "checkIndex"), (0, u "(II)V"), (1, .class_ 16), (1, u "java/lang/StringLatin1"), (36, u "([BI)C"), (67, u "$assertionsDisabled"), (0, u "Z"), (98, .class_ 223), (1, u "java/lang/StringLatin1$LinesSpliterator"), (28, u "charAt"), (137, .class_ 391), (0, u "java/lang/StringLatin1$CharsSpliterator")] 3

def k12m0 : Method := { name := "<init>", desc := "()V", sig := { parameters := [], returnType := none }, accessFlags := 0, code := none }
def k12c1 : Code := { maxStack := 2, maxLocals := 2, code := jdk_43_method_2_code, exceptionTable := #[], attributes := #[] }
def k12m1 : Method := { name := "charAt", desc := "([BI)C", sig := { parameters := [(.array .byte), .int], returnType := some .char }, accessFlags := 9, code := some k12c1 }
/-- java/lang/StringLatin1 -/
def k12 : Class := { plain "java/lang/StringLatin1" (some 0) with
  accessFlags := 48
  interfaces := #[]
  cf := some (fileOf pool12 14 #[.nestMembers #[390, 221]] #[{ accessFlags := 0, nameIndex := 7, descriptorIndex := 8, attributes := #[] }, { accessFlags := 9, nameIndex := 252, descriptorIndex := 53, attributes := #[] }] 48 4 #[] #[{ accessFlags := 4120, nameIndex := 121, descriptorIndex := 122, attributes := #[] }])
  fields := #[{ name := "$assertionsDisabled", type := .boolean, accessFlags := 4120, slot := 0, constantValue := 0 }]
  methods := #[k12m0, k12m1]
  instanceTypes := #[]
  staticTypes := #[.boolean]
  resolved := Array.replicate 395 none
  statics := none }

def pool13 : Array CpInfo := pool [(2, .class_ 4), (1, u "java/lang/Object"), (0, u "<init>"), (0, u "()V"), (17, .class_ 26), (1, u "jdk/internal/util/Preconditions"), (6, u "checkIndex"), (21, .class_ 56), (0, u "jdk/internal/util/Preconditions$4"), (57, .class_ 115), (0, u "jdk/internal/util/Preconditions$1"), (7, u "SIOOBE_FORMATTER"), (0, u "Ljava/util/function/BiFunction;"), (0, .class_ 126), (0, u "jdk/internal/util/Preconditions$2"), (3, u "AIOOBE_FORMATTER"), (0, .class_ 132), (0, u "jdk/internal/util/Preconditions$3"), (3, u "IOOBE_FORMATTER"), (41, u "(IILjava/util/function/BiFunction;)I")] 15

def k13m0 : Method := { name := "<init>", desc := "()V", sig := { parameters := [], returnType := none }, accessFlags := 1, code := none }
def k13c1 : Code := { maxStack := 3, maxLocals := 3, code := jdk_41_method_11_code, exceptionTable := #[], attributes := #[] }
def k13m1 : Method := { name := "checkIndex", desc := "(IILjava/util/function/BiFunction;)I", sig := { parameters := [.int, .int, (.object "java/util/function/BiFunction")], returnType := some .int }, accessFlags := 9, code := some k13c1 }
/-- jdk/internal/util/Preconditions -/
def k13 : Class := { plain "jdk/internal/util/Preconditions" (some 0) with
  accessFlags := 33
  interfaces := #[]
  cf := some (fileOf pool13 24 #[.nestMembers #[55, 131, 125, 114]] #[{ accessFlags := 1, nameIndex := 5, descriptorIndex := 6, attributes := #[] }, { accessFlags := 9, nameIndex := 33, descriptorIndex := 178, attributes := #[] }] 33 2 #[] #[{ accessFlags := 25, nameIndex := 123, descriptorIndex := 124, attributes := #[] }, { accessFlags := 25, nameIndex := 130, descriptorIndex := 124, attributes := #[] }, { accessFlags := 25, nameIndex := 136, descriptorIndex := 124, attributes := #[] }])
  fields := #[{ name := "SIOOBE_FORMATTER", type := (.object "java/util/function/BiFunction"), accessFlags := 25, slot := 0, constantValue := 0 }, { name := "AIOOBE_FORMATTER", type := (.object "java/util/function/BiFunction"), accessFlags := 25, slot := 1, constantValue := 0 }, { name := "IOOBE_FORMATTER", type := (.object "java/util/function/BiFunction"), accessFlags := 25, slot := 2, constantValue := 0 }]
  methods := #[k13m0, k13m1]
  instanceTypes := #[]
  staticTypes := #[(.object "java/util/function/BiFunction"), (.object "java/util/function/BiFunction"), (.object "java/util/function/BiFunction")]
  resolved := Array.replicate 194 none
  statics := some 3 }

def pool14 : Array CpInfo := pool [(9, u "<init>"), (6, .class_ 18), (1, u "java/lang/Object"), (0, u "()V"), (1, .class_ 23), (1, u "jdk/internal/util/ArraysSupport"), (0, u "LOG2_ARRAY_LONG_INDEX_SCALE"), (0, u "I"), (2, u "U"), (0, u "Ljdk/internal/misc/Unsafe;"), (8, u "BIG_ENDIAN"), (0, u "Z"), (8, u "LOG2_BYTE_BIT_SIZE"), (4, u "LOG2_ARRAY_INT_INDEX_SCALE"), (54, u "JLA"), (0, u "Ljdk/internal/access/JavaLangAccess;"), (11, u "LOG2_ARRAY_BOOLEAN_INDEX_SCALE"), (9, u "LOG2_ARRAY_BYTE_INDEX_SCALE"), (5, u "LOG2_ARRAY_CHAR_INDEX_SCALE"), (5, u "LOG2_ARRAY_SHORT_INDEX_SCALE"), (18, u "LOG2_ARRAY_FLOAT_INDEX_SCALE"), (24, u "LOG2_ARRAY_DOUBLE_INDEX_SCALE"), (89, u "T_BOOLEAN"), (2, u "T_CHAR"), (1, u "T_FLOAT"), (1, u "T_DOUBLE"), (1, u "T_BYTE"), (1, u "T_SHORT"), (1, u "T_INT"), (1, u "T_LONG"), (1, u "SOFT_MAX_ARRAY_LENGTH")] 83

def k14m0 : Method := { name := "<init>", desc := "()V", sig := { parameters := [], returnType := none }, accessFlags := 2, code := none }
/-- jdk/internal/util/ArraysSupport -/
def k14 : Class := { plain "jdk/internal/util/ArraysSupport" (some 0) with
  accessFlags := 33
  interfaces := #[]
  cf := some (fileOf pool14 21 #[] #[{ accessFlags := 2, nameIndex := 9, descriptorIndex := 19, attributes := #[] }] 33 16 #[] #[{ accessFlags := 24, nameIndex := 28, descriptorIndex := 29, attributes := #[] }, { accessFlags := 26, nameIndex := 38, descriptorIndex := 39, attributes := #[] }, { accessFlags := 25, nameIndex := 121, descriptorIndex := 25, attributes := #[] }, { accessFlags := 25, nameIndex := 131, descriptorIndex := 25, attributes := #[] }, { accessFlags := 25, nameIndex := 137, descriptorIndex := 25, attributes := #[] }, { accessFlags := 25, nameIndex := 143, descriptorIndex := 25, attributes := #[] }, { accessFlags := 25, nameIndex := 53, descriptorIndex := 25, attributes := #[] }, { accessFlags := 25, nameIndex := 24, descriptorIndex := 25, attributes := #[] }, { accessFlags := 25, nameIndex := 162, descriptorIndex := 25, attributes := #[] }, { accessFlags := 25, nameIndex := 187, descriptorIndex := 25, attributes := #[] }, { accessFlags := 26, nameIndex := 48, descriptorIndex := 25, attributes := #[] }, { accessFlags := 25, nameIndex := 277, descriptorIndex := 25, attributes := #[] }, { accessFlags := 25, nameIndex := 280, descriptorIndex := 25, attributes := #[] }, { accessFlags := 25, nameIndex := 282, descriptorIndex := 25, attributes := #[] }, { accessFlags := 25, nameIndex := 284, descriptorIndex := 25, attributes := #[] }, { accessFlags := 25, nameIndex := 286, descriptorIndex := 25, attributes := #[] }, { accessFlags := 25, nameIndex := 288, descriptorIndex := 25, attributes := #[] }, { accessFlags := 25, nameIndex := 290, descriptorIndex := 25, attributes := #[] }, { accessFlags := 25, nameIndex := 292, descriptorIndex := 25, attributes := #[] }, { accessFlags := 26, nameIndex := 108, descriptorIndex := 109, attributes := #[] }, { accessFlags := 25, nameIndex := 294, descriptorIndex := 25, attributes := #[] }])
  fields := #[{ name := "U", type := (.object "jdk/internal/misc/Unsafe"), accessFlags := 24, slot := 0, constantValue := 0 }, { name := "BIG_ENDIAN", type := .boolean, accessFlags := 26, slot := 1, constantValue := 0 }, { name := "LOG2_ARRAY_BOOLEAN_INDEX_SCALE", type := .int, accessFlags := 25, slot := 2, constantValue := 0 }, { name := "LOG2_ARRAY_BYTE_INDEX_SCALE", type := .int, accessFlags := 25, slot := 3, constantValue := 0 }, { name := "LOG2_ARRAY_CHAR_INDEX_SCALE", type := .int, accessFlags := 25, slot := 4, constantValue := 0 }, { name := "LOG2_ARRAY_SHORT_INDEX_SCALE", type := .int, accessFlags := 25, slot := 5, constantValue := 0 }, { name := "LOG2_ARRAY_INT_INDEX_SCALE", type := .int, accessFlags := 25, slot := 6, constantValue := 0 }, { name := "LOG2_ARRAY_LONG_INDEX_SCALE", type := .int, accessFlags := 25, slot := 7, constantValue := 0 }, { name := "LOG2_ARRAY_FLOAT_INDEX_SCALE", type := .int, accessFlags := 25, slot := 8, constantValue := 0 }, { name := "LOG2_ARRAY_DOUBLE_INDEX_SCALE", type := .int, accessFlags := 25, slot := 9, constantValue := 0 }, { name := "LOG2_BYTE_BIT_SIZE", type := .int, accessFlags := 26, slot := 10, constantValue := 0 }, { name := "T_BOOLEAN", type := .int, accessFlags := 25, slot := 11, constantValue := 0 }, { name := "T_CHAR", type := .int, accessFlags := 25, slot := 12, constantValue := 0 }, { name := "T_FLOAT", type := .int, accessFlags := 25, slot := 13, constantValue := 0 }, { name := "T_DOUBLE", type := .int, accessFlags := 25, slot := 14, constantValue := 0 }, { name := "T_BYTE", type := .int, accessFlags := 25, slot := 15, constantValue := 0 }, { name := "T_SHORT", type := .int, accessFlags := 25, slot := 16, constantValue := 0 }, { name := "T_INT", type := .int, accessFlags := 25, slot := 17, constantValue := 0 }, { name := "T_LONG", type := .int, accessFlags := 25, slot := 18, constantValue := 0 }, { name := "JLA", type := (.object "jdk/internal/access/JavaLangAccess"), accessFlags := 26, slot := 19, constantValue := 0 }, { name := "SOFT_MAX_ARRAY_LENGTH", type := .int, accessFlags := 25, slot := 20, constantValue := 0 }]
  methods := #[k14m0]
  instanceTypes := #[]
  staticTypes := #[(.object "jdk/internal/misc/Unsafe"), .boolean, .int, .int, .int, .int, .int, .int, .int, .int, .int, .int, .int, .int, .int, .int, .int, .int, .int, (.object "jdk/internal/access/JavaLangAccess"), .int]
  resolved := Array.replicate 378 none
  statics := none }

def pool15 : Array CpInfo := pool [(1, u "java/lang/Cloneable"), (0, .class_ 1), (0, u "java/lang/Object"), (0, .class_ 3)] 3

/-- java/lang/Cloneable -/
def k15 : Class := { plain "java/lang/Cloneable" (some 0) with
  accessFlags := 1537
  interfaces := #[]
  cf := some (fileOf pool15 2 #[] #[] 1537 4 #[] #[])
  fields := #[]
  methods := #[]
  instanceTypes := #[]
  staticTypes := #[]
  resolved := Array.replicate 8 none
  statics := none }

/-- the primitive byte -/
def k16 : Class := { plain "byte" none with kind := .primitive 'B', accessFlags := 0x411 }
/-- [B -/
def k17 : Class := { plain "[B" (some 0) with kind := .array 16 .byte, interfaces := #[15, 4], accessFlags := 1041 }

/-- the primitive char -/
def k18 : Class := { plain "char" none with kind := .primitive 'C', accessFlags := 0x411 }
/-- [C -/
def k19 : Class := { plain "[C" (some 0) with kind := .array 18 .char, interfaces := #[15, 4], accessFlags := 1041 }

/-- the primitive int -/
def k20 : Class := { plain "int" none with kind := .primitive 'I', accessFlags := 0x411 }
/-- [I -/
def k21 : Class := { plain "[I" (some 0) with kind := .array 20 .int, interfaces := #[15, 4], accessFlags := 1041 }

def heap : Heap := #[{ cls := 6, slots := #[.ref 4, .ref 5, .ref 6, .ref 7, .ref 8, .ref 9, .null], vm := .statics 6 },
  { cls := 9, slots := #[.long 0, .int 1, .null, .int 0, .null, .int 0, .int 0], vm := .statics 9 },
  { cls := 11, slots := #[.int 0, .int 8, .int 0, .int 1], vm := .statics 11 },
  { cls := 13, slots := #[.null, .null, .null], vm := .statics 13 },
  { cls := 6, slots := #[.null, .int 0, .int 0], vm := .none },
  { cls := 6, slots := #[.null, .int 1, .int 0], vm := .none },
  { cls := 6, slots := #[.null, .int 2, .int 0], vm := .none },
  { cls := 6, slots := #[.null, .int 3, .int 0], vm := .none },
  { cls := 6, slots := #[.null, .int 4, .int 0], vm := .none },
  { cls := 6, slots := #[.null, .int 5, .int 0], vm := .none }]
def classes : Array Class := #[k0, k1, k2, k3, k4, k5, k6, k7, k8, k9, k10, k11, k12, k13, k14, k15, k16, k17, k18, k19, k20, k21]
def interned : List (Array UInt16 × Addr) := []
def slotsUsed : Nat := 39
def theMethod : MethodId := ⟨1, 2⟩
def args0 : Array Value := #[.int 0, .int 0, .int 0, .int 0, .int 0]
def aboutOver (below : List Frame) : State where
  vm := { classes := classes, interned := interned.toArray }
  heap := heap
  slotsUsed := slotsUsed
  threads := #[{ frames := .invoking theMethod args0 :: below }]
def below0 : List Frame := [.native { method := ⟨0, 0⟩, args := #[] }]
def about1 : State := aboutOver below0
def p0 : Program := .bare "" "" ""
def e0 : Env := launch0.env 0 0 0
theorem w_frames : about1.frames = Frame.invoking theMethod args0 :: below0 := rfl
set_option maxRecDepth 65536 in
theorem w_args : argsFit about1.vm theMethod args0 = true := by decide +kernel
set_option maxRecDepth 65536 in
theorem w_heap : heapFits about1 = true := by decide +kernel
set_option maxRecDepth 65536 in
theorem w_runnable : about1.curStatus? = some .runnable := by decide +kernel
set_option maxRecDepth 65536 in
theorem w_alone : about1.alone = true := by decide +kernel
set_option maxRecDepth 65536 in
theorem w_named : about1.methodNamed? x = some theMethod := by decide +kernel
set_option maxRecDepth 65536 in
theorem w_hears : about1.hears theMethod below0 = true := by decide +kernel
set_option maxRecDepth 65536 in
theorem w_ripe : about1.ripe theMethod args0 below0 = true := by decide +kernel
theorem w_running : about1.status = .running := rfl
set_option maxRecDepth 65536 in
theorem w_room : about1.hasRoom e0.platform room_1 = true :=
  launch0.hasRoom_least _ room_1 (by decide +kernel) (by decide +kernel) (by decide +kernel) (by decide +kernel) (by decide +kernel) (by decide +kernel)
theorem allAtoms_all (ts : List Jvm.Cond) (a : Array Jvm.Value) (st : Jvm.State) : (allAtoms ts).before a st = ts.all (fun c => c.before a st) := by
  induction ts with
  | nil => rfl
  | cons c t ih =>
    show (Jvm.Cond.and c (allAtoms t)).before a st = _
    rw [Jvm.Cond.before_and, ih, List.all_cons]
def words1 : List Jvm.Cond := Jvm.Cond.code x code maxLocals ret :: tables_1
/-- a 'code' word, met by the world's own term for the bytes: nothing is compared byte by byte -/
theorem code_word {y : MethodName} {bytes : ByteArray} {mx : Nat} {rt : Option FieldType} {a : Array Value} {s : State} {m : MethodId} {meth : Method} {c : Code} (h1 : s.methodNamed? y = some m) (h2 : s.vm.method? m = some meth) (h3 : meth.code = some c) (h4 : c.code = bytes)
    (h5 : (c.maxLocals == mx && c.exceptionTable.isEmpty && decide (c.maxStack ≤ mostOperands) && decide (meth.sig.returnType = rt) && !meth.locks && decide (parseMethodDescriptor y.desc = some meth.sig)) = true) : (Jvm.Cond.code y bytes mx rt).before a s = true := by
  simp only [Bool.and_eq_true, beq_iff_eq, Bool.not_eq_true', decide_eq_true_eq] at h5
  obtain ⟨⟨⟨⟨⟨g1, g2⟩, g3⟩, g4⟩, g5⟩, g6⟩ := h5
  simp [Cond.before, Cond.holds, Cond.value, h1, h2, h3, h4, g1, g2, g3, g4, g5, g6]
def isCode : Jvm.Cond → Bool
  | .code _ _ _ _ => true
  | _ => false
theorem all_split {L : List Jvm.Cond} {P : Jvm.Cond → Bool} (h1 : L.all (fun c => isCode c || P c) = true) (h2 : ∀ c ∈ L.filter isCode, P c = true) : L.all P = true := by
  refine List.all_eq_true.mpr fun c hc => ?_
  have h := List.all_eq_true.mp h1 c hc
  rcases Bool.eq_false_or_eq_true (isCode c) with hi | hi
  · exact h2 c (List.mem_filter.mpr ⟨hc, hi⟩)
  · simpa [hi] using h
set_option maxRecDepth 65536 in
theorem w_c0 : (Jvm.Cond.code x code maxLocals ret).before args0 about1 = true := code_word (m := ⟨1, 2⟩) (meth := k1m2) (c := k1c2) (by decide +kernel) rfl rfl rfl (by decide +kernel)
set_option maxRecDepth 65536 in
theorem w_c1 : (Jvm.Cond.code ({ cls := "com/example/converge_to_schema/convergetoschema/schema/TokenIsSymbolPinLaw", name := "kindOf", desc := "(I)Lcom/example/converge_to_schema/convergetoschema/schema/Token$Kind;" } : Jvm.MethodName) method_2_code (1 : Nat) (Option.some (Jvm.ClassFile.FieldType.object "com/example/converge_to_schema/convergetoschema/schema/Token$Kind"))).before args0 about1 = true := code_word (m := ⟨1, 1⟩) (meth := k1m1) (c := k1c1) (by decide +kernel) rfl rfl rfl (by decide +kernel)
set_option maxRecDepth 65536 in
theorem w_c2 : (Jvm.Cond.code ({ cls := "java/lang/String", name := "<init>", desc := "([C)V" } : Jvm.MethodName) jdk_42_method_3_code (2 : Nat) (Option.none : Option Jvm.ClassFile.FieldType)).before args0 about1 = true := code_word (m := ⟨9, 1⟩) (meth := k9m1) (c := k9c1) (by decide +kernel) rfl rfl rfl (by decide +kernel)
set_option maxRecDepth 65536 in
theorem w_c3 : (Jvm.Cond.code ({ cls := "java/lang/String", name := "<init>", desc := "([CIILjava/lang/Void;)V" } : Jvm.MethodName) jdk_42_method_149_code (6 : Nat) (Option.none : Option Jvm.ClassFile.FieldType)).before args0 about1 = true := code_word (m := ⟨9, 3⟩) (meth := k9m3) (c := k9c3) (by decide +kernel) rfl rfl rfl (by decide +kernel)
set_option maxRecDepth 65536 in
theorem w_c4 : (Jvm.Cond.code ({ cls := "java/lang/Object", name := "<init>", desc := "()V" } : Jvm.MethodName) object_method_1_code (1 : Nat) (Option.none : Option Jvm.ClassFile.FieldType)).before args0 about1 = true := code_word (m := ⟨0, 0⟩) (meth := k0m0) (c := k0c0) (by decide +kernel) rfl rfl rfl (by decide +kernel)
set_option maxRecDepth 65536 in
theorem w_c5 : (Jvm.Cond.code ({ cls := "com/example/converge_to_schema/convergetoschema/schema/Token", name := "<init>", desc := "(Lcom/example/converge_to_schema/convergetoschema/schema/Token$Kind;Ljava/lang/String;II)V" } : Jvm.MethodName) prog_68_method_1_code (5 : Nat) (Option.none : Option Jvm.ClassFile.FieldType)).before args0 about1 = true := code_word (m := ⟨10, 0⟩) (meth := k10m0) (c := k10c0) (by decide +kernel) rfl rfl rfl (by decide +kernel)
set_option maxRecDepth 65536 in
theorem w_c6 : (Jvm.Cond.code ({ cls := "com/example/converge_to_schema/convergetoschema/schema/Token", name := "isSymbol", desc := "(C)Z" } : Jvm.MethodName) prog_68_method_7_code (2 : Nat) (Option.some Jvm.ClassFile.FieldType.boolean)).before args0 about1 = true := code_word (m := ⟨10, 1⟩) (meth := k10m1) (c := k10c1) (by decide +kernel) rfl rfl rfl (by decide +kernel)
set_option maxRecDepth 65536 in
theorem w_c7 : (Jvm.Cond.code ({ cls := "java/lang/StringUTF16", name := "compress", desc := "([CII)[B" } : Jvm.MethodName) jdk_52_method_16_code (6 : Nat) (Option.some (Jvm.ClassFile.FieldType.array Jvm.ClassFile.FieldType.byte))).before args0 about1 = true := code_word (m := ⟨11, 8⟩) (meth := k11m8) (c := k11c8) (by decide +kernel) rfl rfl rfl (by decide +kernel)
set_option maxRecDepth 65536 in
theorem w_c8 : (Jvm.Cond.code ({ cls := "java/lang/StringUTF16", name := "compress", desc := "([CI[BII)I" } : Jvm.MethodName) jdk_52_method_21_code (7 : Nat) (Option.some Jvm.ClassFile.FieldType.int)).before args0 about1 = true := code_word (m := ⟨11, 9⟩) (meth := k11m9) (c := k11c9) (by decide +kernel) rfl rfl rfl (by decide +kernel)
set_option maxRecDepth 65536 in
theorem w_c9 : (Jvm.Cond.code ({ cls := "java/lang/StringUTF16", name := "coderFromArrayLen", desc := "([BI)B" } : Jvm.MethodName) jdk_52_method_15_code (2 : Nat) (Option.some Jvm.ClassFile.FieldType.byte)).before args0 about1 = true := code_word (m := ⟨11, 7⟩) (meth := k11m7) (c := k11c7) (by decide +kernel) rfl rfl rfl (by decide +kernel)
set_option maxRecDepth 65536 in
theorem w_c10 : (Jvm.Cond.code ({ cls := "java/lang/String", name := "charAt", desc := "(I)C" } : Jvm.MethodName) jdk_42_method_56_code (2 : Nat) (Option.some Jvm.ClassFile.FieldType.char)).before args0 about1 = true := code_word (m := ⟨9, 2⟩) (meth := k9m2) (c := k9c2) (by decide +kernel) rfl rfl rfl (by decide +kernel)
set_option maxRecDepth 65536 in
theorem w_c11 : (Jvm.Cond.code ({ cls := "java/lang/String", name := "isLatin1", desc := "()Z" } : Jvm.MethodName) jdk_42_method_154_code (1 : Nat) (Option.some Jvm.ClassFile.FieldType.boolean)).before args0 about1 = true := code_word (m := ⟨9, 4⟩) (meth := k9m4) (c := k9c4) (by decide +kernel) rfl rfl rfl (by decide +kernel)
set_option maxRecDepth 65536 in
theorem w_c12 : (Jvm.Cond.code ({ cls := "java/lang/StringLatin1", name := "charAt", desc := "([BI)C" } : Jvm.MethodName) jdk_43_method_2_code (2 : Nat) (Option.some Jvm.ClassFile.FieldType.char)).before args0 about1 = true := code_word (m := ⟨12, 1⟩) (meth := k12m1) (c := k12c1) (by decide +kernel) rfl rfl rfl (by decide +kernel)
set_option maxRecDepth 65536 in
theorem w_c13 : (Jvm.Cond.code ({ cls := "java/lang/String", name := "checkIndex", desc := "(II)V" } : Jvm.MethodName) jdk_42_method_155_code (2 : Nat) (Option.none : Option Jvm.ClassFile.FieldType)).before args0 about1 = true := code_word (m := ⟨9, 5⟩) (meth := k9m5) (c := k9c5) (by decide +kernel) rfl rfl rfl (by decide +kernel)
set_option maxRecDepth 65536 in
theorem w_c14 : (Jvm.Cond.code ({ cls := "jdk/internal/util/Preconditions", name := "checkIndex", desc := "(IILjava/util/function/BiFunction;)I" } : Jvm.MethodName) jdk_41_method_11_code (3 : Nat) (Option.some Jvm.ClassFile.FieldType.int)).before args0 about1 = true := code_word (m := ⟨13, 1⟩) (meth := k13m1) (c := k13c1) (by decide +kernel) rfl rfl rfl (by decide +kernel)
set_option maxRecDepth 65536 in
theorem w_c15 : (Jvm.Cond.code ({ cls := "java/lang/StringUTF16", name := "toBytes", desc := "([CII)[B" } : Jvm.MethodName) jdk_52_method_14_code (5 : Nat) (Option.some (Jvm.ClassFile.FieldType.array Jvm.ClassFile.FieldType.byte))).before args0 about1 = true := code_word (m := ⟨11, 6⟩) (meth := k11m6) (c := k11c6) (by decide +kernel) rfl rfl rfl (by decide +kernel)
set_option maxRecDepth 65536 in
theorem w_c16 : (Jvm.Cond.code ({ cls := "java/lang/StringUTF16", name := "newBytesFor", desc := "(I)[B" } : Jvm.MethodName) jdk_52_method_2_code (1 : Nat) (Option.some (Jvm.ClassFile.FieldType.array Jvm.ClassFile.FieldType.byte))).before args0 about1 = true := code_word (m := ⟨11, 1⟩) (meth := k11m1) (c := k11c1) (by decide +kernel) rfl rfl rfl (by decide +kernel)
set_option maxRecDepth 65536 in
theorem w_c17 : (Jvm.Cond.code ({ cls := "java/lang/StringUTF16", name := "newBytesLength", desc := "(I)I" } : Jvm.MethodName) jdk_52_method_3_code (1 : Nat) (Option.some Jvm.ClassFile.FieldType.int)).before args0 about1 = true := code_word (m := ⟨11, 2⟩) (meth := k11m2) (c := k11c2) (by decide +kernel) rfl rfl rfl (by decide +kernel)
set_option maxRecDepth 65536 in
theorem w_c18 : (Jvm.Cond.code ({ cls := "java/lang/StringUTF16", name := "putChar", desc := "([BII)V" } : Jvm.MethodName) jdk_52_method_4_code (3 : Nat) (Option.none : Option Jvm.ClassFile.FieldType)).before args0 about1 = true := code_word (m := ⟨11, 3⟩) (meth := k11m3) (c := k11c3) (by decide +kernel) rfl rfl rfl (by decide +kernel)
set_option maxRecDepth 65536 in
theorem w_c19 : (Jvm.Cond.code ({ cls := "java/lang/StringUTF16", name := "getChar", desc := "([BI)C" } : Jvm.MethodName) jdk_52_method_5_code (2 : Nat) (Option.some Jvm.ClassFile.FieldType.char)).before args0 about1 = true := code_word (m := ⟨11, 4⟩) (meth := k11m4) (c := k11c4) (by decide +kernel) rfl rfl rfl (by decide +kernel)
set_option maxRecDepth 65536 in
theorem w_c20 : (Jvm.Cond.code ({ cls := "java/lang/StringUTF16", name := "charAt", desc := "([BI)C" } : Jvm.MethodName) jdk_52_method_83_code (2 : Nat) (Option.some Jvm.ClassFile.FieldType.char)).before args0 about1 = true := code_word (m := ⟨11, 10⟩) (meth := k11m10) (c := k11c10) (by decide +kernel) rfl rfl rfl (by decide +kernel)
set_option maxRecDepth 65536 in
theorem w_c21 : (Jvm.Cond.code ({ cls := "java/lang/StringUTF16", name := "checkIndex", desc := "(I[B)V" } : Jvm.MethodName) jdk_52_method_91_code (2 : Nat) (Option.none : Option Jvm.ClassFile.FieldType)).before args0 about1 = true := code_word (m := ⟨11, 11⟩) (meth := k11m11) (c := k11c11) (by decide +kernel) rfl rfl rfl (by decide +kernel)
set_option maxRecDepth 65536 in
theorem w_c22 : (Jvm.Cond.code ({ cls := "java/lang/StringUTF16", name := "length", desc := "([B)I" } : Jvm.MethodName) jdk_52_method_6_code (1 : Nat) (Option.some Jvm.ClassFile.FieldType.int)).before args0 about1 = true := code_word (m := ⟨11, 5⟩) (meth := k11m5) (c := k11c5) (by decide +kernel) rfl rfl rfl (by decide +kernel)
def codes1 : List Jvm.Cond := [Jvm.Cond.code x code maxLocals ret, Jvm.Cond.code ({ cls := "com/example/converge_to_schema/convergetoschema/schema/TokenIsSymbolPinLaw", name := "kindOf", desc := "(I)Lcom/example/converge_to_schema/convergetoschema/schema/Token$Kind;" } : Jvm.MethodName) method_2_code (1 : Nat) (Option.some (Jvm.ClassFile.FieldType.object "com/example/converge_to_schema/convergetoschema/schema/Token$Kind")), Jvm.Cond.code ({ cls := "java/lang/String", name := "<init>", desc := "([C)V" } : Jvm.MethodName) jdk_42_method_3_code (2 : Nat) (Option.none : Option Jvm.ClassFile.FieldType), Jvm.Cond.code ({ cls := "java/lang/String", name := "<init>", desc := "([CIILjava/lang/Void;)V" } : Jvm.MethodName) jdk_42_method_149_code (6 : Nat) (Option.none : Option Jvm.ClassFile.FieldType), Jvm.Cond.code ({ cls := "java/lang/Object", name := "<init>", desc := "()V" } : Jvm.MethodName) object_method_1_code (1 : Nat) (Option.none : Option Jvm.ClassFile.FieldType), Jvm.Cond.code ({ cls := "com/example/converge_to_schema/convergetoschema/schema/Token", name := "<init>", desc := "(Lcom/example/converge_to_schema/convergetoschema/schema/Token$Kind;Ljava/lang/String;II)V" } : Jvm.MethodName) prog_68_method_1_code (5 : Nat) (Option.none : Option Jvm.ClassFile.FieldType), Jvm.Cond.code ({ cls := "com/example/converge_to_schema/convergetoschema/schema/Token", name := "isSymbol", desc := "(C)Z" } : Jvm.MethodName) prog_68_method_7_code (2 : Nat) (Option.some Jvm.ClassFile.FieldType.boolean), Jvm.Cond.code ({ cls := "java/lang/StringUTF16", name := "compress", desc := "([CII)[B" } : Jvm.MethodName) jdk_52_method_16_code (6 : Nat) (Option.some (Jvm.ClassFile.FieldType.array Jvm.ClassFile.FieldType.byte)), Jvm.Cond.code ({ cls := "java/lang/StringUTF16", name := "compress", desc := "([CI[BII)I" } : Jvm.MethodName) jdk_52_method_21_code (7 : Nat) (Option.some Jvm.ClassFile.FieldType.int), Jvm.Cond.code ({ cls := "java/lang/StringUTF16", name := "coderFromArrayLen", desc := "([BI)B" } : Jvm.MethodName) jdk_52_method_15_code (2 : Nat) (Option.some Jvm.ClassFile.FieldType.byte), Jvm.Cond.code ({ cls := "java/lang/String", name := "charAt", desc := "(I)C" } : Jvm.MethodName) jdk_42_method_56_code (2 : Nat) (Option.some Jvm.ClassFile.FieldType.char), Jvm.Cond.code ({ cls := "java/lang/String", name := "isLatin1", desc := "()Z" } : Jvm.MethodName) jdk_42_method_154_code (1 : Nat) (Option.some Jvm.ClassFile.FieldType.boolean), Jvm.Cond.code ({ cls := "java/lang/StringLatin1", name := "charAt", desc := "([BI)C" } : Jvm.MethodName) jdk_43_method_2_code (2 : Nat) (Option.some Jvm.ClassFile.FieldType.char), Jvm.Cond.code ({ cls := "java/lang/String", name := "checkIndex", desc := "(II)V" } : Jvm.MethodName) jdk_42_method_155_code (2 : Nat) (Option.none : Option Jvm.ClassFile.FieldType), Jvm.Cond.code ({ cls := "jdk/internal/util/Preconditions", name := "checkIndex", desc := "(IILjava/util/function/BiFunction;)I" } : Jvm.MethodName) jdk_41_method_11_code (3 : Nat) (Option.some Jvm.ClassFile.FieldType.int), Jvm.Cond.code ({ cls := "java/lang/StringUTF16", name := "toBytes", desc := "([CII)[B" } : Jvm.MethodName) jdk_52_method_14_code (5 : Nat) (Option.some (Jvm.ClassFile.FieldType.array Jvm.ClassFile.FieldType.byte)), Jvm.Cond.code ({ cls := "java/lang/StringUTF16", name := "newBytesFor", desc := "(I)[B" } : Jvm.MethodName) jdk_52_method_2_code (1 : Nat) (Option.some (Jvm.ClassFile.FieldType.array Jvm.ClassFile.FieldType.byte)), Jvm.Cond.code ({ cls := "java/lang/StringUTF16", name := "newBytesLength", desc := "(I)I" } : Jvm.MethodName) jdk_52_method_3_code (1 : Nat) (Option.some Jvm.ClassFile.FieldType.int), Jvm.Cond.code ({ cls := "java/lang/StringUTF16", name := "putChar", desc := "([BII)V" } : Jvm.MethodName) jdk_52_method_4_code (3 : Nat) (Option.none : Option Jvm.ClassFile.FieldType), Jvm.Cond.code ({ cls := "java/lang/StringUTF16", name := "getChar", desc := "([BI)C" } : Jvm.MethodName) jdk_52_method_5_code (2 : Nat) (Option.some Jvm.ClassFile.FieldType.char), Jvm.Cond.code ({ cls := "java/lang/StringUTF16", name := "charAt", desc := "([BI)C" } : Jvm.MethodName) jdk_52_method_83_code (2 : Nat) (Option.some Jvm.ClassFile.FieldType.char), Jvm.Cond.code ({ cls := "java/lang/StringUTF16", name := "checkIndex", desc := "(I[B)V" } : Jvm.MethodName) jdk_52_method_91_code (2 : Nat) (Option.none : Option Jvm.ClassFile.FieldType), Jvm.Cond.code ({ cls := "java/lang/StringUTF16", name := "length", desc := "([B)I" } : Jvm.MethodName) jdk_52_method_6_code (1 : Nat) (Option.some Jvm.ClassFile.FieldType.int)]
set_option maxRecDepth 65536 in
theorem codes_eq : words1.filter isCode = codes1 := rfl
theorem w_codes : ∀ c ∈ words1.filter isCode, c.before args0 about1 = true := by
  rw [codes_eq]
  intro c hc
  simp only [codes1, List.mem_cons, List.not_mem_nil, or_false] at hc
  rcases hc with rfl | rfl | rfl | rfl | rfl | rfl | rfl | rfl | rfl | rfl | rfl | rfl | rfl | rfl | rfl | rfl | rfl | rfl | rfl | rfl | rfl | rfl | rfl
  · exact w_c0
  · exact w_c1
  · exact w_c2
  · exact w_c3
  · exact w_c4
  · exact w_c5
  · exact w_c6
  · exact w_c7
  · exact w_c8
  · exact w_c9
  · exact w_c10
  · exact w_c11
  · exact w_c12
  · exact w_c13
  · exact w_c14
  · exact w_c15
  · exact w_c16
  · exact w_c17
  · exact w_c18
  · exact w_c19
  · exact w_c20
  · exact w_c21
  · exact w_c22
set_option maxRecDepth 65536 in
theorem w_t1 : (words1.take 24).all (fun c => isCode c || c.before args0 about1) = true := by decide +kernel
set_option maxRecDepth 65536 in
theorem w_t2 : ((words1.drop 24).take 24).all (fun c => isCode c || c.before args0 about1) = true := by decide +kernel
set_option maxRecDepth 65536 in
theorem w_t3 : (((words1.drop 24).drop 24).take 24).all (fun c => isCode c || c.before args0 about1) = true := by decide +kernel
set_option maxRecDepth 65536 in
theorem w_t4 : ((((words1.drop 24).drop 24).drop 24).take 24).all (fun c => isCode c || c.before args0 about1) = true := by decide +kernel
set_option maxRecDepth 65536 in
theorem w_t5 : (((((words1.drop 24).drop 24).drop 24).drop 24).take 24).all (fun c => isCode c || c.before args0 about1) = true := by decide +kernel
set_option maxRecDepth 65536 in
theorem w_t6 : (((((words1.drop 24).drop 24).drop 24).drop 24).drop 24).all (fun c => isCode c || c.before args0 about1) = true := by decide +kernel
theorem w_tables : (allAtoms (Jvm.Cond.code x code maxLocals ret :: tables_1)).before args0 about1 = true := by
  rw [allAtoms_all]
  show words1.all (fun c => c.before args0 about1) = true
  refine all_split ?_ w_codes
  rw [← List.take_append_drop 24 words1, List.all_append, w_t1, ← List.take_append_drop 24 (words1.drop 24), List.all_append, w_t2, ← List.take_append_drop 24 ((words1.drop 24).drop 24), List.all_append, w_t3, ← List.take_append_drop 24 (((words1.drop 24).drop 24).drop 24), List.all_append, w_t4, ← List.take_append_drop 24 ((((words1.drop 24).drop 24).drop 24).drop 24), List.all_append, w_t5, w_t6]
  rfl
set_option maxRecDepth 65536 in
theorem w_rest : rest_1_c.before args0 about1 = true := by decide +kernel
set_option maxRecDepth 65536 in
theorem w_case : (Jvm.Cond.and given_1 narrow_1).before args0 about1 = true := by decide +kernel
set_option maxRecDepth 65536 in
theorem w_consts : constsHeld consts_1 about1 := Jvm.Lit.constsHeldB_iff.mp (by decide +kernel)
theorem w_applies : (headSpec (Jvm.Cond.code x code maxLocals ret :: tables_1) room_1).applies x e0.platform about1 = true :=
  (Spec.applies_iff w_frames).mpr ⟨w_running, w_runnable, w_alone, w_named, w_hears, w_ripe, w_room, w_tables⟩
theorem atStart : AtStart classFile x code maxLocals ret World_1 tables_1 room_1 Calls_1 rest_1 Pre_1 launch0 p0 e0 about1 theMethod args0 below0 :=
  ⟨lists_1, trivial, launch0.admits_env _ _ _, launch0.least_env, fairChoices_fair.cas, fairChoices_fair.clock, w_frames, w_args, w_heap, w_applies, ⟨w_consts, trivial⟩, w_rest, w_case⟩
end start1
theorem witness_1 : WitnessClaimed_1 := ⟨start1.p0, start1.e0, start1.about1, start1.theMethod, start1.args0, start1.below0, start1.atStart⟩
end Jvm.Pilot.@@N@@
